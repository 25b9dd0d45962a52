/- The lexer at the end of an address: its selection with its room, a bracket or none, its error against io.EOF. Conditions: as for its first steps. -/
import Derived.Test.YtngmdgefecebmaaDoorLxB
namespace Go.Proofs.YtngmdgefecebmaaDoor
open Go.RowKit
set_option linter.unusedVariables false
set_option linter.unusedSimpArgs false
section
variable {w w' : World} {gl g c pos start : Nat} {A : Option Addr} {l : List UInt8}
theorem lexeme_cap (h : Lx w gl g A c l pos start) (hlt : start < pos) :
    Calls Tryd.prog 43 #[.pointer (some ⟨g, 0, none⟩)] w fun e w' => ∃ b o c' m n, e = .returned (.slice (some ⟨b, o, none⟩) m c') ∧ m ≤ c' ∧ m ≤ 2147483647 ∧ BS w (some ⟨b, o, none⟩) (sel l start pos) ∧ (sel l start pos).length = m ∧ w' = w.drewN n := by
  have hp := h.np
  have hs := h.sp
  have hl := h.hl
  have hi := h.inp
  obtain ⟨b, o, rfl, _, _⟩ := hi.bs.form (by simp)
  have c0 := hi.c0
  have c1 := hi.c1
  have c2 := hi.c2
  have hr := hi.room
  have k1 : (start : Int) ≤ (pos : Int) := by omega
  have k2 : (pos : Int) ≤ (c : Int) := by omega
  have k3 : (pos : Int) ≤ (l.length : Int) + 1 := by omega
  have Hs2 := hide (sel_bs hi.bs hp hs)
  have Hsl := hide (sel_len (l := l) (start := start) hp)
  have k4 : ¬ pos = start := by omega
  clear h hi
  go_enter Tryd.func43, Tryd.ntmps43
  go_wp2
  go_quiet (fail)
  go_wp2
  go_ret
  exact ⟨_, _, _, _, _, rfl, by omega, by omega, Hs2.out, Hsl.out, rfl⟩
theorem seen_no {x : UInt8} (hs : Seen l (pos + 0) x) (hn : l[pos]? ≠ some 41) : ((x.toNat : Int) == 41) = false := by
  rw [beq_eq_false_iff_ne]
  intro e
  rcases hs with hs | hs
  · obtain rfl : x = 41 := UInt8.toNat_inj.1 (by have e2 : x.toNat = 41 := (by omega); rw [e2]; rfl)
    exact hn hs.1
  · omega
theorem seen_yes {x : UInt8} (hs : Seen l (pos + 0) x) (hy : l[pos]? = some 41) : x = 41 := by
  rcases hs with hs | hs
  · have h1 : l[pos]? = some x := hs.1
    rw [hy] at h1
    injection h1 with h1
    exact h1.symm
  · obtain ⟨h1, _⟩ := List.getElem?_eq_some_iff.1 hy
    omega
/-- No closing bracket is here. -/
theorem byte41_no (h : Lx w gl g A c l pos start) (hn : l[pos]? ≠ some 41) :
    Calls Tryd.prog 39 #[.pointer (some ⟨gl, 0, none⟩), .int .u8 41] w fun e w' => e = .returned (.bool false) ∧ w = w' := by
  have c0 := h.cell
  have Hn := hide hn
  clear hn
  go_enter Tryd.func39, Tryd.ntmps39
  go_wp2_with (go_at_call 16; (with_reducible refine (lpeek0 h (by have := h.np; omega)).mono ?_); rintro e w2 ⟨x0, rfl, hs0, rfl⟩; have hx0 := seen_no hs0 Hn.out)
  go_ret
  exact ⟨rfl, rfl⟩
/-- A closing bracket is here. -/
theorem byte41_yes (h : Lx w gl g A c l pos start) (hy : l[pos]? = some 41) :
    Calls Tryd.prog 39 #[.pointer (some ⟨gl, 0, none⟩), .int .u8 41] w (LxRet (.bool true) gl g A c l (pos + 1) start w) := by
  have c0 := h.cell
  have hlt : pos + 1 ≤ l.length := by
    obtain ⟨h1, _⟩ := List.getElem?_eq_some_iff.1 hy
    omega
  have Hy := hide hy
  clear hy
  go_enter Tryd.func39, Tryd.ntmps39
  go_wp2_with (first
    | (go_at_call 16; (with_reducible refine (lpeek0 h (by have := h.np; omega)).mono ?_); rintro e w2 ⟨x0, rfl, hs0, rfl⟩; obtain rfl := seen_yes hs0 Hy.out; have hx0 : ((41 : UInt8).toNat : Int) = 41 := rfl; rw [hx0])
    | (go_at_call 17; (with_reducible refine (lmove1 h hlt).mono ?_); rintro e w2 ⟨rfl, hL, hg⟩))
  go_ret
  exact ⟨rfl, hL, hg⟩
end
/-- An operation of two operands whose run is known, in a region that draws and only reads. -/
theorem quiet_bin {P : Program} {o : Oper} {a : Act} {C : World → Prop} {K : Act → Prop} (b : BinOp) (t t' : TypeId) (x y : Operand) (vx vy v : Value) (ho : o.op = .binOp b t x y t') (hx : a.eval x = vx) (hy : a.eval y = vy) (hg : eqGuard b t x y vx vy = pure ())
    (hrun : ∀ w, (binOp b t vx vy).run P w = .ok v w) (hk : K (a.put o.dst v)) : o.quiet P a C K :=
  ⟨v, fun w _ => by
    unfold Oper.quietAt execOp
    subst hx hy
    simp only [ho, hg, Sem.run_bind, Sem.run_pure, Result.andThen_ok, hrun]
    exact ⟨rfl, rfl⟩, hk⟩
theorem errI : Tryd.prog.underlying 42 = some (.interface #[("Error", 62)]) := by kernel_rfl
theorem run_neq_ptr_same {P : Program} (w : World) {ti tp te : TypeId} {ms : Array (String × TypeId)} {i j : TypeInfo} (a : Addr)
    (hi : P.underlying ti = some (.interface ms)) (hp : P.underlying tp = some (.pointer te)) (hinfo : P.info? tp = some i) (hcomp : i.comparable = true) (hte : P.info? te = some j) :
    (binOp .neq ti (.iface tp (.pointer (some a))) (.iface tp (.pointer (some a)))).run P w = .ok (.bool false) w := by
  simp only [binOp]
  simp [Op.equal, Op.maxDepth, run_equalIn_iface_ptr_same w 9998 a hi hp hinfo hcomp hte]
theorem run_neq_nil_left {P : Program} (w : World) {ti : TypeId} {ms : Array (String × TypeId)} (tp : TypeId) (v : Value) (hi : P.underlying ti = some (.interface ms)) :
    (binOp .neq ti .nilIface (.iface tp v)).run P w = .ok (.bool true) w := by
  have h : ∀ d : Nat, (Op.equalIn (d + 1) ti .nilIface (.iface tp v)).run P w = .ok false w := fun d => by simp [Op.equalIn, run_underlying hi]
  simp only [binOp]
  simp [Op.equal, Op.maxDepth, h 9999]
end Go.Proofs.YtngmdgefecebmaaDoor
