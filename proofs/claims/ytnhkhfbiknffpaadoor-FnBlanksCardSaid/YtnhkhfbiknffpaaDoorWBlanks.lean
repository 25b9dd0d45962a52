/- The walk of 'laws.FnBlanks': it returns true for every byte. Condition: the two tables' cells. -/
import Derived.Test.YtnhkhfbiknffpaaDoorTab
import Derived.LaidMore
namespace Go.Proofs.YtnhkhfbiknffpaaDoor
open Go.RowKit
set_option linter.unusedVariables false

theorem isWsI_n (n : Int) (c : UInt8) (b : Bool) (w : World) (hn : (c.toNat : Int) = n) (hb : isBl c = b) (ht : WsTab w) :
    Calls Tryd.prog 5 #[.int .u8 n] w fun e w' => e = .returned (.bool b) ∧ w = w' := by
  subst hn hb
  exact isWsI_any c w ht
theorem isNlI_n (n : Int) (c : UInt8) (b : Bool) (w : World) (hn : (c.toNat : Int) = n) (hb : isNl c = b) (ht : NlTab w) :
    Calls Tryd.prog 6 #[.int .u8 n] w fun e w' => e = .returned (.bool b) ∧ w = w' := by
  subst hn hb
  exact isNlI_any c w ht

set_option maxHeartbeats 400000 in
theorem fnBlanks_walk (x : Int) (W : World) (wx : (Lit.int .u8 x).wf = true) (ht : WsTab W) (hn : NlTab W) :
    Calls Tryd.prog 3 #[.int .u8 x] W fun e w' => e = .returned (.bool true) ∧ Below W.heap.size W w' := by
  have hb := bounds_u8 wx
  obtain ⟨c, rfl⟩ : ∃ c : UInt8, x = (c.toNat : Int) := ⟨UInt8.ofNat x.toNat, by rw [UInt8.toNat_ofNat']; omega⟩
  clear wx hb
  have h256 := c.toNat_lt
  go_enter Tryd.func3, Tryd.ntmps3
  go_wp2_with fail
  refine (isWsI_n _ 32 true _ (by rfl) (by rfl) ht).mono ?_
  rintro e w1 ⟨rfl, rfl⟩
  go_wp2_with fail
  refine (isNlI_n _ 10 true _ (by rfl) (by rfl) hn).mono ?_
  rintro e w1 ⟨rfl, rfl⟩
  go_wp2_with fail
  refine (isWsI_any _ _ ht).mono ?_
  rintro e w1 ⟨rfl, rfl⟩
  go_wp2_with fail
  refine (isBlS_any _ _).mono ?_
  rintro e w1 ⟨rfl, rfl⟩
  go_wp2_with fail
  refine (isNlI_any _ _ hn).mono ?_
  rintro e w1 ⟨rfl, rfl⟩
  go_wp2
  all_goals go_ret
  all_goals first | exact ⟨ret_bool (isNl_true (by omega)), Below.refl _ _⟩ | exact ⟨ret_bool (by rw [isNl_beq]; simp), Below.refl _ _⟩

theorem gWs : Tryd.prog.globalNamed "loop.example/pub-g01476/pub/tdparse.whitespaceTable" = some 0 := by kernel_rfl
theorem gNl : Tryd.prog.globalNamed "loop.example/pub-g01476/pub/tdparse.newlineTable" = some 1 := by kernel_rfl
theorem tWs : (Tryd.prog.globals[0]?).map (·.type) = some 26 := by kernel_rfl
theorem tNl : (Tryd.prog.globals[1]?).map (·.type) = some 26 := by kernel_rfl
theorem dWs {H : Type} : (Rows.laid_loop_example_pub_g01476_pub_tdparse_whitespaceTable : DataW H) = .agg ((tabList isBl).map fun z => .lit (.bool z)) := by kernel_rfl
theorem dNl {H : Type} : (Rows.laid_loop_example_pub_g01476_pub_tdparse_newlineTable : DataW H) = .agg ((tabList isNl).map fun z => .lit (.bool z)) := by kernel_rfl
theorem fnBlanks_ws {W : World} (h : laidMetH Tryd.prog Rows.fnBlanksRow.laid W) : WsTab W := by
  rw [MakeChecks.laidMetH_plain _ _ _ (by kernel_rfl)] at h
  obtain ⟨ps, ⟨g0, t0, cs0, f0, p0, q0, hg0, ht0, hv0, hd0, _, _⟩, _, _⟩ := h
  obtain rfl := Option.some.inj (gWs.symm.trans hg0)
  obtain rfl := Option.some.inj (tWs.symm.trans ht0)
  rw [dWs] at hd0
  exact tabOf_list gWs hv0 Tryd.underlying26 Tryd.underlying4 (by kernel_rfl) (by kernel_rfl) hd0
theorem fnBlanks_nl {W : World} (h : laidMetH Tryd.prog Rows.fnBlanksRow.laid W) : NlTab W := by
  rw [MakeChecks.laidMetH_plain _ _ _ (by kernel_rfl)] at h
  obtain ⟨ps, ⟨g0, t0, cs0, f0, p0, q0, hg0, ht0, hv0, hd0, ⟨g1, t1, cs1, f1, p1, q1, hg1, ht1, hv1, hd1, _, _⟩, _⟩, _, _⟩ := h
  obtain rfl := Option.some.inj (gNl.symm.trans hg1)
  obtain rfl := Option.some.inj (tNl.symm.trans ht1)
  rw [dNl] at hd1
  exact tabOf_list gNl hv1 Tryd.underlying26 Tryd.underlying4 (by kernel_rfl) (by kernel_rfl) hd1
end Go.Proofs.YtnhkhfbiknffpaaDoor
