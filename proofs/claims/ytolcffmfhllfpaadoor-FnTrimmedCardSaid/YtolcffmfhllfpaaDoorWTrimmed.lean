/- The walk of 'laws.FnTrimmed': it returns true for every list of bytes. Condition: the table's cells; the list is within its capacity. -/
import Derived.Test.YtolcffmfhllfpaaDoorTrimI
import Derived.Test.YtolcffmfhllfpaaDoorSame
import Derived.LaidMore
namespace Go.Proofs.YtolcffmfhllfpaaDoor
open Go.RowKit
set_option linter.unusedVariables false

theorem trimW_any (A : Option Addr) (l : List UInt8) (c : Nat) (w : World) (hs : BS w A l) (h1 : l.length ≤ 2147483647) (h2 : l.length ≤ c) (ht : WsTab w) :
    Calls Tryd.prog 6 #[.slice A l.length c] w (TrimRet l w) := by
  go_enter Tryd.func6, Tryd.ntmps6
  go_wp2_with (go_at_call 10; refine (trimI_any _ _ _ _ hs h1 h2 ht).mono ?_; rintro e w1 ⟨A', c', rfl, hb, rfl⟩)
  go_ret
  exact ⟨A', c', rfl, hb, rfl⟩

set_option maxHeartbeats 400000 in
theorem fnTrimmed_walk (a : Option Addr) (l : List UInt8) (c : Nat) (W : World) (bs : BS W a l) (hc : l.length ≤ c) (ht : WsTab W) :
    Calls Tryd.prog 3 #[.slice a l.length c] W fun e w' => e = .returned (.bool true) ∧ Below W.heap.size W w' := by
  have Ht := hide ht
  clear ht
  by_cases h1 : 2147483647 < l.length
  · go_enter Tryd.func3, Tryd.ntmps3
    go_wp2
    go_ret
    exact ⟨rfl, Below.refl _ _⟩
  · by_cases h2 : 5000 < l.length
    · go_enter Tryd.func3, Tryd.ntmps3
      go_wp2
      go_ret
      exact ⟨rfl, Below.refl _ _⟩
    · go_enter Tryd.func3, Tryd.ntmps3
      go_wp2_with fail
      refine (trimW_any _ _ _ _ bs (by omega) hc Ht.out).mono ?_
      rintro e w1 ⟨A1, c1, rfl, hb, rfl⟩
      go_wp2_with fail
      refine (trimS_any _ _ _ _ bs (by omega) hc).mono ?_
      rintro e w2 ⟨A2, c2, rfl, hb2, rfl⟩
      go_wp2_with fail
      refine (same_n _ _ _ _ _ _ _ _ true _ (by simp) rfl rfl hb hb2).mono ?_
      rintro e w3 ⟨rfl, rfl⟩
      go_wp2
      go_ret
      exact ⟨rfl, Below.refl _ _⟩

theorem gWs : Tryd.prog.globalNamed "loop.example/pub-g01476/pub/tdparse.whitespaceTable" = some 0 := by kernel_rfl
theorem tWs : (Tryd.prog.globals[0]?).map (·.type) = some 27 := by kernel_rfl
theorem dWs {H : Type} : (Rows.laid_loop_example_pub_g01476_pub_tdparse_whitespaceTable : DataW H) = .agg ((tabList isBl).map fun z => .lit (.bool z)) := by kernel_rfl
theorem fnTrimmed_ws {W : World} (h : laidMetH Tryd.prog Rows.fnTrimmedRow.laid W) : WsTab W := by
  rw [MakeChecks.laidMetH_plain _ _ _ (by kernel_rfl)] at h
  obtain ⟨ps, ⟨g0, t0, cs0, f0, p0, q0, hg0, ht0, hv0, hd0, _, _⟩, _, _⟩ := h
  obtain rfl := Option.some.inj (gWs.symm.trans hg0)
  obtain rfl := Option.some.inj (tWs.symm.trans ht0)
  rw [dWs] at hd0
  exact tabOf_list gWs hv0 Tryd.underlying27 Tryd.underlying4 (by kernel_rfl) (by kernel_rfl) hd0
end Go.Proofs.YtolcffmfhllfpaaDoor
