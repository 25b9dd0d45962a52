/- The walk of 'laws.FnSqueezed': it returns true for every list of bytes. Condition: the two tables' cells. -/
import Derived.Test.YtolcffmfhllfpaaDoorSqI
import Derived.Test.YtolcffmfhllfpaaDoorCopy
import Derived.Test.YtolcffmfhllfpaaDoorSame
import Derived.LaidMore
namespace Go.Proofs.YtolcffmfhllfpaaDoor
open Go.RowKit
set_option linter.unusedVariables false

theorem iSq_any (a : Option Addr) (l : List UInt8) (c : Nat) (W : World) (bs : BS W a l) (h1 : l.length ≤ 2147483647) (ht : WsTab W) (hn : NlTab W) :
    Calls Tryd.prog 8 #[.slice a l.length c] W (SqSRet l W) := by
  have hgw : W.heap.size ≠ 0 := by have := ht.lt; omega
  have hgn : W.heap.size ≠ 1 := by have := hn.lt; omega
  have Ht := hide ht
  have Hn := hide hn
  have Hgw := hide hgw
  have Hgn := hide hgn
  clear ht hn hgw hgn
  go_enter Tryd.func8, Tryd.ntmps8
  go_wp2_with fail
  refine (copy_any _ _ _ _ bs h1).mono ?_
  rintro e w1 ⟨rfl, hb, hB⟩
  go_wp2_with fail
  refine (sqI_any _ _ _ hb h1 (Ht.out.below hB) (Hn.out.below hB) Hgw.out Hgn.out).mono ?_
  rintro e w2 ⟨A', c', rfl, hb2, hg⟩
  go_wp2
  go_ret
  exact ⟨A', c', rfl, hb2, hB.grown hg hB.size (fun k hk => by injection hk with hk; omega)⟩

set_option maxHeartbeats 400000 in
theorem fnSqueezed_walk (a : Option Addr) (l : List UInt8) (c : Nat) (W : World) (bs : BS W a l) (ht : WsTab W) (hn : NlTab W) :
    Calls Tryd.prog 4 #[.slice a l.length c] W fun e w' => e = .returned (.bool true) ∧ Below W.heap.size W w' := by
  have Ht := hide ht
  have Hn := hide hn
  clear ht hn
  by_cases h1 : 2147483647 < l.length
  · go_enter Tryd.func4, Tryd.ntmps4
    go_wp2
    go_ret
    exact ⟨rfl, Below.refl _ _⟩
  · by_cases h2 : 5000 < l.length
    · go_enter Tryd.func4, Tryd.ntmps4
      go_wp2
      go_ret
      exact ⟨rfl, Below.refl _ _⟩
    · go_enter Tryd.func4, Tryd.ntmps4
      go_wp2_with fail
      refine (iSq_any _ _ _ _ bs (by omega) Ht.out Hn.out).mono ?_
      rintro e w1 ⟨A1, c1, rfl, hb, hB⟩
      go_wp2_with fail
      refine (sqS_any _ _ _ _ (bs.below hB) (by omega)).mono ?_
      rintro e w2 ⟨A2, c2, rfl, hb2, hB2⟩
      go_wp2_with fail
      refine (same_n _ _ _ _ _ _ _ _ true _ (by simp) rfl rfl (hb.below hB2) hb2).mono ?_
      rintro e w3 ⟨rfl, rfl⟩
      go_wp2
      go_ret
      exact ⟨rfl, hB.trans (hB2.mono hB.size)⟩

theorem gWs : Tryd.prog.globalNamed "loop.example/pub-g01476/pub/tdparse.whitespaceTable" = some 0 := by kernel_rfl
theorem gNl : Tryd.prog.globalNamed "loop.example/pub-g01476/pub/tdparse.newlineTable" = some 1 := by kernel_rfl
theorem tWs : (Tryd.prog.globals[0]?).map (·.type) = some 27 := by kernel_rfl
theorem tNl : (Tryd.prog.globals[1]?).map (·.type) = some 27 := by kernel_rfl
theorem dWs {H : Type} : (Rows.laid_loop_example_pub_g01476_pub_tdparse_whitespaceTable : DataW H) = .agg ((tabList isBl).map fun z => .lit (.bool z)) := by kernel_rfl
theorem dNl {H : Type} : (Rows.laid_loop_example_pub_g01476_pub_tdparse_newlineTable : DataW H) = .agg ((tabList isNl).map fun z => .lit (.bool z)) := by kernel_rfl
theorem fnSqueezed_ws {W : World} (h : laidMetH Tryd.prog Rows.fnSqueezedRow.laid W) : WsTab W := by
  rw [MakeChecks.laidMetH_plain _ _ _ (by kernel_rfl)] at h
  obtain ⟨ps, ⟨g0, t0, cs0, f0, p0, q0, hg0, ht0, hv0, hd0, _, _⟩, _, _⟩ := h
  obtain rfl := Option.some.inj (gWs.symm.trans hg0)
  obtain rfl := Option.some.inj (tWs.symm.trans ht0)
  rw [dWs] at hd0
  exact tabOf_list gWs hv0 Tryd.underlying27 Tryd.underlying4 (by kernel_rfl) (by kernel_rfl) hd0
theorem fnSqueezed_nl {W : World} (h : laidMetH Tryd.prog Rows.fnSqueezedRow.laid W) : NlTab W := by
  rw [MakeChecks.laidMetH_plain _ _ _ (by kernel_rfl)] at h
  obtain ⟨ps, ⟨g0, t0, cs0, f0, p0, q0, hg0, ht0, hv0, hd0, ⟨g1, t1, cs1, f1, p1, q1, hg1, ht1, hv1, hd1, _, _⟩, _⟩, _, _⟩ := h
  obtain rfl := Option.some.inj (gNl.symm.trans hg1)
  obtain rfl := Option.some.inj (tNl.symm.trans ht1)
  rw [dNl] at hd1
  exact tabOf_list gNl hv1 Tryd.underlying27 Tryd.underlying4 (by kernel_rfl) (by kernel_rfl) hd1
end Go.Proofs.YtolcffmfhllfpaaDoor
