/- What the copy of a list of bytes, and the test whether two are the same, do. Conditions: the lists are shorter than 2^31. -/
import Derived.Test.YtnepjlfkbmindaaDoorWords
namespace Go.Proofs.YtnepjlfkbmindaaDoor
open Go.RowKit

set_option maxHeartbeats 400000 in
theorem copy_any (A : Option Addr) (l : List UInt8) (c : Nat) (w : World) (h : BS w A l) (hl : l.length ≤ 2147483647) :
    Calls Tryd.prog 17 #[.slice A l.length c] w fun e w' =>
      e = .returned (.slice (some ⟨w.heap.size, 0, none⟩) l.length l.length) ∧ Blk8 w' w.heap.size l ∧ Below w.heap.size w w' := by
  have hmk := run_make_row' (P := Tryd.prog) 26 5 (.int .u8 0) 1 Tryd.underlying26 u8_info rfl .i64 .i64 l.length (by omega) (by omega)
  obtain ⟨w1, hcp, hb1, hg1, hz1⟩ := run_copy8 (P := Tryd.prog) 26 3 Tryd.underlying26 (by kernel_rfl) (made8 w l.length) (h.alloc _) 0 l.length l.length c l.length (by omega) (by simp)
  simp only [List.take_zero, List.nil_append, Nat.zero_add, List.take_length, List.drop_replicate, Nat.sub_self, List.replicate_zero, List.append_nil] at hb1
  have Hb1 := hide hb1
  clear hb1
  have Hz1 := hide hz1
  clear hz1
  go_enter Tryd.func17, Tryd.ntmps17
  go_wp2
  go_ret
  exact ⟨rfl, Hb1.out, ((Below.refl _ _).alloc (Nat.le_refl _) _).grown hg1 (by simp) (fun k hk => by simp at hk; omega)⟩
end Go.Proofs.YtnepjlfkbmindaaDoor
