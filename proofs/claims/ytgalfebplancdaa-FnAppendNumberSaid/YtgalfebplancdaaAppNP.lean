/- What the walks of AppendNumber share: the length of a rune below 128, its writing into a row, the length of an integer. -/
import Derived.Test.YtgalfebplancdaaGrpS
import Derived.Test.YtgalfebplancdaaApp
import Derived.Test.YtgalfebplancdaaLenI
import Derived.Test.YtgalfebplancdaaInpl
import Derived.Deep.Cut
namespace Go.Proofs.Ytgalfebplancdaa
open Go.RowKit
set_option linter.unusedVariables false

theorem runeLen_any (r : Int) (w : World) (h0 : 0 ≤ r) (h1 : r ≤ 127) : Calls Try.prog 11 #[.int .i32 r] w fun e w' => e = .returned (.int .i64 1) ∧ w = w' := by
  go_enter Try.func11, Try.ntmps11
  go_wp2
  go_ret
  exact ⟨rfl, rfl⟩
theorem encRune_any (g o n c : Nat) (r : Int) (v : Value) (w : World) (h0 : 0 ≤ r) (h1 : r ≤ 127) (hn : 0 < n) (hc : w.cell? ⟨g, o, none⟩ = some v) (hf : w.frozen? ⟨g, o, none⟩ = false) :
    Calls Try.prog 13 #[.slice (some ⟨g, o, none⟩) n c, .int .i32 r] w fun e w' => e = .returned (.int .i64 1) ∧ w.setCell ⟨g, o, none⟩ (.int .u8 r) = w' := by
  go_enter Try.func13, Try.ntmps13
  go_wp2
  go_ret
  exact ⟨rfl, rfl⟩
theorem lenInt_pos (m D : Nat) (w : World) (hD : (dec m).length = D) (hm : m < 1000000000000000) : Calls Try.prog 12 #[.int .i64 (m : Int)] w fun e w' => e = .returned (.int .i64 (D : Int)) ∧ w = w' :=
  (lenInt_any (m : Int) w (by omega) (by omega)).mono fun e w' ⟨he, hw⟩ => ⟨by rw [he, decI_pos (by omega), Int.natAbs_natCast, hD], hw⟩
theorem lenInt_neg (m D : Nat) (w : World) (hD : (dec m).length = D) (hm : m < 1000000000000000) (h0 : 0 < m) : Calls Try.prog 12 #[.int .i64 (-(m : Int))] w fun e w' => e = .returned (.int .i64 ((D : Int) + 1)) ∧ w = w' :=
  (lenInt_any (-(m : Int)) w (by omega) (by omega)).mono fun e w' ⟨he, hw⟩ => ⟨by rw [he, decI_neg (by omega), Int.natAbs_neg, Int.natAbs_natCast, List.length_cons, hD]; rfl, hw⟩
/-- 'b[lo:]' within the room. -/
theorem run_from (P : Program) (T : TypeId) (hu : P.underlying T = some (.slice 5)) (hs : (P.info? 5).map (·.size) = some 1) (g n c lo : Nat) (z : Int) (hz : z = (lo : Int)) (h1 : lo ≤ n) (h2 : lo < c) (k : IntKind) (w : World) :
    (Instr.sliceAt T (.slice (some ⟨g, 0, none⟩) n c) (some (.int k z)) none none).run P w = .ok (.slice (some ⟨g, lo, none⟩) (n - lo) (c - lo)) w := by
  subst hz
  obtain ⟨i, hi', hsz⟩ := Option.map_eq_some_iff.1 hs
  have he : P.underlying T = some (.slice (P.elem T)) := by simp [Program.elem, hu]
  have hne : ¬ c = lo := by omega
  rw [run_sliceAt_slice (h := he)]
  simp [Instr.slice, Instr.sliceBounds, Instr.sliceBound, asIntOf, run_underlying hu, sizeOf, typeInfo, hi', hsz, h1, hne]
  unfold Addr.add
  split
  · rename_i h0; subst h0; rfl
  · simp
theorem set_mid (p : List UInt8) (j : Nat) (out : List UInt8) (d : UInt8) : (p ++ List.replicate (j + 1) 0 ++ out).set (p.length + j) d = p ++ List.replicate j 0 ++ d :: out := by
  rw [List.append_assoc, List.set_append_right _ _ (by omega), Nat.add_sub_cancel_left, List.set_append_left _ _ (by simp), List.append_assoc]
  congr 1
  rw [List.replicate_succ', List.set_append_right _ _ (by simp)]
  simp
theorem get_mid (p : List UInt8) (j : Nat) (out : List UInt8) : (p ++ List.replicate (j + 1) 0 ++ out)[p.length + j]? = some 0 := by
  rw [List.append_assoc, List.getElem?_append_right (by omega), Nat.add_sub_cancel_left, List.getElem?_append_left (by simp)]
  simp
/-- What is returned: a row of the call's own with these bytes. -/
def OwnRetB (base : Nat) (l : List UInt8) (w : World) (e : Ending) (w' : World) : Prop := ∃ A' c', e = .returned (.slice A' l.length c') ∧ OwnB w' base A' l.length c' l ∧ Below base w w'
end Go.Proofs.Ytgalfebplancdaa
