/- The reading of a media type without parameters. Condition: the text is a media type as the law writes it. -/
import Derived.Test.YtndoaeipcdcahaaIMed
namespace Go.Proofs.Ytndoaeipcdcahaa
open Go.RowKit Go.Maps
set_option linter.unusedVariables false
set_option linter.unusedSimpArgs false
set_option maxRecDepth 100000 in
set_option maxHeartbeats 4000000 in
theorem med_none (b o n c : Nat) (l : List UInt8) (w : World) (bs : BS w (some ⟨b, o, none⟩) l) (hn : l.length = n) (hc : n ≤ c) (h5 : n ≤ 5000) (h3 : 3 ≤ n) (hcl : Clean l) :
    Calls Try.prog 11 #[.slice (some ⟨b, o, none⟩) n c] w fun e w' => e = .returned (.tuple #[.slice (some ⟨b, o, none⟩) n c, .map none]) ∧ w = w' := by
  have Hn := hide hn
  have Hcl := hide hcl
  have Hbs := hide bs
  obtain ⟨x0, hx0⟩ : ∃ x, l[0]? = some x := ⟨_, List.getElem?_eq_getElem (by omega)⟩
  obtain ⟨b1, o1, e1, cell0⟩ := bs.at_ hx0
  obtain ⟨rfl, rfl⟩ : b = b1 ∧ o = o1 := by simpa using e1
  obtain ⟨q1, q2, q3⟩ := clean_at hcl hx0
  have cell0' : w.cell? ⟨b, o, none⟩ = some (.int .u8 (x0.toNat : Int)) := cell0
  have hn0 : decide ((0 : Int) < (n : Int)) = true := decide_eq_true (by omega)
  clear hn hcl bs e1 hx0 cell0
  go_enter Try.func11, Try.ntmps11
  go_wp2
  go_loopg [4] 1 (fun gk iv wr => iv = .int .i64 0 ∧ w = wr)
  case atStart => exact ⟨rfl, rfl⟩
  case round =>
    obtain ⟨rfl, rfl⟩ := hrel
    go_wp2
    clear hn0 cell0' q1 q2 q3
    go_loopg [6, 7, 8] n (fun gk sv mv iv wr => ∃ i : Nat, n - i ≤ gk ∧ i ≤ n ∧ sv = .slice (some ⟨b, o, none⟩) n c ∧ mv = .map none ∧ iv = .int .i64 (i : Int) ∧ w = wr)
    case atStart => exact ⟨3, by omega, h3, rfl, rfl, by go_num, rfl⟩
    case round =>
      obtain ⟨i, hgk, him, rfl, rfl, rfl, rfl⟩ := hrel
      by_cases hi : i < n
      · obtain ⟨x, hx⟩ : ∃ x, l[i]? = some x := ⟨_, List.getElem?_eq_getElem (by have := Hn.out; omega)⟩
        obtain ⟨b1, o1, e1, cell1⟩ := Hbs.out.at_ hx
        obtain ⟨rfl, rfl⟩ : b = b1 ∧ o = o1 := by simpa using e1
        obtain ⟨q1, q2, q3⟩ := clean_at Hcl.out hx
        have hin : (i : Int) < (n : Int) := by omega
        clear hx e1
        go_wp2
        go_roundg (n - (i + 1))
        case rel => exact ⟨i + 1, Nat.le_refl _, by omega, rfl, rfl, by go_num, rfl⟩
        case measure => omega
      · have hin : ¬ (i : Int) < (n : Int) := by omega
        go_wp2
        go_ret2
        exact ⟨rfl, rfl⟩
set_option maxRecDepth 100000 in
set_option maxHeartbeats 4000000 in
theorem imed_none (b o n c : Nat) (w : World) (hcall : Calls Try.prog 11 #[.slice (some ⟨b, o, none⟩) n c] w fun e w' => e = .returned (.tuple #[.slice (some ⟨b, o, none⟩) n c, .map none]) ∧ w = w') :
    Calls Try.prog 7 #[.slice (some ⟨b, o, none⟩) n c] w (IMedRet b o n c [] w) := by
  go_enter Try.func7, Try.ntmps7
  go_upto_region 3 with (go_at_call 11; refine hcall.mono ?_; rintro e w2 ⟨rfl, rfl⟩)
  obtain ⟨W3, hW3⟩ : ∃ W3, (w.alloc (.cells #[] 9)).alloc (.cells #[] 9) = W3 := ⟨_, rfl⟩
  have hsz3 : W3.heap.size = w.heap.size + 2 := by rw [← hW3]; simp
  have hk3 : W3.ownsRow w.heap.size 9 1 (.slice (some ⟨w.heap.size, 0, none⟩) 0 0) 0 (([] : List (List UInt8)).map sv) := by rw [← hW3]; exact (World.ownsRow_made w #[] 0 (Nat.le_refl _) (by simp [maxLen]) rfl).alloc _
  have hv3 : W3.ownsRow w.heap.size 9 1 (.slice (some ⟨w.heap.size + 1, 0, none⟩) 0 0) 0 (([] : List (List UInt8)).map sv) := by
    rw [← hW3]
    have := World.ownsRow_made (base := w.heap.size) (e := 9) (size := 1) (w.alloc (.cells #[] 9)) #[] 0 (by simp) (by simp [maxLen]) rfl
    simpa using this
  have hb3 : Below w.heap.size w W3 := by rw [← hW3]; exact ((Below.refl _ _).alloc (Nat.le_refl _) _).alloc (by simp) _
  rw [hW3]
  have hrg := run_range_nilMap (P := Try.prog) W3 32 9 9 Try.underlying32
  have hnx : ∀ ty, (Instr.next (.pointer (some ⟨W3.heap.size, 0, none⟩)) false ty).run Try.prog (W3.alloc (.mapIter none 0 #[] 0)) = _ := fun ty => run_next_nilMap _ ty 0 0 #[]
  have hk4 : Strs (W3.alloc (.mapIter none 0 #[] 0)) w.heap.size w.heap.size 0 0 [] := hk3.alloc _
  have hv4 := hv3.alloc (.mapIter none 0 #[] 0)
  have hb4 := hb3.alloc hb3.size (.mapIter none 0 #[] 0)
  have Hk4 := hide hk4
  have Hv4 := hide hv4
  have Hb4 := hide hb4
  clear hk4 hv4 hb4 hk3 hv3 hb3 hsz3 hW3
  go_wp2
  go_loopg [7] 1 (fun gk v wr => v = .slice (some ⟨w.heap.size, 0, none⟩) 0 0 ∧ W3.alloc (.mapIter none 0 #[] 0) = wr)
  case atStart => exact ⟨rfl, rfl⟩
  case round =>
    obtain ⟨rfl, rfl⟩ := hrel
    go_wp2_with (go_at_call 12; refine (strings_any _ Hk4.out (Nat.zero_le _)).mono ?_; rintro e w5 ⟨rfl, ys, hp, hs, hg5⟩)
    have hv5 := row_kept Hv4.out hg5 (fun b hb e => by rw [← hb] at e; simp [blk] at e)
    have hb5 := Hb4.out.grown hg5 Hb4.out.size (fun k e => by injection e with e; omega)
    have Hv5 := hide hv5
    have Hb5 := hide hb5
    have Hs := hide hs
    have Hp := hide hp
    clear hv5 hb5 hs hp hg5
    go_loopg [8, 33] 1 (fun gk v iv wr => v = .slice (some ⟨w.heap.size + 1, 0, none⟩) 0 0 ∧ iv = .int .i64 0 ∧ w5 = wr)
    case atStart => exact ⟨rfl, rfl, rfl⟩
    case round =>
      obtain ⟨rfl, rfl, rfl⟩ := hrel
      go_wp2
      go_ret3
      exact ⟨_, _, _, _, _, ys, [], rfl, Hs.out, Hv5.out, Hp.out, fun i p hp => by simp at hp, Hb5.out⟩
end Go.Proofs.Ytndoaeipcdcahaa
