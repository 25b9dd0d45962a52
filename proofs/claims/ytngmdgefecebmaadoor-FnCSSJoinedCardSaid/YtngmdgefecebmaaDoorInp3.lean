/- The making of the package's input, and its end. Conditions: lengths below 2^31; io.EOF as laid. -/
import Derived.Test.YtngmdgefecebmaaDoorInp2
import Derived.Test.YtngmdgefecebmaaDoorSnoc
import Derived.Deep.Cut
namespace Go.Proofs.YtngmdgefecebmaaDoor
open Go.RowKit
set_option linter.unusedVariables false

/-- io.EOF holds this pointer. -/
def Eof (w : World) (T : TypeId) (a : Addr) : Prop := w.cell? ⟨0, 0, none⟩ = some (.iface T (.pointer (some a)))
theorem Eof.below {w w' : World} {T : TypeId} {a : Addr} (h : Eof w T a) (hb : Below w.heap.size w w') : Eof w' T a := (hb.cell (block_lt_of_cell h)).trans h
section
variable (g c pos start : Nat) (A : Option Addr) (l : List UInt8) (w : World)
theorem peekErr_in (k : Nat) (h : Inp w g A c l pos start) (hl : l.length ≤ 2147483647) (hk : pos + k < l.length) :
    Calls Tryd.prog 47 #[.pointer (some ⟨g, 0, none⟩), .int .i64 (k : Int)] w fun e w' => e = .returned .nilIface ∧ ∃ n, w' = w.drewN n := by
  have c0 := h.c0
  have c1 := h.c1
  have c3 := h.c3
  have k1 : ¬ ((l.length : Int) ≤ (pos : Int) + (k : Int)) := by omega
  have t1 : IntKind.i64.wrap ((pos : Int) + (k : Int)) = (pos : Int) + (k : Int) := IntWalk.i64_in _ (by omega)
  clear h
  go_enter Tryd.func47, Tryd.ntmps47
  go_wp2
  go_quiet (fail)
  clear t1
  go_wp2
  go_ret
  exact ⟨rfl, _, rfl⟩
theorem peekErr_end (T : TypeId) (a : Addr) (k : Nat) (h : Inp w g A c l pos start) (he : Eof w T a) (hl : l.length ≤ 2147483647) (hk : pos + k = l.length) :
    Calls Tryd.prog 47 #[.pointer (some ⟨g, 0, none⟩), .int .i64 (k : Int)] w fun e w' => e = .returned (.iface T (.pointer (some a))) ∧ ∃ n, w' = w.drewN n := by
  have c0 := h.c0
  have c1 := h.c1
  have c3 := h.c3
  have ce : w.cell? ⟨0, 0, none⟩ = some (.iface T (.pointer (some a))) := he
  have k1 : (l.length : Int) ≤ (pos : Int) + (k : Int) := by omega
  have t1 : IntKind.i64.wrap ((pos : Int) + (k : Int)) = (pos : Int) + (k : Int) := IntWalk.i64_in _ (by omega)
  clear h he hk
  go_enter Tryd.func47, Tryd.ntmps47
  go_wp2
  go_quiet (fail)
  clear t1
  go_wp2
  go_ret
  exact ⟨rfl, _, rfl⟩
end
/-- The block of the new input, behind three new blocks. -/
theorem row_of3 (w : World) (o1 o2 o3 : Obj) : ((((w.alloc o1).alloc o2).alloc o3).heap)[w.heap.size + 1]? = some o2 := by
  have e1 : (((w.alloc o1).alloc o2).alloc o3).heap = ((w.heap.push o1).push o2).push o3 := rfl
  rw [e1, Array.getElem?_push, if_neg (by simp), Array.getElem?_push, if_pos (by simp)]
set_option maxHeartbeats 1000000 in
theorem newInput_some (g0 n : Nat) (l : List UInt8) (w0 w : World) (hn : l.length = n) (h0 : 0 < n) (hl : n ≤ 2147483647) (own : OwnB w w0.heap.size (some ⟨g0, 0, none⟩) n n l) (hb : Below w0.heap.size w0 w) :
    Calls Tryd.prog 8 #[.slice (some ⟨g0, 0, none⟩) n n] w fun e w' => ∃ g A c, e = .returned (.pointer (some ⟨g, 0, none⟩)) ∧ w0.heap.size ≤ g ∧ Inp w' g A c l 0 0 ∧ Below w0.heap.size w0 w' := by
  have hne : ((n : Int) == 0) = false := by rw [beq_eq_false_iff_ne]; omega
  have hsz := hb.size
  have hg0 := own.blk_lt g0 rfl
  obtain ⟨o1, ho1⟩ : ∃ o1 : Obj, Obj.cells #[.slice (some ⟨g0, 0, none⟩) n n] 22 = o1 := ⟨_, rfl⟩
  obtain ⟨o2, ho2⟩ : ∃ o2 : Obj, Obj.cells #[.slice (some ⟨g0, 0, none⟩) n n, .int .i64 0, .int .i64 0, .nilIface, .nilFunc] 47 = o2 := ⟨_, rfl⟩
  obtain ⟨o3, ho3⟩ : ∃ o3 : Obj, Obj.cells #[.int .i64 (n : Int)] 3 = o3 := ⟨_, rfl⟩
  have own3 := ((own.alloc o1).alloc o2).alloc o3
  have hb3 : Below w0.heap.size w0 (((w.alloc o1).alloc o2).alloc o3) := ((hb.alloc hsz o1).alloc (by simp; omega) o2).alloc (by simp; omega) o3
  have hrow3 := row_of3 w o1 o2 o3
  have hsz3 : (((w.alloc o1).alloc o2).alloc o3).heap.size = w.heap.size + 3 := by simp
  obtain ⟨W3, hW3⟩ : ∃ W3, ((w.alloc o1).alloc o2).alloc o3 = W3 := ⟨_, rfl⟩
  rw [hW3] at own3 hb3 hrow3 hsz3
  have hsz3' := hb3.size
  obtain ⟨A2, c2, w2, hrun, own2, hg2, hblk⟩ := run_append8 (P := Tryd.prog) 22 22 Tryd.underlying22 u8_info (own3.alloc (.cells #[.int .u8 0] 5)) (BS.lit rfl [0] _ 5 (0, 0) rfl) 1 1 rfl (by omega) (by simp; omega)
  have hbel2 := (own3.alloc (.cells #[.int .u8 0] 5)).bel (hb3.alloc hsz3' _) hg2 (by simp; omega)
  have hA2 : ∀ b o, A2 = some ⟨b, o, none⟩ → b ≠ w.heap.size + 1 := fun b o e => by
    subst e
    rcases hblk with e | e
    · injection e with e
      have e : b = g0 := e
      omega
    · injection e with e
      have e : b = (W3.alloc (.cells #[.int .u8 0] 5)).heap.size := e
      simp at e
      omega
  have hrow2 : w2.heap[w.heap.size + 1]? = some o2 := by
    have h1 : (W3.alloc (.cells #[.int .u8 0] 5)).heap[w.heap.size + 1]? = some o2 := (Below.heap_alloc W3 _ _ (by omega)).trans hrow3
    refine (hg2.block _ (by simp; omega) ?_).trans h1
    intro e
    injection e with e
    have e : w.heap.size + 1 = g0 := e
    omega
  have hinp : Inp (w2.setCell ⟨w.heap.size + 1, 0, none⟩ (.slice A2 (n + 1) c2)) (w.heap.size + 1) A2 c2 l 0 0 := by
    refine ⟨?_, own2.bs.far (fun b o e => hA2 b o e) _, hA2, by have := own2.le.1; omega⟩
    rw [← ho2] at hrow2
    simp [World.setCell, Array.getElem?_modify, hrow2, hn]
  have cellz : w2.cell? ⟨w.heap.size + 1, 0, none⟩ = some (.slice (some ⟨g0, 0, none⟩) n n) := by rw [← ho2] at hrow2; simp [World.cell?, hrow2]
  have frzz : w2.frozen? ⟨w.heap.size + 1, 0, none⟩ = false := by rw [← ho2] at hrow2; simp [World.frozen?, hrow2]
  have Hinp := hide hinp
  have Hbel := hide (hbel2.setCell (p := ⟨w.heap.size + 1, 0, none⟩) (by show w0.heap.size ≤ w.heap.size + 1; omega) (.slice A2 (n + 1) c2))
  have hlt2 : w.heap.size + 1 < w2.heap.size := (Array.getElem?_eq_some_iff.1 hrow2).1
  rw [hsz3] at hrun
  rw [← hW3, ← ho1, ← ho2, ← ho3] at hrun
  have Hrun := hide hrun
  have Hn := hide hn
  clear hrun hn hinp hbel2 own own2 own3 hg2 hblk hA2 hrow2 hrow3 hW3 ho1 ho2 ho3 hb3 hsz3 hsz3' hb
  go_enter Tryd.func8, Tryd.ntmps8
  go_wp2_with (at_builtin; (with_reducible refine wpList_append_runG Hrun.out _ _ ?_ rfl rfl ?_ ?_ ?_); (rfl); (rfl); (rfl))
  go_ret
  exact ⟨w.heap.size + 1, A2, c2, rfl, by omega, Hinp.out, Hbel.out⟩
theorem newInput_none (A0 : Option Addr) (c0 : Nat) (w : World) :
    Calls Tryd.prog 8 #[.slice A0 0 c0] w fun e w' => ∃ g A c, e = .returned (.pointer (some ⟨g, 0, none⟩)) ∧ w.heap.size ≤ g ∧ Inp w' g A c [] 0 0 ∧ Below w.heap.size w w' := by
  go_enter Tryd.func8, Tryd.ntmps8
  go_wp2_with (go_in)
  go_ret
  refine ⟨w.heap.size + 1, some ⟨w.heap.size + 1 + 1 + 1, 0, none⟩, 1, rfl, by omega, ⟨?_, ?_, ?_, ?_⟩, ?_⟩
  · exact (Below.heap_alloc _ _ _ (by simp)).trans (row_of3 w _ _ _)
  · exact BS.lit (by simp) [0] _ _ (0, 0) rfl
  · intro b o e
    injection e with e
    injection e with e1 e2 e3
    omega
  · simp
  · exact ((((Below.refl _ _).alloc (Nat.le_refl _) _).alloc (by simp) _).alloc (by simp; omega) _).alloc (by simp; omega) _
end Go.Proofs.YtngmdgefecebmaaDoor
