/- Small steps of the reading of a text of CSS: the copy, the new lexer, its error. Conditions: as for the lexer's steps. -/
import Derived.Test.YtngmdgefecebmaaDoorCs
import Derived.Test.YtngmdgefecebmaaDoorUrl
import Derived.Test.YtngmdgefecebmaaDoorCopy
namespace Go.Proofs.YtngmdgefecebmaaDoor
open Go.RowKit
set_option linter.unusedVariables false
set_option linter.unusedSimpArgs false

theorem icopy (A : Option Addr) (l : List UInt8) (c n : Nat) (w : World) (hn : l.length = n) (h : BS w A l) (hl : n ≤ 2147483647) :
    Calls Tryd.prog 9 #[.slice A n c] w fun e w' =>
      e = .returned (.slice (some ⟨w.heap.size, 0, none⟩) n n) ∧ Blk8 w' w.heap.size l ∧ Below w.heap.size w w' := by
  subst hn
  go_enter Tryd.func9, Tryd.ntmps9
  go_wp2_with (go_at_call 15; (with_reducible refine (copy_any A l c w h hl).mono ?_); rintro e w1 ⟨rfl, hb, hbel⟩)
  go_ret
  exact ⟨rfl, hb, hbel⟩
theorem newLexer (g : Nat) (w : World) :
    Calls Tryd.prog 7 #[.pointer (some ⟨g, 0, none⟩)] w fun e w' => e = .returned (.pointer (some ⟨w.heap.size, 0, none⟩)) ∧ w' = w.alloc (.cells #[.pointer (some ⟨g, 0, none⟩)] 45) := by
  go_enter Tryd.func7, Tryd.ntmps7
  go_wp2
  go_ret
  exact ⟨rfl, rfl⟩
section
variable {w w' : World} {gl g c pos start : Nat} {A : Option Addr} {l : List UInt8}
theorem lexErr_end (T : TypeId) (a : Addr) (h : Lx w gl g A c l pos start) (he : Eof w T a) (hk : pos = l.length) :
    Calls Tryd.prog 12 #[.pointer (some ⟨gl, 0, none⟩)] w fun e w' => e = .returned (.iface T (.pointer (some a))) ∧ ∃ n, w' = w.drewN n := by
  have c0 := h.cell
  go_enter Tryd.func12, Tryd.ntmps12
  go_wp2_with (go_at_call 33; (with_reducible refine (ierr_end T a h he hk).mono ?_); rintro e w1 ⟨rfl, n, rfl⟩)
  go_ret
  exact ⟨rfl, _, rfl⟩
end
/-- The lexer of a new text. -/
theorem Lx.new {w : World} {g c : Nat} {A : Option Addr} {l : List UInt8} (h : Inp w g A c l 0 0) (hl : l.length ≤ 1073741823) (hz : ∀ x ∈ l, x ≠ 0) (he : EofIs w) :
    Lx (w.alloc (.cells #[.pointer (some ⟨g, 0, none⟩)] 45)) w.heap.size g A c l 0 0 :=
  have hb := (Below.refl w.heap.size w).alloc (Nat.le_refl _) (.cells #[.pointer (some ⟨g, 0, none⟩)] 45)
  ⟨h.below hb, heap_alloc_new w _, by have := h.lt; omega, by omega, by omega, hl, hz, he.below hb⟩
end Go.Proofs.YtngmdgefecebmaaDoor
