/- The reference's writing of a number without a sign in decimal: what it returns. Condition: the number is one of 64 bits. -/
import Derived.Test.YtgalfebplancdaaDoorDec
namespace Go.Proofs.YtgalfebplancdaaDoor
open Go.RowKit
set_option linter.unusedVariables false

theorem OwnB.lit {w : World} {base g : Nat} (hb : base ≤ w.heap.size) (hg : w.heap.size = g) (l : List UInt8) (n : Nat) (C : Array Value) (hn : l.length = n) (hm : n ≤ 4294967296) (hC : C = (l.map bv).toArray) : OwnB (w.alloc (.cells C 5)) base (some ⟨g, 0, none⟩) n n l := by
  subst hg hC hn
  refine ⟨rfl, ?_⟩
  have := World.ownsRow_lit (base := base) (e := 5) (size := 1) w (l.map bv).toArray l.length hb (by simp only [maxLen]; omega) (by simp)
  simpa using this

/-- What is returned: a new row with these bytes. -/
def OwnRet (l : List UInt8) (w : World) (e : Ending) (w' : World) : Prop := ∃ A' c', e = .returned (.slice A' l.length c') ∧ OwnB w' w.heap.size A' l.length c' l ∧ Below w.heap.size w w'

end Go.Proofs.YtgalfebplancdaaDoor
