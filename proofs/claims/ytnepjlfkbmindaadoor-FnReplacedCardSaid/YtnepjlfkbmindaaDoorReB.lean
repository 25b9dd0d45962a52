/- What the replacement of an entity gives. No condition. -/
import Derived.Test.YtnepjlfkbmindaaDoorLies
namespace Go.Proofs.YtnepjlfkbmindaaDoor
open Go.RowKit
set_option linter.unusedVariables false
set_option linter.unusedSimpArgs false

/-- What a replacement gives. -/
def RepRet (w : World) (base g c n i : Nat) (l f t : List UInt8) (e : Ending) (w' : World) : Prop := ∃ n' : Nat, n' + f.length = n + t.length ∧ e = .returned (.tuple #[.slice (some ⟨g, 0, none⟩) n' c, .int .i64 ((i + t.length - 1 : Nat) : Int)]) ∧
  OwnB w' base (some ⟨g, 0, none⟩) n' c (l.take i ++ t ++ l.drop (i + f.length)) ∧ w.grownBy w' (some g)
def isSmall (d : UInt8) : Prop := 97 ≤ d.toNat ∧ d.toNat ≤ 122
def isAn (d : UInt8) : Prop := (48 ≤ d.toNat ∧ d.toNat ≤ 57) ∨ (65 ≤ d.toNat ∧ d.toNat ≤ 90) ∨ (97 ≤ d.toNat ∧ d.toNat ≤ 122)
theorem grown_drewN (w : World) (n : Nat) (row : Option Nat) : w.grownBy (w.drewN n) row := ⟨rfl, rfl, rfl, Nat.le_refl _, fun _ _ _ => rfl⟩
end Go.Proofs.YtnepjlfkbmindaaDoor
