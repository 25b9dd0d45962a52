/- Hexadecimal digits. No condition. -/
import Derived.Test.YtnepjlfkbmindaaDoorReB
namespace Go.Proofs.YtnepjlfkbmindaaDoor
def hexD (d : UInt8) : Nat := if d.toNat ≤ 57 then d.toNat - 48 else d.toNat - 87
def isHexS (d : UInt8) : Prop := (48 ≤ d.toNat ∧ d.toNat ≤ 57) ∨ (97 ≤ d.toNat ∧ d.toNat ≤ 102)
end Go.Proofs.YtnepjlfkbmindaaDoor
