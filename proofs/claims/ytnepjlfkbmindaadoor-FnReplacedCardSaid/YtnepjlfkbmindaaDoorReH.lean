/- One hexadecimal number's entity is replaced in place. Conditions: two or three digits that mean a small letter. -/
import Derived.Test.YtnepjlfkbmindaaDoorReH1
import Derived.Test.YtnepjlfkbmindaaDoorReH2
namespace Go.Proofs.YtnepjlfkbmindaaDoor
open Go.RowKit
set_option linter.unusedVariables false

theorem rep_hex (g n c i xl B base : Nat) (l x : List UInt8) (tc : UInt8) (V : Nat → Nat) (w : World) (own : OwnB w base (some ⟨g, 0, none⟩) n c l) (hf : Lies l i (38 :: 35 :: 120 :: (x ++ [59]))) (hxl : x.length = xl) (h2 : 2 ≤ xl) (h3 : xl ≤ 3) (hx : ∀ d ∈ x, isHexS d)
    (hV0 : V 0 = 0) (hVs : ∀ (q : Nat) (d : UInt8), x[q]? = some d → V (q + 1) = V q * 16 + hexD d) (hVb : ∀ q, V q ≤ 122) (hVt : V xl = tc.toNat) (htc : isSmall tc) (hn : n ≤ 2147483647) :
    Calls Tryd.prog 23 #[.slice (some ⟨g, 0, none⟩) n c, .int .i64 (i : Int), .map (some B), .map none] w (RepRet w base g c n i l (38 :: 35 :: 120 :: (x ++ [59])) [tc]) := by
  by_cases hE : c = i + xl + 4
  · exact rep_hexE g n c i xl B base l x tc V w own hf hxl h2 h3 hx hV0 hVs hVb hVt htc hn hE
  · exact rep_hexM g n c i xl B base l x tc V w own hf hxl h2 h3 hx hV0 hVs hVb hVt htc hn hE
end Go.Proofs.YtnepjlfkbmindaaDoor
