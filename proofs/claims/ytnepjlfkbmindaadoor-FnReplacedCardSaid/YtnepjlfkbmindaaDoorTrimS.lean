/- The reference's trimming: the slice that it returns reads as the trimmed text. Conditions: the list is shorter than 2^31 and within its capacity. -/
import Derived.Test.YtnepjlfkbmindaaDoorTab
import Derived.Test.YtnepjlfkbmindaaDoorAll
namespace Go.Proofs.YtnepjlfkbmindaaDoor
open Go.RowKit
set_option linter.unusedVariables false

theorem isBlS_n (c : UInt8) (b : Bool) (w : World) (hb : isBl c = b) :
    Calls Tryd.prog 15 #[.int .u8 (c.toNat : Int)] w fun e w' => e = .returned (.bool b) ∧ w = w' := by
  subst hb
  exact isBlS_any c w
theorem isWs_n (c : UInt8) (b : Bool) (w : World) (hb : isBl c = b) (ht : WsTab w) :
    Calls Tryd.prog 21 #[.int .u8 (c.toNat : Int)] w fun e w' => e = .returned (.bool b) ∧ w = w' := by
  subst hb
  exact isWs_any c w ht
def NotAt (f : UInt8 → Bool) (l : List UInt8) (k : Nat) : Prop := ∀ c, l[k]? = some c → f c = false
theorem trim_cut {l : List UInt8} {s e : Nat} (hs : s ≤ e) (he : e ≤ l.length) (h1 : AllTo isBl l s) (h2 : AllFrom isBl l e) (h3 : NotAt isBl l s) (h4 : s < e → NotAt isBl l (e - 1)) : (l.drop s).take (e - s) = trim l :=
  trim_of l s e hs he (fun j c hj hc => h1 j hj c hc) (fun j c hj hc => h2 j hj c hc) (fun h => ⟨h3, h4 h⟩)
theorem trim_len {l : List UInt8} {s e : Nat} (hs : s ≤ e) (he : e ≤ l.length) (h : (l.drop s).take (e - s) = trim l) : (trim l).length = e - s := by
  rw [← h]; simp; omega

/-- The slice that a trimming returns. -/
def TrimRet (l : List UInt8) (w : World) (e : Ending) (w' : World) : Prop := ∃ A' c', e = .returned (.slice A' (trim l).length c') ∧ BS w A' (trim l) ∧ w = w'



end Go.Proofs.YtnepjlfkbmindaaDoor
