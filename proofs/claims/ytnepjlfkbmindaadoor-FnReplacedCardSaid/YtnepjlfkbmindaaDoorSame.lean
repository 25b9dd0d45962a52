/- Whether two lists of bytes are the same. Conditions: none. -/
import Derived.Test.YtnepjlfkbmindaaDoorWords
namespace Go.Proofs.YtnepjlfkbmindaaDoor
open Go.RowKit

set_option maxHeartbeats 400000 in
theorem same_any (A B : Option Addr) (l m : List UInt8) (c d : Nat) (w : World) (h : BS w A l) (k : BS w B m) :
    Calls Tryd.prog 8 #[.slice A l.length c, .slice B m.length d] w fun e w' =>
      e = .returned (.bool (l == m)) ∧ w = w' := by
  have k1 := run_str (P := Tryd.prog) h c 26 9 5 Tryd.underlying26 Tryd.underlying5 Tryd.underlying9
  have k2 := run_str (P := Tryd.prog) k d 26 9 5 Tryd.underlying26 Tryd.underlying5 Tryd.underlying9
  go_enter Tryd.func8, Tryd.ntmps8
  go_wp2
  go_ret
  exact ⟨rfl, rfl⟩

theorem same_n (A B : Option Addr) (l m : List UInt8) (n k c d : Nat) (r : Bool) (w : World) (hr : (l == m) = r) (hn : l.length = n) (hm : m.length = k) (h : BS w A l) (h' : BS w B m) :
    Calls Tryd.prog 8 #[.slice A n c, .slice B k d] w fun e w' => e = .returned (.bool r) ∧ w = w' := by
  subst hr hn hm
  exact same_any A B l m c d w h h'
end Go.Proofs.YtnepjlfkbmindaaDoor
