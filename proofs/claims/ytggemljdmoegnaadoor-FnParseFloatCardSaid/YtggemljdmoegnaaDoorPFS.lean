/- The reference's scaling, and its test, at a number times a power of ten; joins of lists. Conditions: at most 10^15, an exponent from -50 to 30. -/
import Derived.Test.YtggemljdmoegnaaDoorPFl
import Derived.Test.YtggemljdmoegnaaDoorScaled
import Derived.Test.YtggemljdmoegnaaDoorJoin
import Derived.Test.YtggemljdmoegnaaDoorPointed
namespace Go.Proofs.YtggemljdmoegnaaDoor
open Go.RowKit
set_option linter.unusedVariables false
attribute [local irreducible] pointed

/-- Zero, or about the number times a power of ten. -/
def Aps (k : Nat) (s : Bool) (x n : Nat) (z : Int) : Prop := (n = 0 → x = zw s) ∧ (0 < n → Apz k s x n z)
theorem scaled_any (n : Nat) (z : Int) (w : World) (hn : n ≤ 1000000000000000) (h1 : -50 ≤ z) (h2 : z ≤ 30) :
    Calls Tryd.prog 10 #[.int .u64 (n : Int), .int .i64 z] w fun e w' => ∃ u, e = .returned (.float .f64 u) ∧ Aps 351 false u n z ∧ w = w' := by
  by_cases h0 : n = 0
  · subst h0
    refine (scaled_zero z w h1 h2).mono ?_
    rintro e w1 ⟨rfl, rfl⟩
    exact ⟨0, rfl, ⟨fun _ => rfl, fun h => by omega⟩, rfl⟩
  · have hn' : n ≤ 10 ^ 15 := by simp only [Nat.reducePow]; omega
    by_cases hz : 0 ≤ z
    · obtain ⟨q, rfl⟩ := Int.eq_ofNat_of_zero_le hz
      refine (scaled_up n q w (by omega) hn' (by omega)).mono ?_
      rintro e w1 ⟨⟨u, rfl, hu⟩, rfl⟩
      refine ⟨u, rfl, ⟨fun h => absurd h h0, fun _ => ?_⟩, rfl⟩
      unfold Apz
      rw [show (q : Int).toNat = q by omega, show (-(q : Int)).toNat = 0 by omega, Nat.pow_zero]
      exact hu.mono (by omega)
    · obtain ⟨q, rfl⟩ : ∃ q : Nat, z = -(q : Int) := ⟨z.natAbs, by omega⟩
      refine (scaled_down n q w (by omega) hn' (by omega)).mono ?_
      rintro e w1 ⟨⟨u, rfl, hu⟩, rfl⟩
      refine ⟨u, rfl, ⟨fun h => absurd h h0, fun _ => ?_⟩, rfl⟩
      unfold Apz
      rw [show (-(q : Int)).toNat = 0 by omega, show (-(-(q : Int))).toNat = q by omega, Nat.pow_zero, Nat.mul_one]
      exact hu
theorem aps_neg {k u n : Nat} {z : Int} (h : Aps k false u n z) : Aps k true (Op.negFloat .f64 u) n z :=
  ⟨fun h0 => by rw [h.1 h0]; decide +kernel, fun h0 => (h.2 h0).neg⟩
theorem near_aps {x u n : Nat} {s : Bool} {z : Int} (w : World) (hn : n ≤ 1000000000000000) (h1 : -50 ≤ z) (h2 : z ≤ 30) (hx : Aps 49 s x n z) (hu : Aps 351 s u n z) :
    Calls Tryd.prog 9 #[.float .f64 x, .float .f64 u] w fun e w' => e = .returned (.bool true) ∧ w = w' := by
  by_cases h0 : n = 0
  · rw [hx.1 h0, hu.1 h0]
    cases s
    · exact near_zero w
    · exact near_mzero w
  · have hn' : n ≤ 10 ^ 15 := by simp only [Nat.reducePow]; omega
    refine near_any w (hx.2 (by omega)) (hu.2 (by omega)) (by omega) ?_
    by_cases hz : 0 ≤ z
    · rw [show (-z).toNat = 0 by omega, Nat.pow_zero]
      exact rg_mul (by omega) hn' (by omega)
    · rw [show z.toNat = 0 by omega, Nat.pow_zero, Nat.mul_one]
      exact rg_div (by omega) hn' (by omega)
theorem join_two_at {t : List UInt8} (g : Nat) (A B : Option Addr) (c d : Nat) (l r : List UInt8) (w : World) (h : HasParts w g [⟨A, c, l⟩, ⟨B, d, r⟩]) (ht : l ++ r = t) (hsum : t.length ≤ 2147483647) :
    Calls Tryd.prog 8 #[.slice (some ⟨g, 0, none⟩) 2 2] w (OwnRet t w) := by
  subst ht
  exact join_two g A B c d l r w h hsum
theorem HasParts.three {w : World} {g : Nat} (hg : w.heap.size = g) (A B C : Option Addr) (n m k c d f : Nat) (l r q : List UInt8) (e : TypeId) (hn : l.length = n) (hm : r.length = m) (hk : q.length = k) (h : BS w A l) (h' : BS w B r) (h'' : BS w C q) :
    HasParts (w.alloc (.cells #[.slice A n c, .slice B m d, .slice C k f] e)) g [⟨A, c, l⟩, ⟨B, d, r⟩, ⟨C, f, q⟩] := by
  subst hg hn hm hk
  intro i x hx
  match i, hx with
  | 0, hx => simp at hx; subst hx; exact ⟨by simp, h.alloc _⟩
  | 1, hx => simp at hx; subst hx; exact ⟨by simp, h'.alloc _⟩
  | 2, hx => simp at hx; subst hx; exact ⟨by simp, h''.alloc _⟩
theorem join_three_at {t : List UInt8} (g : Nat) (A B C : Option Addr) (c d f : Nat) (l r q : List UInt8) (w : World) (h : HasParts w g [⟨A, c, l⟩, ⟨B, d, r⟩, ⟨C, f, q⟩]) (ht : l ++ (r ++ q) = t) (hsum : t.length ≤ 2147483647) :
    Calls Tryd.prog 8 #[.slice (some ⟨g, 0, none⟩) 3 3] w (OwnRet t w) := by
  subst ht
  have := join_any g [⟨A, c, l⟩, ⟨B, d, r⟩, ⟨C, f, q⟩] w h (by simpa [parts] using hsum) (by simp)
  simpa [parts] using this
theorem pointed_at {t : List UInt8} (n d : Nat) (w : World) (ht : pointed n d = t) (hn : n ≤ 1000000000000000) (hd : d ≤ 20) :
    Calls Tryd.prog 6 #[.int .u64 (n : Int), .int .i64 (d : Int)] w (OwnRet t w) := by
  subst ht
  exact pointed_any n d w hn hd
theorem integer_at {t : List UInt8} (n : Int) (w : World) (ht : decI n = t) (h1 : -9223372036854775808 ≤ n) (h2 : n ≤ 9223372036854775807) :
    Calls Tryd.prog 11 #[.int .i64 n] w (OwnRet t w) := by
  subst ht
  exact integer_any n w h1 h2
end Go.Proofs.YtggemljdmoegnaaDoor
