/- The package's reading of a float, at the reference's text of a number. Conditions: at most 10^15, at most 20 decimals, an exponent from -30 to 30; the tables of powers as laid. -/
import Derived.Test.YtggemljdmoegnaaDoorPFpn
import Derived.Test.YtggemljdmoegnaaDoorPFpz
import Derived.Test.YtggemljdmoegnaaDoorPFmn
import Derived.Test.YtggemljdmoegnaaDoorPFmz
import Derived.Test.YtggemljdmoegnaaDoorDigit
namespace Go.Proofs.YtggemljdmoegnaaDoor
open Go.RowKit
set_option linter.unusedVariables false
attribute [local irreducible] pointed

/-- The sign in front. -/
def sgnF (s : Bool) : List UInt8 := if s then [45] else []
/-- The exponent behind. -/
def expF (x : Int) : List UInt8 := if x = 0 then [] else 101 :: decI x
theorem goes_no4 {c : UInt8} (h : goesOn c = false) : isDig c = false ∧ c ≠ 46 ∧ c ≠ 101 ∧ c ≠ 69 := by
  refine ⟨?_, ?_, ?_, ?_⟩
  · cases hd : isDig c with
    | false => rfl
    | true => rw [goes_dig hd] at h; cases h
  all_goals
    rintro rfl
    exact absurd h (by decide)
theorem expF_head {x : Int} {rest : List UInt8} (hr : ∀ c, rest[0]? = some c → goesOn c = false) : ∀ c, (expF x ++ rest)[0]? = some c → isDig c = false ∧ c ≠ 46 := fun c hc => by
  unfold expF at hc
  split at hc
  · have := goes_no4 (hr c hc)
    exact ⟨this.1, this.2.1⟩
  · simp at hc
    subst hc
    decide
theorem expF_tail {x : Int} {b rest : List UInt8} {I1 : Nat} (hb : b.drop I1 = expF x ++ rest) (hr : ∀ c, rest[0]? = some c → goesOn c = false) : ETail b I1 x (I1 + (expF x).length) := by
  have hat : ∀ c, b[I1]? = some c → (expF x ++ rest)[0]? = some c := fun c hc => by rw [← hb, List.getElem?_drop]; exact hc
  by_cases h0 : x = 0
  · subst h0
    left
    refine ⟨rfl, by simp [expF], fun c hc => ?_⟩
    have h1 := hat c hc
    rw [show expF 0 = [] from rfl, List.nil_append] at h1
    exact (goes_no4 (hr c h1)).2.2
  · right
    have e : expF x = 101 :: decI x := by unfold expF; rw [if_neg h0]
    refine ⟨rest, by rw [hb, e]; rfl, ?_, by rw [e, List.length_cons]; omega⟩
    cases rest with
    | nil => rfl
    | cons c r =>
      have := (goes_no4 (hr c rfl)).1
      simpa [at_] using this
theorem parseFloat_any (A : Option Addr) (n d : Nat) (s : Bool) (x : Int) (rest l : List UInt8) (k c L : Nat) (w : World) (hlk : l.length = k) (hl : l = sgnF s ++ (pointed n d ++ (expF x ++ rest))) (bs : BS w A l) (h1 : k ≤ 2147483647) (hc : k ≤ c)
    (hL : L = (sgnF s).length + (pointed n d).length + (expF x).length) (hn : n ≤ 1000000000000000) (hd : d ≤ 20) (x1 : -30 ≤ x) (x2 : x ≤ 30) (hr : ∀ c, rest[0]? = some c → goesOn c = false)
    (ht : P10 0 23 w) (hz : PZ 0 23 w) (hp : Pows w) :
    Calls Tryd.prog 16 #[.slice A k c] w (FRet s n (x - (d : Int)) L w) := by
  subst hlk
  have hv := padded_val n (d + 1)
  have hdr : l.drop (sgnF s).length = pointed n d ++ (expF x ++ rest) := by rw [hl, List.drop_left]
  have hq : (sgnF s).length ≤ l.length := by rw [hl, List.length_append]; omega
  have hF := FText.of n d (sgnF s).length l (expF x ++ rest) hdr hq (expF_head hr)
  have hdr2 : l.drop ((sgnF s).length + (pointed n d).length) = expF x ++ rest := by rw [← List.drop_drop, hdr, List.drop_left]
  have hE := expF_tail hdr2 hr
  rw [← hL] at hE
  have hvn : dval (padded n (d + 1)) ≤ 1000000000000000 := by rw [hv]; exact hn
  cases s with
  | false =>
    by_cases h0 : n = 0
    · have := pf_pz A l _ c _ _ L d x w bs h1 hc hF hvn hd hE x1 x2 ht hz hp (by rw [hv]; exact h0)
      rwa [hv] at this
    · have := pf_pn A l _ c _ _ L d x w bs h1 hc hF hvn hd hE x1 x2 ht hz hp (by rw [hv]; omega)
      rwa [hv] at this
  | true =>
    have hs : l[0]? = some 45 := by rw [hl]; rfl
    by_cases h0 : n = 0
    · have := pf_mz A l _ c _ _ L d x w bs h1 hc hs hF hvn hd hE x1 x2 ht hz hp (by rw [hv]; exact h0)
      rwa [hv] at this
    · have := pf_mn A l _ c _ _ L d x w bs h1 hc hs hF hvn hd hE x1 x2 ht hz hp (by rw [hv]; omega)
      rwa [hv] at this
theorem iParseFloat_any (A : Option Addr) (n d : Nat) (s : Bool) (x : Int) (rest l : List UInt8) (k c L : Nat) (w : World) (hlk : l.length = k) (hl : l = sgnF s ++ (pointed n d ++ (expF x ++ rest))) (bs : BS w A l) (h1 : k ≤ 2147483647) (hc : k ≤ c)
    (hL : L = (sgnF s).length + (pointed n d).length + (expF x).length) (hn : n ≤ 1000000000000000) (hd : d ≤ 20) (x1 : -30 ≤ x) (x2 : x ≤ 30) (hr : ∀ c, rest[0]? = some c → goesOn c = false)
    (ht : P10 0 23 w) (hz : PZ 0 23 w) (hp : Pows w) :
    Calls Tryd.prog 12 #[.slice A k c] w (FRet s n (x - (d : Int)) L w) := by
  have H := hide (parseFloat_any A n d s x rest l k c L w hlk hl bs h1 hc hL hn hd x1 x2 hr ht hz hp)
  clear hlk hl bs h1 hc hL hn hd x1 x2 hr ht hz hp
  go_enter Tryd.func12, Tryd.ntmps12
  go_wp2_with fail
  refine H.out.mono ?_
  rintro e w1 ⟨v, rfl, hx, q, rfl⟩
  have HX := hide hx
  clear hx
  go_wp2
  go_ret2
  exact ⟨v, rfl, HX.out, q, rfl⟩
end Go.Proofs.YtggemljdmoegnaaDoor
