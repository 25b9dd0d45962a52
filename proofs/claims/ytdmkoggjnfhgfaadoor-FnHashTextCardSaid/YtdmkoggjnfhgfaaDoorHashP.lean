/- What the two walks of the numbers of texts share. No condition. -/
import Derived.Test.YtdmkoggjnfhgfaaDoorInpl
import Derived.Test.YtdmkoggjnfhgfaaDoorHsh
import Derived.Deep.Cut
import Derived.WalkMore
import Derived.ScopeJumps
namespace Go.Proofs.YtdmkoggjnfhgfaaDoor
open Go.RowKit
set_option linter.unusedVariables false

/-- The cells of a table of numbers. -/
def HTab (G : Nat) (tab : List Nat) (w : World) : Prop := ∀ (i e : Nat), tab[i]? = some e → w.cell? ⟨G, i, none⟩ = some (.int .u32 (e : Int))
theorem HTab.below {G : Nat} {tab : List Nat} {w w' : World} (h : HTab G tab w) (hb : Below w.heap.size w w') : HTab G tab w' := fun i e he => (hb.cell (block_lt_of_cell (h i e he))).trans (h i e he)
theorem HTab.slot {G : Nat} {tab : List Nat} {w : World} (h : HTab G tab w) (hl : 0 < tab.length) (x i : Nat) (hi : x % tab.length = i) : w.cell? ⟨G, i, none⟩ = some (.int .u32 ((slot tab x : Nat) : Int)) := by
  subst hi
  have hm := Nat.mod_lt x hl
  refine h _ _ ?_
  unfold Go.Proofs.YtdmkoggjnfhgfaaDoor.slot
  rw [List.getD_eq_getElem?_getD, List.getElem?_eq_getElem hm]
  rfl
/-- What ToHash returns. -/
def HashRet (T : List UInt8) (tab : List Nat) (h0 : Int) (s : List UInt8) (w : World) (e : Ending) (w' : World) : Prop := e = .returned (.int .u32 ((fnd T tab h0 s : Nat) : Int)) ∧ Below w.heap.size w w'
theorem wraps_u32 (n : Int) (h₀ : 0 ≤ n) (h₁ : n < 2 ^ 32) : IntKind.u32.wrap n = n := by rw [IntKind.wrap_u32]; omega
theorem mask32 (x : Int) (i : Nat) (hi : i ≤ 32) (h₀ : 0 ≤ x) (h₁ : x < 4294967296) : bits .and .u32 x (2 ^ i - 1) = x % 2 ^ i := bits_mask .u32 32 (by decide) wraps_u32 i hi x h₀ h₁
theorem diff_at {n : Nat} : ∀ {t s : List UInt8}, t.length = n → s.length = n → ¬ t = s → ∃ k x y, k < n ∧ t[k]? = some x ∧ s[k]? = some y ∧ x ≠ y ∧ ∀ j, j < k → t[j]? = s[j]? := by
  induction n with
  | zero => intro t s ht hs h; exact absurd ((List.eq_nil_of_length_eq_zero ht).trans (List.eq_nil_of_length_eq_zero hs).symm) h
  | succ n ih =>
    intro t s ht hs h
    match t, s with
    | x :: t, y :: s =>
      by_cases hxy : x = y
      · subst hxy
        obtain ⟨k, a, b, hk, ha, hb, hab, hp⟩ := ih (t := t) (s := s) (by simpa using ht) (by simpa using hs) (fun e => h (by rw [e]))
        refine ⟨k + 1, a, b, by omega, by simpa using ha, by simpa using hb, hab, fun j hj => ?_⟩
        match j with
        | 0 => rfl
        | j + 1 => simpa using hp j (by omega)
      · exact ⟨0, x, y, by omega, rfl, rfl, hxy, fun j hj => absurd hj (by omega)⟩
    | [], _ => simp at ht
    | _ :: _, [] => simp at hs
/-- A frame whose slots are whatever. -/
theorem fr_ex (a : Act) (F : (Nat → Value) → Act) (h : a = F (fun i => a.tmps.getD i undef)) : ∃ u, a = F u := ⟨_, h⟩
theorem fnd_1 {T : List UInt8} {tab : List Nat} {h0 H : Int} {s : List UInt8} {n e1 : Nat} (hn : s.length = n) (hp : 0 < n) (h9 : n ≤ 9) (hH : hashB h0 s = H) (he1 : slot tab H.toNat = e1) (h1 : ent T e1 = s) : fnd T tab h0 s = e1 := by
  unfold fnd
  rw [if_neg (by omega), hH, he1, if_pos h1]
theorem fnd_2 {T : List UInt8} {tab : List Nat} {h0 H : Int} {s : List UInt8} {n e1 e2 : Nat} (hn : s.length = n) (hp : 0 < n) (h9 : n ≤ 9) (hH : hashB h0 s = H) (he1 : slot tab H.toNat = e1) (h1 : ¬ ent T e1 = s) (he2 : slot tab (H.toNat / 65536) = e2) (h2 : ent T e2 = s) : fnd T tab h0 s = e2 := by
  unfold fnd
  rw [if_neg (by omega), hH, he1, if_neg h1, he2, if_pos h2]
theorem fnd_0 {T : List UInt8} {tab : List Nat} {h0 H : Int} {s : List UInt8} {n e1 e2 : Nat} (hn : s.length = n) (hp : 0 < n) (h9 : n ≤ 9) (hH : hashB h0 s = H) (he1 : slot tab H.toNat = e1) (h1 : ¬ ent T e1 = s) (he2 : slot tab (H.toNat / 65536) = e2) (h2 : ¬ ent T e2 = s) : fnd T tab h0 s = 0 := by
  unfold fnd
  rw [if_neg (by omega), hH, he1, if_neg h1, he2, if_neg h2]
end Go.Proofs.YtdmkoggjnfhgfaaDoor
