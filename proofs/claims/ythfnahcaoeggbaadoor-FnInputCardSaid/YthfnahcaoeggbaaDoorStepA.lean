/- The steps of the shop's own input: what may be taken gives what the plain function tells, and nothing else may be taken. Conditions: lengths below 2^31. -/
import Derived.Test.YthfnahcaoeggbaaDoorStep
namespace Go.Proofs.YthfnahcaoeggbaaDoor
open Go.RowKit
set_option linter.unusedVariables false

theorem isIn_no {l : List UInt8} {pos : Nat} {n : Int} (h : ¬ isIn l pos n = true) : isIn l pos n = false := by simpa using h
theorem step_some (r c pos start : Nat) (A : Option Addr) (l : List UInt8) (w : World) (k n : Int) (p s : Nat) (num oth : Int) (data : List UInt8) (h : Zin w r A c l pos start) (hl : l.length ≤ 2147483647) (hp : pos ≤ l.length) (hs : start ≤ pos)
    (hst : stepF l pos start k n = some (p, s, num, oth, data)) :
    Calls Tryd.prog 9 #[.pointer (some ⟨r, 0, none⟩), .agg #[.int .i64 k, .int .i64 n]] w (StepRet r A c l p s num oth data w) := by
  rcases stepF_kind hst with rfl | rfl | rfl | rfl | rfl | rfl | rfl | rfl | rfl | rfl | rfl | rfl | rfl
  · rw [stepF_0] at hst
    split at hst
    · rename_i hi
      obtain ⟨hn, hr⟩ := isIn_toNat hi hp
      obtain ⟨k, hk⟩ : ∃ k, n.toNat = k := ⟨_, rfl⟩
      rw [hk] at hn hr hst
      subst hn
      simp only [Option.some.injEq, Prod.mk.injEq] at hst
      obtain ⟨rfl, rfl, rfl, rfl, rfl⟩ := hst
      refine step_see0 r c pos start A l w (k : Int) _ _ h hl hp hs fun w' h' => ?_
      by_cases he : pos + k = l.length
      · have e : ((((l ++ [0])[pos + k]?).getD 0).toNat : Int) = 0 := by rw [he]; simp
        rw [e]
        exact look_0e r c pos start A l w' k h' hl hp hs he
      · have hx := byte_at (l := l) (k := pos + k) (by omega)
        have e : (l ++ [0])[pos + k]? = l[pos + k]? := List.getElem?_append_left (by omega)
        rw [e]
        exact look_0n r c pos start A l w' k _ h' hl hp hs hx
    · cases hst
  · rw [stepF_1] at hst
    split at hst
    · rename_i hi
      simp only [Bool.and_eq_true, decide_eq_true_eq] at hi
      obtain ⟨hn, hr⟩ := isIn_toNat hi.1.1 hp
      obtain ⟨k, hk⟩ : ∃ k, n.toNat = k := ⟨_, rfl⟩
      rw [hk] at hn hr hst hi
      subst hn
      simp only [Option.some.injEq, Prod.mk.injEq] at hst
      obtain ⟨rfl, rfl, rfl, rfl, rfl⟩ := hst
      exact step_see1 r c pos start A l w (k : Int) _ _ h hl hp hs fun w' h' => look_1n r c pos start A l w' k _ h' hl hp hs (byte_at hi.1.2) hi.2
    · cases hst
  · rw [stepF_2] at hst
    split at hst
    · rename_i hi
      obtain ⟨hn, hr⟩ := isIn_toNat hi hp
      obtain ⟨k, hk⟩ : ∃ k, n.toNat = k := ⟨_, rfl⟩
      rw [hk] at hn hr hst
      subst hn
      simp only [Option.some.injEq, Prod.mk.injEq] at hst
      obtain ⟨rfl, rfl, rfl, rfl, rfl⟩ := hst
      exact step_2 r c pos start A l w k h hl hp hs hr
    · cases hst
  · rw [stepF_3] at hst
    split at hst
    · rename_i hi
      simp only [Bool.and_eq_true, decide_eq_true_eq] at hi
      simp only [Option.some.injEq, Prod.mk.injEq] at hst
      obtain ⟨rfl, rfl, rfl, rfl, rfl⟩ := hst
      exact step_3 r c pos start A l w n _ h hl hp hs (byte_at hi.1) hi.2
    · cases hst
  · rw [stepF_4] at hst
    simp only [Option.some.injEq, Prod.mk.injEq] at hst
    obtain ⟨rfl, rfl, rfl, rfl, rfl⟩ := hst
    exact step_4 r c pos start A l w n h hl hp hs
  · rw [stepF_5] at hst
    simp only [Option.some.injEq, Prod.mk.injEq] at hst
    obtain ⟨rfl, rfl, rfl, rfl, rfl⟩ := hst
    exact step_5 r c pos start A l w n h hl hp hs
  · rw [stepF_6] at hst
    simp only [Option.some.injEq, Prod.mk.injEq] at hst
    obtain ⟨rfl, rfl, rfl, rfl, rfl⟩ := hst
    exact step_6 r c pos start A l w n h hl hp hs
  · rw [stepF_7] at hst
    simp only [Option.some.injEq, Prod.mk.injEq] at hst
    obtain ⟨rfl, rfl, rfl, rfl, rfl⟩ := hst
    exact step_7 r c pos start A l w n h hl hp hs
  · rw [stepF_8] at hst
    split at hst
    · rename_i hi
      obtain ⟨k, hk⟩ : ∃ k, n.toNat = k := ⟨_, rfl⟩
      rw [hk] at hst
      obtain rfl : n = (k : Int) := by omega
      simp only [Option.some.injEq, Prod.mk.injEq] at hst
      obtain ⟨rfl, rfl, rfl, rfl, rfl⟩ := hst
      exact step_8 r c pos start A l w k h hl hp hs (by omega)
    · cases hst
  · rw [stepF_9] at hst
    simp only [Option.some.injEq, Prod.mk.injEq] at hst
    obtain ⟨rfl, rfl, rfl, rfl, rfl⟩ := hst
    exact step_9 r c pos start A l w n h hl hp hs
  · rw [stepF_10] at hst
    simp only [Option.some.injEq, Prod.mk.injEq] at hst
    obtain ⟨rfl, rfl, rfl, rfl, rfl⟩ := hst
    exact step_10 r c pos start A l w n h hl hp hs
  · rw [stepF_11] at hst
    simp only [Option.some.injEq, Prod.mk.injEq] at hst
    obtain ⟨rfl, rfl, rfl, rfl, rfl⟩ := hst
    exact step_11 r c pos start A l w n h hl hp hs
  · rw [stepF_12] at hst
    split at hst
    · rename_i hi
      obtain ⟨hn, hr⟩ := isIn_toNat hi hp
      obtain ⟨k, hk⟩ : ∃ k, n.toNat = k := ⟨_, rfl⟩
      rw [hk] at hn hr hst
      subst hn
      simp only [Option.some.injEq, Prod.mk.injEq] at hst
      obtain ⟨rfl, rfl, rfl, rfl, rfl⟩ := hst
      refine step_see12 r c pos start A l w (k : Int) _ _ h hl hp hs fun w' h' => ?_
      by_cases he : pos + k = l.length
      · rw [if_pos he]
        exact look_12e r c pos start A l w' k h' hl hp hs he
      · rw [if_neg he]
        exact look_12n r c pos start A l w' k h' hl hp hs (by omega)
    · cases hst
theorem step_none (r c pos start : Nat) (A : Option Addr) (l : List UInt8) (w : World) (k n : Int) (h : Zin w r A c l pos start) (hl : l.length ≤ 2147483647) (hp : pos ≤ l.length) (hs : start ≤ pos)
    (hst : stepF l pos start k n = none) :
    Calls Tryd.prog 9 #[.pointer (some ⟨r, 0, none⟩), .agg #[.int .i64 k, .int .i64 n]] w (StepBad r A c l w) := by
  by_cases h0 : k = 0
  · subst h0
    rw [stepF_0] at hst
    split at hst
    · cases hst
    · rename_i hi
      exact step_un0 r c pos start A l w n h hl hp hs fun w' h' => look_bad0 r c pos start A l w' n h' hl hp hs (isIn_no hi)
  by_cases h1 : k = 1
  · subst h1
    rw [stepF_1] at hst
    split at hst
    · cases hst
    · rename_i hi
      refine step_un1 r c pos start A l w n h hl hp hs fun w' h' => ?_
      by_cases hin : isIn l pos n = true
      · obtain ⟨hn, hr⟩ := isIn_toNat hin hp
        obtain ⟨k, hk⟩ : ∃ k, n.toNat = k := ⟨_, rfl⟩
        rw [hk] at hn hr hi
        rw [hin] at hi
        subst hn
        by_cases he : pos + k = l.length
        · exact look_1e r c pos start A l w' k h' hl hp hs he
        · have hx := byte_at (l := l) (k := pos + k) (by omega)
          refine look_1h r c pos start A l w' k _ h' hl hp hs hx ?_
          simp only [Bool.true_and, Bool.and_eq_true, decide_eq_true_eq] at hi
          exact Nat.le_of_not_lt fun hlt => hi ⟨by omega, hlt⟩
      · exact look_bad1 r c pos start A l w' n h' hl hp hs (isIn_no hin)
  by_cases h2 : k = 2
  · subst h2
    rw [stepF_2] at hst
    split at hst
    · cases hst
    · rename_i hi
      exact step_bad2 r c pos start A l w n h hl hp hs (isIn_no hi)
  by_cases h3 : k = 3
  · subst h3
    rw [stepF_3] at hst
    split at hst
    · cases hst
    · rename_i hi
      by_cases he : pos = l.length
      · exact step_bad3e r c pos start A l w n h hl hp hs he
      · have hx := byte_at (l := l) (k := pos) (by omega)
        refine step_bad3h r c pos start A l w n _ h hl hp hs hx ?_
        simp only [Bool.and_eq_true, decide_eq_true_eq] at hi
        exact Nat.le_of_not_lt fun hlt => hi ⟨by omega, hlt⟩
  by_cases h4 : k = 4
  · subst h4
    rw [stepF_4] at hst
    cases hst
  by_cases h5 : k = 5
  · subst h5
    rw [stepF_5] at hst
    cases hst
  by_cases h6 : k = 6
  · subst h6
    rw [stepF_6] at hst
    cases hst
  by_cases h7 : k = 7
  · subst h7
    rw [stepF_7] at hst
    cases hst
  by_cases h8 : k = 8
  · subst h8
    rw [stepF_8] at hst
    split at hst
    · cases hst
    · rename_i hi
      by_cases hn : n < 0
      · exact step_bad8a r c pos start A l w n h hl hp hs hn
      · exact step_bad8b r c pos start A l w n h hl hp hs hn (by omega)
  by_cases h9 : k = 9
  · subst h9
    rw [stepF_9] at hst
    cases hst
  by_cases h10 : k = 10
  · subst h10
    rw [stepF_10] at hst
    cases hst
  by_cases h11 : k = 11
  · subst h11
    rw [stepF_11] at hst
    cases hst
  by_cases h12 : k = 12
  · subst h12
    rw [stepF_12] at hst
    split at hst
    · cases hst
    · rename_i hi
      exact step_un12 r c pos start A l w n h hl hp hs fun w' h' => look_bad12 r c pos start A l w' n h' hl hp hs (isIn_no hi)
  exact step_bad r c pos start A l w k n h hl hp hs ⟨h0, h1, h2, h3, h4, h5, h6, h7, h8, h9, h10, h11, h12⟩
end Go.Proofs.YthfnahcaoeggbaaDoor
