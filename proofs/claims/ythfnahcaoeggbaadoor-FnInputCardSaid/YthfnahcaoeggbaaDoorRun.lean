/- What steps over an input give, as a plain function; and that the thin package's steps do it. Conditions: lengths below 2^31; io.EOF as laid. -/
import Derived.Test.YthfnahcaoeggbaaDoorTake
namespace Go.Proofs.YthfnahcaoeggbaaDoor
open Go.RowKit
set_option linter.unusedVariables false

/-- What a step gives. -/
abbrev Got := Int × Int × List UInt8
/-- Whether a place is within. -/
def isIn (l : List UInt8) (pos : Nat) (n : Int) : Bool := decide (0 ≤ n ∧ n ≤ (l.length : Int) - (pos : Int))
/-- A step: where it leaves the selection, and what it gives. -/
def stepF (l : List UInt8) (pos start : Nat) (k n : Int) : Option (Nat × Nat × Got) :=
  if k = 0 then (if isIn l pos n then some (pos, start, ((((l ++ [0])[pos + n.toNat]?).getD 0).toNat : Int), 0, []) else none)
  else if k = 1 then (if isIn l pos n && decide (pos + n.toNat < l.length) && decide (((l[pos + n.toNat]?).getD 0).toNat < 128) then some (pos, start, (((l[pos + n.toNat]?).getD 0).toNat : Int), 1, []) else none)
  else if k = 2 then (if isIn l pos n then some (pos + n.toNat, start, 0, 0, []) else none)
  else if k = 3 then (if decide (pos < l.length) && decide (((l[pos]?).getD 0).toNat < 128) then some (pos + 1, start, 0, 0, []) else none)
  else if k = 4 then some (pos, pos, 0, 0, sel l start pos)
  else if k = 5 then some (pos, pos, 0, 0, [])
  else if k = 6 then some (pos, start, 0, 0, sel l start pos)
  else if k = 7 then some (pos, start, (pos : Int) - (start : Int), 0, [])
  else if k = 8 then (if 0 ≤ n ∧ n ≤ (l.length : Int) - (start : Int) then some (start + n.toNat, start, 0, 0, []) else none)
  else if k = 9 then some (pos, start, (pos : Int), 0, [])
  else if k = 10 then some (pos, start, (l.length : Int), 0, [])
  else if k = 11 then some (0, 0, 0, 0, [])
  else if k = 12 then (if isIn l pos n then some (pos, start, if pos + n.toNat = l.length then 1 else 0, 0, []) else none)
  else none
section
variable {l : List UInt8} {pos start : Nat} {n : Int}
theorem stepF_0 : stepF l pos start 0 n = (if isIn l pos n then some (pos, start, ((((l ++ [0])[pos + n.toNat]?).getD 0).toNat : Int), 0, []) else none) := rfl
theorem stepF_1 : stepF l pos start 1 n = (if isIn l pos n && decide (pos + n.toNat < l.length) && decide (((l[pos + n.toNat]?).getD 0).toNat < 128) then some (pos, start, (((l[pos + n.toNat]?).getD 0).toNat : Int), 1, []) else none) := rfl
theorem stepF_2 : stepF l pos start 2 n = (if isIn l pos n then some (pos + n.toNat, start, 0, 0, []) else none) := rfl
theorem stepF_3 : stepF l pos start 3 n = (if decide (pos < l.length) && decide (((l[pos]?).getD 0).toNat < 128) then some (pos + 1, start, 0, 0, []) else none) := rfl
theorem stepF_4 : stepF l pos start 4 n = some (pos, pos, 0, 0, sel l start pos) := rfl
theorem stepF_5 : stepF l pos start 5 n = some (pos, pos, 0, 0, []) := rfl
theorem stepF_6 : stepF l pos start 6 n = some (pos, start, 0, 0, sel l start pos) := rfl
theorem stepF_7 : stepF l pos start 7 n = some (pos, start, (pos : Int) - (start : Int), 0, []) := rfl
theorem stepF_8 : stepF l pos start 8 n = (if 0 ≤ n ∧ n ≤ (l.length : Int) - (start : Int) then some (start + n.toNat, start, 0, 0, []) else none) := rfl
theorem stepF_9 : stepF l pos start 9 n = some (pos, start, (pos : Int), 0, []) := rfl
theorem stepF_10 : stepF l pos start 10 n = some (pos, start, (l.length : Int), 0, []) := rfl
theorem stepF_11 : stepF l pos start 11 n = some (0, 0, 0, 0, []) := rfl
theorem stepF_12 : stepF l pos start 12 n = (if isIn l pos n then some (pos, start, if pos + n.toNat = l.length then 1 else 0, 0, []) else none) := rfl
theorem stepF_kind {k : Int} {x : Nat × Nat × Got} (h : stepF l pos start k n = some x) : k = 0 ∨ k = 1 ∨ k = 2 ∨ k = 3 ∨ k = 4 ∨ k = 5 ∨ k = 6 ∨ k = 7 ∨ k = 8 ∨ k = 9 ∨ k = 10 ∨ k = 11 ∨ k = 12 := by
  by_cases h0 : k = 0
  · simp [h0]
  by_cases h1 : k = 1
  · simp [h1]
  by_cases h2 : k = 2
  · simp [h2]
  by_cases h3 : k = 3
  · simp [h3]
  by_cases h4 : k = 4
  · simp [h4]
  by_cases h5 : k = 5
  · simp [h5]
  by_cases h6 : k = 6
  · simp [h6]
  by_cases h7 : k = 7
  · simp [h7]
  by_cases h8 : k = 8
  · simp [h8]
  by_cases h9 : k = 9
  · simp [h9]
  by_cases h10 : k = 10
  · simp [h10]
  by_cases h11 : k = 11
  · simp [h11]
  by_cases h12 : k = 12
  · simp [h12]
  unfold stepF at h
  rw [if_neg h0, if_neg h1, if_neg h2, if_neg h3, if_neg h4, if_neg h5, if_neg h6, if_neg h7, if_neg h8, if_neg h9, if_neg h10, if_neg h11, if_neg h12] at h
  cases h
end
/-- Steps, one behind the other, from a state. -/
def runStep (l : List UInt8) (o : Option (Nat × Nat × List Got)) (s : Int × Int) : Option (Nat × Nat × List Got) :=
  o.bind fun st => (stepF l st.1 st.2.1 s.1 s.2).map fun x => (x.1, x.2.1, st.2.2 ++ [x.2.2])
def runL (l : List UInt8) (ss : List (Int × Int)) : Option (Nat × Nat × List Got) := ss.foldl (runStep l) (some (0, 0, []))
theorem runL_snoc (l : List UInt8) (ss : List (Int × Int)) (s : Int × Int) : runL l (ss ++ [s]) = runStep l (runL l ss) s := by simp [runL]
theorem runL_none {l : List UInt8} {ss : List (Int × Int)} (tt : List (Int × Int)) (h : runL l ss = none) : runL l (ss ++ tt) = none := by
  unfold runL at *
  rw [List.foldl_append, h]
  induction tt with
  | nil => rfl
  | cons t r ih => rw [List.foldl_cons]; exact ih
theorem run_len_fold {l : List UInt8} : ∀ (ss : List (Int × Int)) (o : Nat × Nat × List Got) {r : Nat × Nat × List Got}, ss.foldl (runStep l) (some o) = some r → r.2.2.length = o.2.2.length + ss.length
  | [], o, r, h => by
    simp at h
    subst h
    rfl
  | t :: ss, o, r, h => by
    rw [List.foldl_cons] at h
    cases h1 : runStep l (some o) t with
    | none =>
      rw [h1] at h
      exact absurd h (by
        have : ∀ ss : List (Int × Int), ss.foldl (runStep l) none = none := fun ss => by
          induction ss with
          | nil => rfl
          | cons a b ih => rw [List.foldl_cons]; exact ih
        rw [this]
        simp)
    | some o' =>
      rw [h1] at h
      have := run_len_fold ss o' h
      have e : o'.2.2.length = o.2.2.length + 1 := by
        simp only [runStep, Option.bind_some] at h1
        obtain ⟨y, _, e⟩ := Option.map_eq_some_iff.1 h1
        rw [← e]
        simp
      rw [this, e, List.length_cons]
      omega
/-- So many things as steps. -/
theorem run_lenG {l : List UInt8} {ss : List (Int × Int)} {p s : Nat} {gs : List Got} (h : runL l ss = some (p, s, gs)) : gs.length = ss.length := by
  have := run_len_fold ss (0, 0, []) h
  simpa using this
/-- A step that may be taken keeps the selection within the text. -/
theorem stepF_in {l : List UInt8} {pos start p s : Nat} {k n : Int} {x : Got} (h : stepF l pos start k n = some (p, s, x)) (hp : pos ≤ l.length) (hs : start ≤ pos) : p ≤ l.length ∧ s ≤ p := by
  rcases stepF_kind h with rfl | rfl | rfl | rfl | rfl | rfl | rfl | rfl | rfl | rfl | rfl | rfl | rfl
  · rw [stepF_0] at h
    split at h
    · rename_i hi
      simp only [Option.some.injEq, Prod.mk.injEq] at h
      simp [isIn] at hi
      omega
    · cases h
  · rw [stepF_1] at h
    split at h
    · rename_i hi
      simp only [Option.some.injEq, Prod.mk.injEq] at h
      simp [isIn] at hi
      omega
    · cases h
  · rw [stepF_2] at h
    split at h
    · rename_i hi
      simp only [Option.some.injEq, Prod.mk.injEq] at h
      simp [isIn] at hi
      omega
    · cases h
  · rw [stepF_3] at h
    split at h
    · rename_i hi
      simp only [Option.some.injEq, Prod.mk.injEq] at h
      simp at hi
      omega
    · cases h
  · rw [stepF_4] at h
    simp only [Option.some.injEq, Prod.mk.injEq] at h
    omega
  · rw [stepF_5] at h
    simp only [Option.some.injEq, Prod.mk.injEq] at h
    omega
  · rw [stepF_6] at h
    simp only [Option.some.injEq, Prod.mk.injEq] at h
    omega
  · rw [stepF_7] at h
    simp only [Option.some.injEq, Prod.mk.injEq] at h
    omega
  · rw [stepF_8] at h
    split at h
    · rename_i hi
      simp only [Option.some.injEq, Prod.mk.injEq] at h
      skip
      omega
    · cases h
  · rw [stepF_9] at h
    simp only [Option.some.injEq, Prod.mk.injEq] at h
    omega
  · rw [stepF_10] at h
    simp only [Option.some.injEq, Prod.mk.injEq] at h
    omega
  · rw [stepF_11] at h
    simp only [Option.some.injEq, Prod.mk.injEq] at h
    omega
  · rw [stepF_12] at h
    split at h
    · rename_i hi
      simp only [Option.some.injEq, Prod.mk.injEq] at h
      simp [isIn] at hi
      omega
    · cases h
/-- io.EOF holds a pointer that may be compared. -/
def EofIs (w : World) : Prop := ∃ T te i j a, Tryd.prog.underlying T = some (.pointer te) ∧ Tryd.prog.info? T = some i ∧ i.comparable = true ∧ Tryd.prog.info? te = some j ∧ Eof w T a
theorem EofIs.below {w w' : World} (h : EofIs w) (hb : Below w.heap.size w w') : EofIs w' := by
  obtain ⟨T, te, i, j, a, h1, h2, h3, h4, h5⟩ := h
  exact ⟨T, te, i, j, a, h1, h2, h3, h4, h5.below hb⟩
theorem isIn_toNat {l : List UInt8} {pos : Nat} {n : Int} (h : isIn l pos n = true) (hp : pos ≤ l.length) : n = (n.toNat : Int) ∧ pos + n.toNat ≤ l.length := by
  unfold isIn at h
  simp at h
  omega
theorem byte_at {l : List UInt8} {k : Nat} (h : k < l.length) : l[k]? = some ((l[k]?).getD 0) := by
  rw [List.getElem?_eq_getElem h]
  rfl
theorem take_any (g c pos start : Nat) (A : Option Addr) (l : List UInt8) (w : World) (k n : Int) (p s : Nat) (num oth : Int) (data : List UInt8) (h : Inp w g A c l pos start) (hl : l.length ≤ 2147483647) (hp : pos ≤ l.length) (hs : start ≤ pos) (he : EofIs w)
    (hst : stepF l pos start k n = some (p, s, num, oth, data)) :
    Calls Tryd.prog 12 #[.pointer (some ⟨g, 0, none⟩), .agg #[.int .i64 k, .int .i64 n]] w (TakeRet g A c l p s num oth data w) := by
  rcases stepF_kind hst with rfl | rfl | rfl | rfl | rfl | rfl | rfl | rfl | rfl | rfl | rfl | rfl | rfl
  · rw [stepF_0] at hst
    split at hst
    · rename_i hi
      obtain ⟨hn, hr⟩ := isIn_toNat hi hp
      obtain ⟨k, hk⟩ : ∃ k, n.toNat = k := ⟨_, rfl⟩
      rw [hk] at hn hr hst
      subst hn
      simp only [Option.some.injEq, Prod.mk.injEq] at hst
      obtain ⟨rfl, rfl, rfl, rfl, rfl⟩ := hst
      exact take_0 g c pos start A l w k _ h hl hp hs (byte_at (by simp; omega))
    · cases hst
  · rw [stepF_1] at hst
    split at hst
    · rename_i hi
      simp only [Bool.and_eq_true, decide_eq_true_eq] at hi
      obtain ⟨hn, hr⟩ := isIn_toNat hi.1.1 hp
      obtain ⟨k, hk⟩ : ∃ k, n.toNat = k := ⟨_, rfl⟩
      rw [hk] at hn hr hst hi
      subst hn
      simp only [Option.some.injEq, Prod.mk.injEq] at hst
      obtain ⟨rfl, rfl, rfl, rfl, rfl⟩ := hst
      exact take_1 g c pos start A l w k _ h hl hp hs (byte_at hi.1.2) hi.2
    · cases hst
  · rw [stepF_2] at hst
    split at hst
    · rename_i hi
      obtain ⟨hn, hr⟩ := isIn_toNat hi hp
      obtain ⟨k, hk⟩ : ∃ k, n.toNat = k := ⟨_, rfl⟩
      rw [hk] at hn hr hst
      subst hn
      simp only [Option.some.injEq, Prod.mk.injEq] at hst
      obtain ⟨rfl, rfl, rfl, rfl, rfl⟩ := hst
      exact take_2 g c pos start A l w k h hl hp hs (by omega)
    · cases hst
  · rw [stepF_3] at hst
    split at hst
    · rename_i hi
      simp only [Bool.and_eq_true, decide_eq_true_eq] at hi
      simp only [Option.some.injEq, Prod.mk.injEq] at hst
      obtain ⟨rfl, rfl, rfl, rfl, rfl⟩ := hst
      exact take_3 g c pos start A l w n _ h hl hp hs (byte_at hi.1) hi.2
    · cases hst
  · rw [stepF_4] at hst
    simp only [Option.some.injEq, Prod.mk.injEq] at hst
    obtain ⟨rfl, rfl, rfl, rfl, rfl⟩ := hst
    exact take_4 g c pos start A l w n h hl hp hs
  · rw [stepF_5] at hst
    simp only [Option.some.injEq, Prod.mk.injEq] at hst
    obtain ⟨rfl, rfl, rfl, rfl, rfl⟩ := hst
    exact take_5 g c pos start A l w n h hl hp hs
  · rw [stepF_6] at hst
    simp only [Option.some.injEq, Prod.mk.injEq] at hst
    obtain ⟨rfl, rfl, rfl, rfl, rfl⟩ := hst
    exact take_6 g c pos start A l w n h hl hp hs
  · rw [stepF_7] at hst
    simp only [Option.some.injEq, Prod.mk.injEq] at hst
    obtain ⟨rfl, rfl, rfl, rfl, rfl⟩ := hst
    exact take_7 g c pos start A l w n h hl hp hs
  · rw [stepF_8] at hst
    split at hst
    · rename_i hi
      obtain ⟨k, hk⟩ : ∃ k, n.toNat = k := ⟨_, rfl⟩
      rw [hk] at hst
      obtain rfl : n = (k : Int) := by omega
      simp only [Option.some.injEq, Prod.mk.injEq] at hst
      obtain ⟨rfl, rfl, rfl, rfl, rfl⟩ := hst
      exact take_8 g c pos start A l w k h hl hp hs (by omega)
    · cases hst
  · rw [stepF_9] at hst
    simp only [Option.some.injEq, Prod.mk.injEq] at hst
    obtain ⟨rfl, rfl, rfl, rfl, rfl⟩ := hst
    exact take_9 g c pos start A l w n h hl hp hs
  · rw [stepF_10] at hst
    simp only [Option.some.injEq, Prod.mk.injEq] at hst
    obtain ⟨rfl, rfl, rfl, rfl, rfl⟩ := hst
    exact take_10 g c pos start A l w n h hl hp hs
  · rw [stepF_11] at hst
    simp only [Option.some.injEq, Prod.mk.injEq] at hst
    obtain ⟨rfl, rfl, rfl, rfl, rfl⟩ := hst
    exact take_11 g c pos start A l w n h hl hp hs
  · rw [stepF_12] at hst
    split at hst
    · rename_i hi
      obtain ⟨hn, hr⟩ := isIn_toNat hi hp
      obtain ⟨k, hk⟩ : ∃ k, n.toNat = k := ⟨_, rfl⟩
      rw [hk] at hn hr hst
      subst hn
      simp only [Option.some.injEq, Prod.mk.injEq] at hst
      obtain ⟨rfl, rfl, rfl, rfl, rfl⟩ := hst
      obtain ⟨T, te, i, j, a, e1, e2, e3, e4, e5⟩ := he
      by_cases hend : pos + k = l.length
      · rw [if_pos hend]
        exact take_12b g c pos start A l w k h hl hp hs hend T te i j a e1 e2 e3 e4 e5
      · rw [if_neg hend]
        exact take_12a g c pos start A l w k h hl hp hs (by omega) T a e5
    · cases hst
end Go.Proofs.YthfnahcaoeggbaaDoor
