/- Bytes written by entities, and entities read back. Plain lists, no program. -/
import Derived.Test.YtdklelnllhpbfaaDoorWords
namespace Go.Proofs.YtdklelnllhpbfaaDoor
set_option linter.unusedVariables false
set_option linter.unusedSimpArgs false

def entLt : List UInt8 := [38, 108, 116, 59]
def entAmp : List UInt8 := [38, 97, 109, 112, 59]
def ent34 : List UInt8 := [38, 35, 51, 52, 59]
def ent39 : List UInt8 := [38, 35, 51, 57, 59]
/-- Does a text begin with another? -/
def isPre (q l : List UInt8) : Bool := q.isPrefixOf l
/-- Entities read. -/
def dec1 (l : List UInt8) : Option (UInt8 × Nat) :=
  if isPre ent34 l then some (34, 5) else if isPre ent39 l then some (39, 5) else if isPre entLt l then some (60, 4) else if isPre entAmp l then some (38, 5) else none
theorem dec1_pos {l : List UInt8} {c : UInt8} {n : Nat} (h : dec1 l = some (c, n)) : 0 < n := by
  unfold dec1 at h
  repeat' split at h
  all_goals first | (cases h; omega) | cases h
def decE (l : List UInt8) : List UInt8 :=
  match l with
  | [] => []
  | c :: r => match h : dec1 (c :: r) with
    | some (d, n) => d :: decE ((c :: r).drop n)
    | none => c :: decE r
termination_by l.length
decreasing_by
  · have := dec1_pos h
    simp; omega
  · simp
theorem decE_nil : decE [] = [] := by rw [decE]
theorem decE_hit {l : List UInt8} {d : UInt8} {n : Nat} (hl : l ≠ []) (h : dec1 l = some (d, n)) : decE l = d :: decE (l.drop n) := by
  cases l with
  | nil => exact absurd rfl hl
  | cons c r =>
    rw [decE]
    split
    · rename_i d' n' h'
      rw [h] at h'
      cases h'
      rfl
    · rename_i h'
      rw [h] at h'
      cases h'
theorem decE_miss {c : UInt8} {r : List UInt8} (h : dec1 (c :: r) = none) : decE (c :: r) = c :: decE r := by
  rw [decE]
  split
  · rename_i d' n' h'
    rw [h] at h'
    cases h'
  · rfl
theorem decE_len (l : List UInt8) : (decE l).length ≤ l.length := by
  induction h : l.length using Nat.strongRecOn generalizing l with
  | _ n ih =>
    match l with
    | [] => simp [decE_nil]
    | c :: r =>
      subst h
      cases hh : dec1 (c :: r) with
      | none => rw [decE_miss hh]; have := ih r.length (by simp) r rfl; simp; omega
      | some x =>
        obtain ⟨d, n⟩ := x
        have hn := dec1_pos hh
        rw [decE_hit (by simp) hh]
        have := ih ((c :: r).drop n).length (by simp; omega) _ rfl
        simp at this ⊢
        omega
theorem dec1_none {c : UInt8} {r : List UInt8} (h : c ≠ 38) : dec1 (c :: r) = none := by
  have e : (38 == c) = false := by rw [beq_eq_false_iff_ne]; exact Ne.symm h
  simp [dec1, isPre, ent34, ent39, entLt, entAmp, List.isPrefixOf, e]
/-- Bytes written by f. -/
def esc (f : UInt8 → List UInt8) (l : List UInt8) : List UInt8 := l.flatMap f
theorem esc_app (f : UInt8 → List UInt8) (a b : List UInt8) : esc f (a ++ b) = esc f a ++ esc f b := by simp [esc]
def fX (c : UInt8) : List UInt8 := if c = 60 then entLt else if c = 38 then entAmp else [c]
def fQ (q c : UInt8) : List UInt8 := if c = q then (if q = 34 then ent34 else ent39) else [c]
theorem dec_escX (l : List UInt8) : decE (esc fX l) = l := by
  induction l with
  | nil => exact decE_nil
  | cons c r ih =>
    rw [show c :: r = [c] ++ r from rfl, esc_app]
    have e1 : esc fX [c] = fX c := by simp [esc]
    rw [e1]
    by_cases h1 : c = 60
    · rw [show fX c = entLt by unfold fX; rw [if_pos h1], decE_hit (d := 60) (n := 4) (by simp [entLt]) (by simp [dec1, isPre, ent34, ent39, entLt, List.isPrefixOf])]
      rw [show (entLt ++ esc fX r).drop 4 = esc fX r from rfl, ih, h1]
      rfl
    · by_cases h2 : c = 38
      · rw [show fX c = entAmp by unfold fX; rw [if_neg h1, if_pos h2], decE_hit (d := 38) (n := 5) (by simp [entAmp]) (by simp [dec1, isPre, ent34, ent39, entLt, entAmp, List.isPrefixOf])]
        rw [show (entAmp ++ esc fX r).drop 5 = esc fX r from rfl, ih, h2]
        rfl
      · rw [show fX c = [c] by unfold fX; rw [if_neg h1, if_neg h2], List.singleton_append, decE_miss (dec1_none h2), ih]
        rfl
theorem dec_escQ (q : UInt8) (hq : q = 34 ∨ q = 39) (l : List UInt8) (hl : ∀ c ∈ l, c ≠ 38) : decE (esc (fQ q) l) = l := by
  induction l with
  | nil => exact decE_nil
  | cons c r ih =>
    have ih := ih (fun c hc => hl c (by simp [hc]))
    rw [show c :: r = [c] ++ r from rfl, esc_app]
    have e1 : esc (fQ q) [c] = fQ q c := by simp [esc]
    rw [e1]
    by_cases h1 : c = q
    · rcases hq with hq | hq
      · rw [show fQ q c = ent34 by unfold fQ; rw [if_pos h1, if_pos hq], decE_hit (d := 34) (n := 5) (by simp [ent34]) (by simp [dec1, isPre, ent34, List.isPrefixOf])]
        rw [show (ent34 ++ esc (fQ q) r).drop 5 = esc (fQ q) r from rfl, ih, h1, hq]
        rfl
      · rw [show fQ q c = ent39 by unfold fQ; rw [if_pos h1, if_neg (by rw [hq]; decide)], decE_hit (d := 39) (n := 5) (by simp [ent39]) (by simp [dec1, isPre, ent34, ent39, List.isPrefixOf])]
        rw [show (ent39 ++ esc (fQ q) r).drop 5 = esc (fQ q) r from rfl, ih, h1, hq]
        rfl
    · rw [show fQ q c = [c] by unfold fQ; rw [if_neg h1], List.singleton_append, decE_miss (dec1_none (hl c (by simp))), ih]
      rfl
/-- What is written has no byte that is written otherwise. -/
theorem escX_no (l : List UInt8) : (60 : UInt8) ∉ esc fX l := by
  simp only [esc, List.mem_flatMap, not_exists, not_and]
  intro c _
  unfold fX
  split
  · simp [entLt]
  · split
    · simp [entAmp]
    · rename_i h _; simpa using Ne.symm h
theorem escQ_no (q : UInt8) (hq : q = 34 ∨ q = 39) (l : List UInt8) : q ∉ esc (fQ q) l := by
  simp only [esc, List.mem_flatMap, not_exists, not_and]
  intro c _
  unfold fQ
  split
  · rcases hq with rfl | rfl
    · simp [ent34]
    · simp [ent39]
  · rename_i h; simpa using Ne.symm h
/-- How much longer what is written is. -/
def extX (l : List UInt8) : Nat := (l.map fun c => if c = 60 then 3 else if c = 38 then 4 else 0).sum
theorem extX_app (a b : List UInt8) : extX (a ++ b) = extX a + extX b := by simp [extX]
theorem extX_len (l : List UInt8) : (esc fX l).length = l.length + extX l := by
  induction l with
  | nil => rfl
  | cons c r ih =>
    rw [show c :: r = [c] ++ r from rfl, esc_app, List.length_append, ih, extX_app]
    have : (esc fX [c]).length = 1 + extX [c] := by
      simp only [esc, List.flatMap_cons, List.flatMap_nil, List.append_nil, extX, List.map_cons, List.map_nil, List.sum_cons, List.sum_nil, fX]
      split
      · rfl
      · split <;> rfl
    simp
    omega
def cnt (q : UInt8) (l : List UInt8) : Nat := (l.filter (· == q)).length
theorem cnt_app (q : UInt8) (a b : List UInt8) : cnt q (a ++ b) = cnt q a + cnt q b := by simp [cnt]
theorem extQ_len (q : UInt8) (l : List UInt8) : (esc (fQ q) l).length = l.length + 4 * cnt q l := by
  induction l with
  | nil => rfl
  | cons c r ih =>
    rw [show c :: r = [c] ++ r from rfl, esc_app, List.length_append, ih, cnt_app]
    have : (esc (fQ q) [c]).length = 1 + 4 * cnt q [c] := by
      simp only [esc, List.flatMap_cons, List.flatMap_nil, List.append_nil, cnt, fQ]
      by_cases h : c = q
      · rw [if_pos h]
        have : (c == q) = true := by simpa using h
        split <;> simp [ent34, ent39, this]
      · rw [if_neg h]
        have : (c == q) = false := by simpa using h
        simp [this]
    simp
    omega
theorem take_snoc8 {l : List UInt8} {i : Nat} {c : UInt8} (h : l[i]? = some c) : l.take (i + 1) = l.take i ++ [c] := by
  obtain ⟨hi, e⟩ := List.getElem?_eq_some_iff.1 h
  rw [List.take_succ_eq_append_getElem hi, e]
theorem extX_next {l : List UInt8} {i : Nat} {c : UInt8} (h : l[i]? = some c) : extX (l.take (i + 1)) = extX (l.take i) + (if c = 60 then 3 else if c = 38 then 4 else 0) := by
  rw [take_snoc8 h, extX_app]; simp [extX]
theorem extX_le (l : List UInt8) (i : Nat) : extX (l.take i) ≤ extX l := by
  conv => rhs; rw [← List.take_append_drop i l]
  rw [extX_app]; omega
theorem cnt_next {q : UInt8} {l : List UInt8} {i : Nat} {c : UInt8} (h : l[i]? = some c) : cnt q (l.take (i + 1)) = cnt q (l.take i) + (if c = q then 1 else 0) := by
  rw [take_snoc8 h, cnt_app]
  by_cases hc : c = q
  · simp [cnt, hc]
  · have : (c == q) = false := by simpa using hc
    simp [cnt, hc, this]
theorem cnt_le (q : UInt8) (l : List UInt8) (i : Nat) : cnt q (l.take i) ≤ i := by
  have h1 : cnt q (l.take i) ≤ (l.take i).length := List.length_filter_le _ _
  have h2 : (l.take i).length ≤ i := List.length_take_le _ _
  omega
/-! Writing into a row: m is put at place j. -/
def put8 (cur : List UInt8) (j : Nat) (m : List UInt8) : List UInt8 := cur.take j ++ m ++ cur.drop (j + m.length)
theorem put8_len {cur m : List UInt8} {j : Nat} (h : j + m.length ≤ cur.length) : (put8 cur j m).length = cur.length := by simp [put8]; omega
theorem put8_take {cur m : List UInt8} {j k : Nat} (h : j + m.length ≤ cur.length) (hk : k = j + m.length) : (put8 cur j m).take k = cur.take j ++ m := by
  subst hk
  have e : (cur.take j ++ m).length = j + m.length := by simp; omega
  unfold put8
  rw [List.take_append_of_le_length (by omega), List.take_of_length_le (by omega)]
theorem put8_nil (cur : List UInt8) (j : Nat) : put8 cur j [] = cur := by simp [put8]
/-- What is known at the head of a round of the writing: p is what stands ahead, start the place from which on nothing has been written, j the place to write at. -/
structure EscIn (f : UInt8 → List UInt8) (p l cur : List UInt8) (i start j : Nat) : Prop where
  si : start ≤ i
  il : i ≤ l.length
  jl : j = p.length + (esc f (l.take start)).length
  fits : p.length + (esc f l).length ≤ cur.length
  done : cur.take j = p ++ esc f (l.take start)
  sec : esc f (l.take i) = esc f (l.take start) ++ (l.drop start).take (i - start)
theorem esc_le (f : UInt8 → List UInt8) (l : List UInt8) (i : Nat) : (esc f (l.take i)).length ≤ (esc f l).length := by
  conv => rhs; rw [← List.take_append_drop i l]
  rw [esc_app, List.length_append]
  omega
theorem esc_next {f : UInt8 → List UInt8} {l : List UInt8} {i : Nat} {c : UInt8} (h : l[i]? = some c) : esc f (l.take (i + 1)) = esc f (l.take i) ++ f c := by
  rw [take_snoc8 h, esc_app]; simp [esc]
section
variable {f : UInt8 → List UInt8} {p l cur : List UInt8} {i start j : Nat}
theorem EscIn.begin_ (h : p.length + (esc f l).length ≤ cur.length) (hp : cur.take p.length = p) : EscIn f p l cur 0 0 p.length :=
  ⟨Nat.le_refl _, Nat.zero_le _, by simp [esc], h, by simp [esc, hp], by simp [esc]⟩
theorem sec_len (h1 : start ≤ i) (h2 : i ≤ l.length) : ((l.drop start).take (i - start)).length = i - start := by simp; omega
theorem sec_snoc {c : UInt8} (h1 : start ≤ i) (h : l[i]? = some c) : (l.drop start).take (i + 1 - start) = (l.drop start).take (i - start) ++ [c] := by
  obtain ⟨hi, e⟩ := List.getElem?_eq_some_iff.1 h
  rw [show i + 1 - start = (i - start) + 1 by omega, List.take_succ_eq_append_getElem (by simp; omega)]
  simp [show start + (i - start) = i by omega, e]
theorem EscIn.plain {c : UInt8} (h : EscIn f p l cur i start j) (hc : l[i]? = some c) (hf : f c = [c]) : EscIn f p l cur (i + 1) start j := by
  have hi := (List.getElem?_eq_some_iff.1 hc).1
  exact ⟨by have := h.si; omega, hi, h.jl, h.fits, h.done, by rw [esc_next hc, hf, h.sec, sec_snoc h.si hc, List.append_assoc]⟩
/-- The room that the section and an entity need. -/
theorem EscIn.room {c : UInt8} (h : EscIn f p l cur i start j) (hc : l[i]? = some c) : j + (i - start) + (f c).length ≤ cur.length := by
  have h1 := esc_le f l (i + 1)
  have h2 := h.fits
  have h3 := h.jl
  have h4 := congrArg List.length h.sec
  rw [esc_next hc, List.length_append] at h1
  rw [List.length_append, sec_len h.si h.il] at h4
  omega
theorem EscIn.room1 (h : EscIn f p l cur i start j) : j + (i - start) ≤ cur.length := by
  have h1 := esc_le f l i
  have h2 := h.fits
  have h3 := h.jl
  have h4 := congrArg List.length h.sec
  rw [List.length_append, sec_len h.si h.il] at h4
  omega
theorem EscIn.ent {c : UInt8} (h : EscIn f p l cur i start j) (hc : l[i]? = some c) : EscIn f p l (put8 (put8 cur j ((l.drop start).take (i - start))) (j + (i - start)) (f c)) (i + 1) (i + 1) (j + (i - start) + (f c).length) := by
  have hi := (List.getElem?_eq_some_iff.1 hc).1
  have hr := h.room hc
  have hs := sec_len h.si h.il
  have e1 : j + ((l.drop start).take (i - start)).length ≤ cur.length := by rw [hs]; omega
  have e2 : j + (i - start) + (f c).length ≤ (put8 cur j ((l.drop start).take (i - start))).length := by rw [put8_len e1]; omega
  refine ⟨Nat.le_refl _, hi, ?_, ?_, ?_, ?_⟩
  · have h3 := h.jl
    have h4 := congrArg List.length h.sec
    rw [List.length_append, hs] at h4
    rw [esc_next hc, List.length_append]
    omega
  · rw [put8_len e2, put8_len e1]; exact h.fits
  · rw [put8_take e2 rfl, put8_take e1 (by rw [hs]), h.done, esc_next hc, h.sec]
    simp
  · simp
theorem EscIn.last (h : EscIn f p l cur l.length start j) : (put8 cur j (l.drop start)).take (j + (l.length - start)) = p ++ esc f l := by
  have e0 : (l.drop start).take (l.length - start) = l.drop start := List.take_of_length_le (by simp)
  have hr := h.room1
  have e1 : j + (l.drop start).length ≤ cur.length := by rw [List.length_drop]; exact hr
  rw [put8_take e1 (by rw [List.length_drop]), h.done]
  have := h.sec
  rw [List.take_length, e0] at this
  rw [this, List.append_assoc]
end
end Go.Proofs.YtdklelnllhpbfaaDoor
