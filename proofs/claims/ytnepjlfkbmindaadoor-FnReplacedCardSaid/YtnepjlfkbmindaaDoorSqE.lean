/- Squeezing in place while entities are replaced: plain lists, no program. -/
import Derived.Test.YtnepjlfkbmindaaDoorReB
import Derived.Test.YtnepjlfkbmindaaDoorSq
namespace Go.Proofs.YtnepjlfkbmindaaDoor
open Go.RowKit
set_option linter.unusedVariables false
set_option linter.unusedSimpArgs false

theorem sq_app (n : Nat) : ∀ (a b : List UInt8), a.length ≤ n → (∀ c, b.head? = some c → isBl c = false) → sq (a ++ b) = sq a ++ sq b := by
  induction n with
  | zero =>
    intro a b ha hb
    obtain rfl : a = [] := List.eq_nil_of_length_eq_zero (by omega)
    rw [sq_nil]; rfl
  | succ n ih =>
    intro a b ha hb
    cases a with
    | nil => rw [sq_nil]; rfl
    | cons c r =>
      cases hc : isBl c with
      | false =>
        rw [List.cons_append, sq_no hc, sq_no hc, ih r b (by simpa using ha) hb]
        rfl
      | true =>
        have e : c :: r = (c :: r.takeWhile isBl) ++ r.dropWhile isBl := by rw [List.cons_append, List.takeWhile_append_dropWhile]
        have hall : ∀ d ∈ c :: r.takeWhile isBl, isBl d = true := fun d hd => by
          rcases List.mem_cons.1 hd with rfl | hd
          · exact hc
          · exact List.all_eq_true.1 (List.all_takeWhile (l := r) (p := isBl)) d hd
        have hdrop : ∀ d, (r.dropWhile isBl).head? = some d → isBl d = false := fun d hd => by
          have := List.head?_dropWhile_not isBl r
          rw [hd] at this
          simpa using this
        have hdl := (List.dropWhile_sublist isBl (l := r)).length_le
        have hdrop2 : ∀ d, (r.dropWhile isBl ++ b).head? = some d → isBl d = false := fun d hd => by
          cases hh : r.dropWhile isBl with
          | nil => rw [hh] at hd; exact hb d hd
          | cons y z => rw [hh] at hd; exact hdrop d (by rw [hh]; exact hd)
        rw [e, List.append_assoc, sq_run (by simp) hall hdrop2, sq_run (by simp) hall hdrop, ih (r.dropWhile isBl) b (by simp at ha; omega) hb]
        rfl
theorem bl38 : isBl 38 = false := by decide
theorem an_bl {d : UInt8} (h : isAn d) : isBl d = false := by
  cases hb : isBl d with
  | false => rfl
  | true =>
    exfalso
    simp only [isBl, Bool.or_eq_true, beq_iff_eq] at hb
    unfold isAn at h
    rcases hb with (((rfl | rfl) | rfl) | rfl) | rfl <;> simp at h
theorem SqIn.many {l cur : List UInt8} {j k p : Nat} : ∀ (m : Nat), SqIn l cur j k p → (∀ q, q < m → ∃ c, l[p + q]? = some c ∧ isBl c = false) → SqIn l cur j k (p + m)
  | 0, h, _ => h
  | m + 1, h, hq => by
    have h1 := SqIn.many m h (fun q hqm => hq q (by omega))
    obtain ⟨c, hc, hb⟩ := hq m (by omega)
    exact h1.one hc hb
theorem SqIn.rep {l cur f t : List UInt8} {j k p : Nat} (h : SqIn l cur j k p) (hf : Lies l p f) (hf0 : f[0]? = some 38) (ht1 : 1 ≤ t.length) (ht : ∀ d ∈ t, isAn d) :
    SqIn (l.take p ++ t ++ l.drop (p + f.length)) (cur.take p ++ t ++ cur.drop (p + f.length)) j k (p + t.length) := by
  obtain ⟨h1, h2, h3, h4, h5⟩ := h
  have hle := hf.le
  have ltl : (l.take p).length = p := by rw [List.length_take]; omega
  have ltc : (cur.take p).length = p := by rw [List.length_take]; omega
  have hl38 := hf.at_ hf0
  rw [Nat.add_zero] at hl38
  obtain ⟨x, t', rfl⟩ : ∃ x t', t = x :: t' := by
    cases t with
    | nil => simp at ht1
    | cons x t' => exact ⟨x, t', rfl⟩
  have e1 : l.drop (p + f.length) = cur.drop (p + f.length) := by
    have := congrArg (List.drop f.length) h2
    simpa [List.drop_drop] using this.symm
  have hx := an_bl (ht x (by simp))
  have s1 : sq l = sq (l.take p) ++ sq (l.drop p) := by
    conv => lhs; rw [← List.take_append_drop p l]
    refine sq_app _ _ _ (Nat.le_refl _) (fun c hc => ?_)
    rw [List.head?_drop, hl38] at hc
    cases hc
    exact bl38
  have s2 : sq (l.take p ++ (x :: t' ++ l.drop (p + f.length))) = sq (l.take p) ++ sq (x :: t' ++ l.drop (p + f.length)) :=
    sq_app _ _ _ (Nat.le_refl _) (fun c hc => by simp at hc; subst hc; exact hx)
  have s3 : cur.take j ++ (cur.drop k).take (p - k) = sq (l.take p) := by
    rw [s1] at h3
    exact List.append_cancel_right h3
  have dl : (l.take p ++ (x :: t') ++ l.drop (p + f.length)).drop p = x :: t' ++ l.drop (p + f.length) := by
    rw [List.append_assoc, List.drop_append, ltl, List.drop_of_length_le (by omega), Nat.sub_self]
    rfl
  have dc : (cur.take p ++ (x :: t') ++ cur.drop (p + f.length)).drop p = x :: t' ++ cur.drop (p + f.length) := by
    rw [List.append_assoc, List.drop_append, ltc, List.drop_of_length_le (by omega), Nat.sub_self]
    rfl
  have hjp : j ≤ p ∧ k ≤ p := by omega
  refine SqIn.many (x :: t').length ⟨?_, ?_, ?_, ?_, h5⟩ (fun q hq => ?_)
  · simp only [List.length_append, List.length_take, List.length_drop]; omega
  · rw [dl, dc, e1]
  · rw [dl]
    have c1 : (cur.take p ++ (x :: t') ++ cur.drop (p + f.length)).take j = cur.take j := by
      rw [List.append_assoc, List.take_append_of_le_length (by omega), List.take_take, Nat.min_eq_left hjp.1]
    have c2 : ((cur.take p ++ (x :: t') ++ cur.drop (p + f.length)).drop k).take (p - k) = (cur.drop k).take (p - k) := by
      rw [List.append_assoc, List.drop_append_of_le_length (by omega), List.take_append_of_le_length (by rw [List.length_drop]; omega), List.drop_take, List.take_take, Nat.min_self]
    rw [c1, c2, s3, List.append_assoc, s2]
  · rw [List.length_append, List.length_append, ltl]; omega
  · refine ⟨(x :: t')[q], ?_, an_bl (ht _ (List.getElem_mem hq))⟩
    rw [List.append_assoc, List.getElem?_append_right (by rw [ltl]; omega), ltl, Nat.add_sub_cancel_left, List.getElem?_append_left hq, List.getElem?_eq_getElem hq]
theorem SqIn.lies {l cur f : List UInt8} {j k p : Nat} (h : SqIn l cur j k p) (hf : Lies l p f) : Lies cur p f := by
  obtain ⟨a, b, rfl, rfl⟩ := hf
  have hc := h.2.1
  have h1 := h.1
  simp at hc
  refine ⟨cur.take a.length, b, ?_, by rw [List.length_take, h1]; simp⟩
  rw [← hc, List.take_append_drop]
end Go.Proofs.YtnepjlfkbmindaaDoor
