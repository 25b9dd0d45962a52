/- Bytes of a set written by their numbers. Plain lists, no program. -/
import Derived.Test.YtdklelnllhpbfaaDoorUnesc
namespace Go.Proofs.YtdklelnllhpbfaaDoor
set_option linter.unusedVariables false

/-- A digit in hexadecimal. -/
def hexD (n : Nat) : UInt8 := if n < 10 then UInt8.ofNat (48 + n) else UInt8.ofNat (55 + n)
def encH (d : UInt8) : UInt8 := hexD (d.toNat / 16)
def encL (d : UInt8) : UInt8 := hexD (d.toNat % 16)
/-- The bytes such that f are written by their numbers. -/
def enc (f : UInt8 → Bool) : List UInt8 → List UInt8
  | [] => []
  | c :: r => if f c then 37 :: encH c :: encL c :: enc f r else c :: enc f r
theorem enc_le (f : UInt8 → Bool) (l : List UInt8) : (enc f l).length ≤ 3 * l.length := by
  induction l with
  | nil => simp [enc]
  | cons c r ih => rw [enc]; split <;> simp <;> omega
theorem enc_ge (f : UInt8 → Bool) (l : List UInt8) : l.length ≤ (enc f l).length := by
  induction l with
  | nil => simp [enc]
  | cons c r ih => rw [enc]; split <;> simp <;> omega
/-- No digit in hexadecimal is such. -/
def NoHex (f : UInt8 → Bool) : Prop := ∀ c, isHex c = true → f c = false
theorem hexD_hex {n : Nat} (h : n < 16) : isHex (hexD n) = true := by
  have : (List.range 16).all (fun n => isHex (hexD n)) = true := by decide +kernel
  exact List.all_eq_true.1 this n (List.mem_range.2 h)
theorem encH_hex (d : UInt8) : isHex (encH d) = true := hexD_hex (by have := d.toNat_lt; omega)
theorem encL_hex (d : UInt8) : isHex (encL d) = true := hexD_hex (by omega)
theorem enc_no {f : UInt8 → Bool} {l : List UInt8} {i : Nat} {d : UInt8} (h : l[i]? = some d) (hf : f d = false) : enc f (l.drop i) = d :: enc f (l.drop (i + 1)) := by
  rw [drop_at h, enc, if_neg (by simp [hf])]
theorem enc_yes {f : UInt8 → Bool} {l : List UInt8} {i : Nat} {d : UInt8} (h : l[i]? = some d) (hf : f d = true) : enc f (l.drop i) = 37 :: encH d :: encL d :: enc f (l.drop (i + 1)) := by
  rw [drop_at h, enc, if_pos hf]
/-- The program's state: what stands before a place is done. -/
theorem encp_no {f : UInt8 → Bool} {l t : List UInt8} {i : Nat} {d : UInt8} (h : l[i]? = some d) (hf : f d = false) (ht : l.take i ++ enc f (l.drop i) = t) : l.take (i + 1) ++ enc f (l.drop (i + 1)) = t := by
  rw [enc_no h hf] at ht
  rw [take_at h, List.append_assoc]
  exact ht
theorem encp_end {f : UInt8 → Bool} {l t : List UInt8} {i : Nat} (hl : l.length ≤ i) (ht : l.take i ++ enc f (l.drop i) = t) : l = t := by
  rw [List.drop_of_length_le hl, enc, List.append_nil, List.take_of_length_le hl] at ht
  exact ht
/-- What the program writes at a place. -/
def encAt (l : List UInt8) (i : Nat) (d : UInt8) : List UInt8 := l.take i ++ 37 :: encH d :: encL d :: l.drop (i + 1)
theorem encAt_len {l : List UInt8} {i : Nat} (d : UInt8) (h : i < l.length) : (encAt l i d).length = l.length + 2 := by simp [encAt]; omega
theorem encp_yes {f : UInt8 → Bool} (hf : NoHex f) {l t : List UInt8} {i : Nat} {d : UInt8} (h : l[i]? = some d) (hd : f d = true) (ht : l.take i ++ enc f (l.drop i) = t) : (encAt l i d).take (i + 1) ++ enc f ((encAt l i d).drop (i + 1)) = t := by
  have hi := (List.getElem?_eq_some_iff.1 h).1
  have e1 : (encAt l i d).take (i + 1) = l.take i ++ [37] := by
    unfold encAt
    rw [List.take_append]
    simp [Nat.min_eq_left (Nat.le_of_lt hi), List.take_take]
  have e2 : (encAt l i d).drop (i + 1) = encH d :: encL d :: l.drop (i + 1) := by
    unfold encAt
    rw [List.drop_append]
    simp [Nat.min_eq_left (Nat.le_of_lt hi)]
  rw [e1, e2, enc, if_neg (by simp [hf _ (encH_hex d)]), enc, if_neg (by simp [hf _ (encL_hex d)])]
  rw [enc_yes h hd] at ht
  rw [List.append_assoc]
  exact ht
/-- The row after the append, the copy and the three stores. -/
theorem encAt_row {l : List UInt8} {i : Nat} (d : UInt8) (h : i < l.length) :
    ((((l ++ [0, 0]).take (i + 3) ++ l.drop (i + 1)).set i 37).set (i + 1) (encH d)).set (i + 2) (encL d) = encAt l i d := by
  apply List.ext_getElem?
  intro j
  unfold encAt
  simp only [List.getElem?_set, List.length_set, List.length_append, List.length_take, List.length_drop, List.length_cons, List.length_nil]
  rw [List.getElem?_append, List.getElem?_append]
  simp only [List.length_take, List.length_append, List.length_cons, List.length_nil]
  rw [Nat.min_eq_left (by omega : i + 3 ≤ l.length + (0 + 1 + 1)), Nat.min_eq_left (Nat.le_of_lt h)]
  rcases Nat.lt_or_ge j i with h1 | h1
  · rw [if_neg (by omega), if_neg (by omega), if_neg (by omega), if_pos (by omega), if_pos h1, List.getElem?_take, if_pos (by omega), List.getElem?_take, if_pos h1, List.getElem?_append, if_pos (by omega)]
  · rw [if_neg (by omega : ¬ j < i)]
    rcases Nat.lt_or_ge j (i + 3) with h2 | h2
    · obtain rfl | rfl | rfl : j = i ∨ j = i + 1 ∨ j = i + 2 := by omega
      · rw [if_neg (by omega), if_neg (by omega), if_pos rfl, if_pos (by omega)]
        simp
      · rw [if_neg (by omega), if_pos rfl, if_pos (by omega), Nat.add_sub_cancel_left]
        rfl
      · rw [if_pos rfl, if_pos (by omega), Nat.add_sub_cancel_left]
        rfl
    · rw [if_neg (by omega), if_neg (by omega), if_neg (by omega), if_neg (by omega)]
      obtain ⟨k, rfl⟩ : ∃ k, j = i + 3 + k := ⟨j - (i + 3), by omega⟩
      rw [show i + 3 + k - (i + 3) = k by omega, show i + 3 + k - i = k + 1 + 1 + 1 by omega]
      rfl
end Go.Proofs.YtdklelnllhpbfaaDoor
