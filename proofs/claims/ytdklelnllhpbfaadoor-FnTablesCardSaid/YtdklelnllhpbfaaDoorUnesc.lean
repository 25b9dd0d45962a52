/- Bytes that are written by their numbers: the text with these bytes in their places. Plain lists, no program. -/
import Derived.Test.YtdklelnllhpbfaaDoorWords
namespace Go.Proofs.YtdklelnllhpbfaaDoor

def hexV (c : UInt8) : Nat := if 48 ≤ c ∧ c ≤ 57 then c.toNat - 48 else if 97 ≤ c ∧ c ≤ 102 then c.toNat - 87 else c.toNat - 55
def isHex (c : UInt8) : Bool := (48 ≤ c && c ≤ 57) || (97 ≤ c && c ≤ 102) || (65 ≤ c && c ≤ 70)
/-- Is the head of the text a byte that is written by its number? -/
def hit (l : List UInt8) : Bool := match l with | c :: a :: b :: _ => c == 37 && isHex a && isHex b | _ => false
def hitV (l : List UInt8) : UInt8 := match l with | _ :: a :: b :: _ => UInt8.ofNat (16 * hexV a + hexV b) | _ => 0
def unesc (l : List UInt8) : List UInt8 :=
  match l with
  | [] => []
  | c :: r => if hit (c :: r) then hitV (c :: r) :: unesc (r.drop 2) else c :: unesc r
termination_by l.length
decreasing_by all_goals simp <;> omega
theorem unesc_nil : unesc [] = [] := by rw [unesc]
theorem unesc_hit {c : UInt8} {r : List UInt8} (h : hit (c :: r) = true) : unesc (c :: r) = hitV (c :: r) :: unesc (r.drop 2) := by rw [unesc, if_pos h]
theorem unesc_miss {c : UInt8} {r : List UInt8} (h : hit (c :: r) = false) : unesc (c :: r) = c :: unesc r := by rw [unesc, if_neg (by simp [h])]
theorem unesc_len (l : List UInt8) : (unesc l).length ≤ l.length := by
  induction h : l.length using Nat.strongRecOn generalizing l with
  | _ n ih =>
    match l with
    | [] => simp [unesc_nil]
    | c :: r =>
      subst h
      cases hh : hit (c :: r)
      · rw [unesc_miss hh]; have := ih r.length (by simp) r rfl; simp; omega
      · rw [unesc_hit hh]; have := ih (r.drop 2).length (by simp; omega) _ rfl; simp at this ⊢; omega
/-- A byte as a digit in hexadecimal: in which of three ranges it lies, or in which of four gaps. -/
theorem hex_cases (a : UInt8) : (48 ≤ a.toNat ∧ a.toNat ≤ 57 ∧ isHex a = true ∧ hexV a = a.toNat - 48) ∨ (65 ≤ a.toNat ∧ a.toNat ≤ 70 ∧ isHex a = true ∧ hexV a = a.toNat - 55) ∨ (97 ≤ a.toNat ∧ a.toNat ≤ 102 ∧ isHex a = true ∧ hexV a = a.toNat - 87) ∨
    (isHex a = false ∧ (a.toNat < 48 ∨ (57 < a.toNat ∧ a.toNat < 65) ∨ (70 < a.toNat ∧ a.toNat < 97) ∨ 102 < a.toNat)) := by
  unfold isHex hexV
  simp only [UInt8.le_iff_toNat_le, Bool.or_eq_true, Bool.or_eq_false_iff, Bool.and_eq_true, Bool.and_eq_false_iff, decide_eq_true_eq, decide_eq_false_iff_not]
  simp only [show (48 : UInt8).toNat = 48 from rfl, show (57 : UInt8).toNat = 57 from rfl, show (97 : UInt8).toNat = 97 from rfl, show (102 : UInt8).toNat = 102 from rfl, show (65 : UInt8).toNat = 65 from rfl, show (70 : UInt8).toNat = 70 from rfl]
  by_cases h1 : 48 ≤ a.toNat ∧ a.toNat ≤ 57
  · exact .inl ⟨h1.1, h1.2, .inl (.inl h1), if_pos h1⟩
  · by_cases h2 : 97 ≤ a.toNat ∧ a.toNat ≤ 102
    · exact .inr (.inr (.inl ⟨h2.1, h2.2, .inl (.inr h2), by rw [if_neg h1, if_pos h2]⟩))
    · by_cases h3 : 65 ≤ a.toNat ∧ a.toNat ≤ 70
      · exact .inr (.inl ⟨h3.1, h3.2, .inr h3, by rw [if_neg h1, if_neg h2]⟩)
      · exact .inr (.inr (.inr ⟨by omega, by omega⟩))
theorem hexV_lt {c : UInt8} (h : isHex c = true) : hexV c < 16 := by
  rcases hex_cases c with ⟨_, _, _, e⟩ | ⟨_, _, _, e⟩ | ⟨_, _, _, e⟩ | ⟨e, _⟩
  · omega
  · omega
  · omega
  · rw [h] at e; cases e
/-- The byte of two digits. -/
def hexB (a b : UInt8) : UInt8 := UInt8.ofNat (16 * hexV a + hexV b)
theorem hexB_toNat {a b : UInt8} (ha : isHex a = true) (hb : isHex b = true) : (hexB a b).toNat = 16 * hexV a + hexV b := by
  have := hexV_lt ha
  have := hexV_lt hb
  unfold hexB
  rw [UInt8.toNat_ofNat']
  omega
theorem drop_at {l : List UInt8} {i : Nat} {d : UInt8} (h : l[i]? = some d) : l.drop i = d :: l.drop (i + 1) := by
  obtain ⟨hi, e⟩ := List.getElem?_eq_some_iff.1 h
  rw [List.drop_eq_getElem_cons hi, e]
theorem take_at {l : List UInt8} {i : Nat} {d : UInt8} (h : l[i]? = some d) : l.take (i + 1) = l.take i ++ [d] := by
  obtain ⟨hi, e⟩ := List.getElem?_eq_some_iff.1 h
  rw [List.take_succ_eq_append_getElem hi, e]
theorem hit_at {l : List UInt8} {i : Nat} {d a b : UInt8} (h0 : l[i]? = some d) (h1 : l[i + 1]? = some a) (h2 : l[i + 2]? = some b) : hit (l.drop i) = (d == 37 && isHex a && isHex b) := by
  rw [drop_at h0, drop_at h1, drop_at h2]
  rfl
theorem hit_short {l : List UInt8} {i : Nat} (h : l.length ≤ i + 2) : hit (l.drop i) = false := by
  have : (l.drop i).length ≤ 2 := by simp; omega
  match hl : l.drop i, this with
  | [], _ => rfl
  | [_], _ => rfl
  | [_, _], _ => rfl
theorem hit_not {l : List UInt8} {i : Nat} {d : UInt8} (h0 : l[i]? = some d) (h : d ≠ 37) : hit (l.drop i) = false := by
  rw [drop_at h0]
  have e : (d == 37) = false := by simpa using h
  match l.drop (i + 1) with
  | [] => rfl
  | [_] => rfl
  | _ :: _ :: _ => simp [hit, e]
theorem un_miss {l : List UInt8} {i : Nat} {d : UInt8} (h0 : l[i]? = some d) (h : hit (l.drop i) = false) : unesc (l.drop i) = d :: unesc (l.drop (i + 1)) := by
  rw [drop_at h0] at h ⊢
  exact unesc_miss h
theorem un_hit {l : List UInt8} {i : Nat} {d a b : UInt8} (h0 : l[i]? = some d) (h1 : l[i + 1]? = some a) (h2 : l[i + 2]? = some b) (h : hit (l.drop i) = true) : unesc (l.drop i) = hexB a b :: unesc (l.drop (i + 3)) := by
  rw [drop_at h0, drop_at h1, drop_at h2] at h ⊢
  rw [unesc_hit h]
  rfl
/-- In place: behind a byte that stays. -/
theorem place_miss {l : List UInt8} {i : Nat} {d : UInt8} {t : List UInt8} (h0 : l[i]? = some d) (h : hit (l.drop i) = false) (ht : l.take i ++ unesc (l.drop i) = t) : l.take (i + 1) ++ unesc (l.drop (i + 1)) = t := by
  rw [un_miss h0 h] at ht
  rw [take_at h0, List.append_assoc]
  exact ht
/-- In place: behind a byte that was written by its number. -/
theorem place_hit {l : List UInt8} {i : Nat} {d a b : UInt8} {t : List UInt8} (h0 : l[i]? = some d) (h1 : l[i + 1]? = some a) (h2 : l[i + 2]? = some b) (h : hit (l.drop i) = true) (ht : l.take i ++ unesc (l.drop i) = t) :
    ((l.set i (hexB a b)).take (i + 1) ++ (l.set i (hexB a b)).drop (i + 3)).take (i + 1) ++ unesc (((l.set i (hexB a b)).take (i + 1) ++ (l.set i (hexB a b)).drop (i + 3)).drop (i + 1)) = t := by
  have hi : i < l.length := (List.getElem?_eq_some_iff.1 h0).1
  have e1 : ((l.set i (hexB a b)).take (i + 1)).length = i + 1 := by simp; omega
  rw [List.take_append_of_le_length (by omega), List.take_of_length_le (by omega), List.drop_append_of_le_length (by omega), List.drop_of_length_le (by omega), List.nil_append]
  rw [List.drop_set_of_lt (by omega), take_at (d := hexB a b) (by simp [hi]), List.take_set_of_le (Nat.le_refl _), List.append_assoc]
  rw [un_hit h0 h1 h2 h] at ht
  exact ht
end Go.Proofs.YtdklelnllhpbfaaDoor
