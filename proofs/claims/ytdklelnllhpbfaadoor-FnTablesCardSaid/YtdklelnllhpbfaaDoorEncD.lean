/- What is written by numbers is read back. Plain lists, no program. -/
import Derived.Test.YtdklelnllhpbfaaDoorEnc
namespace Go.Proofs.YtdklelnllhpbfaaDoor
set_option linter.unusedVariables false

theorem hexV_hexD {n : Nat} (h : n < 16) : hexV (hexD n) = n := by
  have : (List.range 16).all (fun n => hexV (hexD n) == n) = true := by decide +kernel
  simpa using List.all_eq_true.1 this n (List.mem_range.2 h)
theorem hexB_enc (d : UInt8) : UInt8.ofNat (16 * hexV (encH d) + hexV (encL d)) = d := by
  have h := d.toNat_lt
  unfold encH encL
  rw [hexV_hexD (by omega), hexV_hexD (by omega), show 16 * (d.toNat / 16) + d.toNat % 16 = d.toNat by omega]
  exact UInt8.ofNat_toNat
theorem unesc_enc {f : UInt8 → Bool} (h37 : f 37 = true) (l : List UInt8) : unesc (enc f l) = l := by
  induction l with
  | nil => rw [enc, unesc_nil]
  | cons c r ih =>
    rw [enc]
    cases hf : f c with
    | true =>
      rw [if_pos rfl, unesc_hit (by simp [hit, encH_hex, encL_hex])]
      show UInt8.ofNat (16 * hexV (encH c) + hexV (encL c)) :: unesc (enc f r) = c :: r
      rw [hexB_enc, ih]
    | false =>
      rw [if_neg (by simp)]
      have hc : (c == 37) = false := by
        rw [beq_eq_false_iff_ne]
        rintro rfl
        rw [h37] at hf; cases hf
      have hm : hit (c :: enc f r) = false := by
        match enc f r with
        | [] => rfl
        | [_] => rfl
        | _ :: _ :: _ => simp [hit, hc]
      rw [unesc_miss hm, ih]
theorem hexD_plus {n : Nat} (h : n < 16) : hexD n ≠ 43 := by
  have : (List.range 16).all (fun n => hexD n != 43) = true := by decide +kernel
  simpa using List.all_eq_true.1 this n (List.mem_range.2 h)
theorem enc_plus {f : UInt8 → Bool} {l : List UInt8} (h : f 43 = true ∨ ∀ x ∈ l, x ≠ 43) : ∀ x ∈ enc f l, x ≠ 43 := by
  induction l with
  | nil => intro x hx; simp [enc] at hx
  | cons c r ih =>
    have ih := ih (h.imp id (fun h x hx => h x (List.mem_cons_of_mem _ hx)))
    intro x hx
    rw [enc] at hx
    cases hf : f c with
    | true =>
      rw [hf, if_pos rfl] at hx
      simp only [List.mem_cons] at hx
      have := c.toNat_lt
      rcases hx with rfl | rfl | rfl | hx
      · decide
      · exact hexD_plus (by omega)
      · exact hexD_plus (by omega)
      · exact ih x hx
    | false =>
      rw [hf, if_neg (by simp)] at hx
      simp only [List.mem_cons] at hx
      rcases hx with rfl | hx
      · rcases h with h | h
        · rintro rfl; rw [h] at hf; cases hf
        · exact h _ (List.mem_cons_self ..)
      · exact ih x hx
end Go.Proofs.YtdklelnllhpbfaaDoor
