/- How many bytes a number has in decimal: what the package's two functions return. Condition: the number is one of 64 bits. -/
import Derived.Test.YtggemljdmoegnaaDoorDec
namespace Go.Proofs.YtggemljdmoegnaaDoor
open Go.RowKit
set_option linter.unusedVariables false

theorem cond_no {P : Program} {Q : Exit → Act → World → Prop} {a : Act} {w : World} {c : Operand} {x y : Code} {p : Prop} [Decidable p] (hc : a.eval c = .bool (decide p)) (hp : ¬ p) (h : y.wp P Q a w) : (Code.cond c x y).wp P Q a w :=
  wp_cond_false (by rw [hc, decide_eq_false hp]) h
theorem cond_yes {P : Program} {Q : Exit → Act → World → Prop} {a : Act} {w : World} {c : Operand} {x y : Code} {p : Prop} [Decidable p] (hc : a.eval c = .bool (decide p)) (hp : p) (h : x.wp P Q a w) : (Code.cond c x y).wp P Q a w :=
  wp_cond_true (by rw [hc, decide_eq_true hp]) h
/-- What is returned: the number of digits. -/
def LenRet (n : Nat) (w : World) (e : Ending) (w' : World) : Prop := e = .returned (.int .i64 ((dec n).length : Int)) ∧ w = w'

theorem lenUint0 (n : Nat) (w : World) (hn : n < 10) : Calls Tryd.prog 17 #[.int .u64 (n : Int)] w (LenRet n w) := by
  go_enter Tryd.func17, Tryd.ntmps17
  repeat (first | (refine cond_no rfl (by omega) ?_) | (refine cond_yes rfl (by omega) ?_) | go_step)
  go_ret
  exact ⟨ret_int (by rw [dec_lt (by omega)]; rfl), rfl⟩
theorem lenUint1 (n : Nat) (w : World) (h0 : 10 ≤ n) (hn : n < 100) : Calls Tryd.prog 17 #[.int .u64 (n : Int)] w (LenRet n w) := by
  go_enter Tryd.func17, Tryd.ntmps17
  repeat (first | (refine cond_no rfl (by omega) ?_) | (refine cond_yes rfl (by omega) ?_) | go_step)
  go_ret
  exact ⟨ret_int (by rw [dec_len 1 n (by omega) (by omega)]; rfl), rfl⟩
theorem lenUint2 (n : Nat) (w : World) (h0 : 100 ≤ n) (hn : n < 1000) : Calls Tryd.prog 17 #[.int .u64 (n : Int)] w (LenRet n w) := by
  go_enter Tryd.func17, Tryd.ntmps17
  repeat (first | (refine cond_no rfl (by omega) ?_) | (refine cond_yes rfl (by omega) ?_) | go_step)
  go_ret
  exact ⟨ret_int (by rw [dec_len 2 n (by omega) (by omega)]; rfl), rfl⟩
theorem lenUint3 (n : Nat) (w : World) (h0 : 1000 ≤ n) (hn : n < 10000) : Calls Tryd.prog 17 #[.int .u64 (n : Int)] w (LenRet n w) := by
  go_enter Tryd.func17, Tryd.ntmps17
  repeat (first | (refine cond_no rfl (by omega) ?_) | (refine cond_yes rfl (by omega) ?_) | go_step)
  go_ret
  exact ⟨ret_int (by rw [dec_len 3 n (by omega) (by omega)]; rfl), rfl⟩
theorem lenUint4 (n : Nat) (w : World) (h0 : 10000 ≤ n) (hn : n < 100000) : Calls Tryd.prog 17 #[.int .u64 (n : Int)] w (LenRet n w) := by
  go_enter Tryd.func17, Tryd.ntmps17
  repeat (first | (refine cond_no rfl (by omega) ?_) | (refine cond_yes rfl (by omega) ?_) | go_step)
  go_ret
  exact ⟨ret_int (by rw [dec_len 4 n (by omega) (by omega)]; rfl), rfl⟩
theorem lenUint5 (n : Nat) (w : World) (h0 : 100000 ≤ n) (hn : n < 1000000) : Calls Tryd.prog 17 #[.int .u64 (n : Int)] w (LenRet n w) := by
  go_enter Tryd.func17, Tryd.ntmps17
  repeat (first | (refine cond_no rfl (by omega) ?_) | (refine cond_yes rfl (by omega) ?_) | go_step)
  go_ret
  exact ⟨ret_int (by rw [dec_len 5 n (by omega) (by omega)]; rfl), rfl⟩
theorem lenUint6 (n : Nat) (w : World) (h0 : 1000000 ≤ n) (hn : n < 10000000) : Calls Tryd.prog 17 #[.int .u64 (n : Int)] w (LenRet n w) := by
  go_enter Tryd.func17, Tryd.ntmps17
  repeat (first | (refine cond_no rfl (by omega) ?_) | (refine cond_yes rfl (by omega) ?_) | go_step)
  go_ret
  exact ⟨ret_int (by rw [dec_len 6 n (by omega) (by omega)]; rfl), rfl⟩
theorem lenUint7 (n : Nat) (w : World) (h0 : 10000000 ≤ n) (hn : n < 100000000) : Calls Tryd.prog 17 #[.int .u64 (n : Int)] w (LenRet n w) := by
  go_enter Tryd.func17, Tryd.ntmps17
  repeat (first | (refine cond_no rfl (by omega) ?_) | (refine cond_yes rfl (by omega) ?_) | go_step)
  go_ret
  exact ⟨ret_int (by rw [dec_len 7 n (by omega) (by omega)]; rfl), rfl⟩
theorem lenUint8 (n : Nat) (w : World) (h0 : 100000000 ≤ n) (hn : n < 1000000000) : Calls Tryd.prog 17 #[.int .u64 (n : Int)] w (LenRet n w) := by
  go_enter Tryd.func17, Tryd.ntmps17
  repeat (first | (refine cond_no rfl (by omega) ?_) | (refine cond_yes rfl (by omega) ?_) | go_step)
  go_ret
  exact ⟨ret_int (by rw [dec_len 8 n (by omega) (by omega)]; rfl), rfl⟩
theorem lenUint9 (n : Nat) (w : World) (h0 : 1000000000 ≤ n) (hn : n < 10000000000) : Calls Tryd.prog 17 #[.int .u64 (n : Int)] w (LenRet n w) := by
  go_enter Tryd.func17, Tryd.ntmps17
  repeat (first | (refine cond_no rfl (by omega) ?_) | (refine cond_yes rfl (by omega) ?_) | go_step)
  go_ret
  exact ⟨ret_int (by rw [dec_len 9 n (by omega) (by omega)]; rfl), rfl⟩
theorem lenUint10 (n : Nat) (w : World) (h0 : 10000000000 ≤ n) (hn : n < 100000000000) : Calls Tryd.prog 17 #[.int .u64 (n : Int)] w (LenRet n w) := by
  go_enter Tryd.func17, Tryd.ntmps17
  repeat (first | (refine cond_no rfl (by omega) ?_) | (refine cond_yes rfl (by omega) ?_) | go_step)
  go_ret
  exact ⟨ret_int (by rw [dec_len 10 n (by omega) (by omega)]; rfl), rfl⟩
theorem lenUint11 (n : Nat) (w : World) (h0 : 100000000000 ≤ n) (hn : n < 1000000000000) : Calls Tryd.prog 17 #[.int .u64 (n : Int)] w (LenRet n w) := by
  go_enter Tryd.func17, Tryd.ntmps17
  repeat (first | (refine cond_no rfl (by omega) ?_) | (refine cond_yes rfl (by omega) ?_) | go_step)
  go_ret
  exact ⟨ret_int (by rw [dec_len 11 n (by omega) (by omega)]; rfl), rfl⟩
theorem lenUint12 (n : Nat) (w : World) (h0 : 1000000000000 ≤ n) (hn : n < 10000000000000) : Calls Tryd.prog 17 #[.int .u64 (n : Int)] w (LenRet n w) := by
  go_enter Tryd.func17, Tryd.ntmps17
  repeat (first | (refine cond_no rfl (by omega) ?_) | (refine cond_yes rfl (by omega) ?_) | go_step)
  go_ret
  exact ⟨ret_int (by rw [dec_len 12 n (by omega) (by omega)]; rfl), rfl⟩
theorem lenUint13 (n : Nat) (w : World) (h0 : 10000000000000 ≤ n) (hn : n < 100000000000000) : Calls Tryd.prog 17 #[.int .u64 (n : Int)] w (LenRet n w) := by
  go_enter Tryd.func17, Tryd.ntmps17
  repeat (first | (refine cond_no rfl (by omega) ?_) | (refine cond_yes rfl (by omega) ?_) | go_step)
  go_ret
  exact ⟨ret_int (by rw [dec_len 13 n (by omega) (by omega)]; rfl), rfl⟩
theorem lenUint14 (n : Nat) (w : World) (h0 : 100000000000000 ≤ n) (hn : n < 1000000000000000) : Calls Tryd.prog 17 #[.int .u64 (n : Int)] w (LenRet n w) := by
  go_enter Tryd.func17, Tryd.ntmps17
  repeat (first | (refine cond_no rfl (by omega) ?_) | (refine cond_yes rfl (by omega) ?_) | go_step)
  go_ret
  exact ⟨ret_int (by rw [dec_len 14 n (by omega) (by omega)]; rfl), rfl⟩
theorem lenUint15 (n : Nat) (w : World) (h0 : 1000000000000000 ≤ n) (hn : n < 10000000000000000) : Calls Tryd.prog 17 #[.int .u64 (n : Int)] w (LenRet n w) := by
  go_enter Tryd.func17, Tryd.ntmps17
  repeat (first | (refine cond_no rfl (by omega) ?_) | (refine cond_yes rfl (by omega) ?_) | go_step)
  go_ret
  exact ⟨ret_int (by rw [dec_len 15 n (by omega) (by omega)]; rfl), rfl⟩
theorem lenUint16 (n : Nat) (w : World) (h0 : 10000000000000000 ≤ n) (hn : n < 100000000000000000) : Calls Tryd.prog 17 #[.int .u64 (n : Int)] w (LenRet n w) := by
  go_enter Tryd.func17, Tryd.ntmps17
  repeat (first | (refine cond_no rfl (by omega) ?_) | (refine cond_yes rfl (by omega) ?_) | go_step)
  go_ret
  exact ⟨ret_int (by rw [dec_len 16 n (by omega) (by omega)]; rfl), rfl⟩
theorem lenUint17 (n : Nat) (w : World) (h0 : 100000000000000000 ≤ n) (hn : n < 1000000000000000000) : Calls Tryd.prog 17 #[.int .u64 (n : Int)] w (LenRet n w) := by
  go_enter Tryd.func17, Tryd.ntmps17
  repeat (first | (refine cond_no rfl (by omega) ?_) | (refine cond_yes rfl (by omega) ?_) | go_step)
  go_ret
  exact ⟨ret_int (by rw [dec_len 17 n (by omega) (by omega)]; rfl), rfl⟩
theorem lenUint18 (n : Nat) (w : World) (h0 : 1000000000000000000 ≤ n) (hn : n < 10000000000000000000) : Calls Tryd.prog 17 #[.int .u64 (n : Int)] w (LenRet n w) := by
  go_enter Tryd.func17, Tryd.ntmps17
  repeat (first | (refine cond_no rfl (by omega) ?_) | (refine cond_yes rfl (by omega) ?_) | go_step)
  go_ret
  exact ⟨ret_int (by rw [dec_len 18 n (by omega) (by omega)]; rfl), rfl⟩
theorem lenUint19 (n : Nat) (w : World) (h0 : 10000000000000000000 ≤ n) (hn : n ≤ 18446744073709551615) : Calls Tryd.prog 17 #[.int .u64 (n : Int)] w (LenRet n w) := by
  go_enter Tryd.func17, Tryd.ntmps17
  repeat (first | (refine cond_no rfl (by omega) ?_) | (refine cond_yes rfl (by omega) ?_) | go_step)
  go_ret
  exact ⟨ret_int (by rw [dec_len 19 n (by omega) (by omega)]; rfl), rfl⟩

theorem lenUint_any (n : Nat) (w : World) (hn : n ≤ 18446744073709551615) :
    Calls Tryd.prog 17 #[.int .u64 (n : Int)] w (LenRet n w) := by
  by_cases h0 : n < 10
  · exact lenUint0 n w (by omega)
  by_cases h1 : n < 100
  · exact lenUint1 n w (by omega) (by omega)
  by_cases h2 : n < 1000
  · exact lenUint2 n w (by omega) (by omega)
  by_cases h3 : n < 10000
  · exact lenUint3 n w (by omega) (by omega)
  by_cases h4 : n < 100000
  · exact lenUint4 n w (by omega) (by omega)
  by_cases h5 : n < 1000000
  · exact lenUint5 n w (by omega) (by omega)
  by_cases h6 : n < 10000000
  · exact lenUint6 n w (by omega) (by omega)
  by_cases h7 : n < 100000000
  · exact lenUint7 n w (by omega) (by omega)
  by_cases h8 : n < 1000000000
  · exact lenUint8 n w (by omega) (by omega)
  by_cases h9 : n < 10000000000
  · exact lenUint9 n w (by omega) (by omega)
  by_cases h10 : n < 100000000000
  · exact lenUint10 n w (by omega) (by omega)
  by_cases h11 : n < 1000000000000
  · exact lenUint11 n w (by omega) (by omega)
  by_cases h12 : n < 10000000000000
  · exact lenUint12 n w (by omega) (by omega)
  by_cases h13 : n < 100000000000000
  · exact lenUint13 n w (by omega) (by omega)
  by_cases h14 : n < 1000000000000000
  · exact lenUint14 n w (by omega) (by omega)
  by_cases h15 : n < 10000000000000000
  · exact lenUint15 n w (by omega) (by omega)
  by_cases h16 : n < 100000000000000000
  · exact lenUint16 n w (by omega) (by omega)
  by_cases h17 : n < 1000000000000000000
  · exact lenUint17 n w (by omega) (by omega)
  by_cases h18 : n < 10000000000000000000
  · exact lenUint18 n w (by omega) (by omega)
  · exact lenUint19 n w (by omega) (by omega)

end Go.Proofs.YtggemljdmoegnaaDoor
