/- The walk of 'laws.FnParseNone': it returns true for every list of bytes. No condition. -/
import Derived.Test.YthmmcnpgkbfelaaDoorParseU
import Derived.Test.YthmmcnpgkbfelaaDoorParseI
import Derived.Test.YthmmcnpgkbfelaaDoorDigit
namespace Go.Proofs.YthmmcnpgkbfelaaDoor
open Go.RowKit
set_option linter.unusedVariables false

theorem none_facts {l : List UInt8} {x : UInt8} (h : endsB l = true) (hx : l[0]? = some x) : isDig x = false ∧ ((x.toNat : Int) == 43) = false ∧ ((x.toNat : Int) == 45) = false ∧ ((x.toNat : Int) == 46) = false := by
  rw [endsB_cons hx] at h
  cases hd : isDig x with
  | true => rw [goes_dig hd] at h; cases h
  | false =>
    rw [goes_val hd] at h
    simp only [Bool.and_eq_true, bne_iff_ne] at h
    refine ⟨rfl, ?_, ?_, ?_⟩ <;> rw [beq_eq_false_iff_ne]
    · exact h.1.2
    · exact h.2
    · exact h.1.1.1.1
theorem dig_out {c : UInt8} (h : isDig c = false) : (c.toNat : Int) < 48 ∨ 57 < (c.toNat : Int) := by
  simp only [isDig, Bool.and_eq_false_iff, decide_eq_false_iff_not, UInt8.le_iff_toNat_le] at h
  simp at h
  omega
set_option maxHeartbeats 1000000 in
theorem pInt_none (A : Option Addr) (l : List UInt8) (c : Nat) (w : World) (h : BS w A l) (h1 : l.length ≤ 2147483647) (he : endsB l = true) :
    Calls Tryd.prog 9 #[.slice A l.length c] w fun e w' => e = .returned (.tuple #[.int .i64 0, .int .i64 0]) ∧ w = w' := by
  rcases Nat.eq_zero_or_pos l.length with h0 | h0
  · obtain rfl : l = [] := List.eq_nil_of_length_eq_zero h0
    clear he
    go_enter Tryd.func9, Tryd.ntmps9
    go_wp2
    go_loop [4, 7] (fun i n => i = .int .i64 0 ∧ n = .int .u64 0) (fun _ _ => 0)
    case atStart => exact ⟨rfl, rfl⟩
    case round =>
      obtain ⟨rfl, rfl⟩ := hrel
      go_wp2
      go_ret2
      exact ⟨rfl, rfl⟩
  · obtain ⟨x, hx⟩ : ∃ d, l[0]? = some d := ⟨_, List.getElem?_eq_getElem h0⟩
    obtain ⟨b, o, rfl, cell⟩ := h.at_ hx
    rw [Nat.add_zero] at cell
    obtain ⟨hd, e43, e45, e46⟩ := none_facts he hx
    have hdo := dig_out hd
    have hx256 := x.toNat_lt
    clear he hx hd
    rcases hdo with hdo | hdo
    all_goals
      go_enter Tryd.func9, Tryd.ntmps9
      go_wp2
      go_loop [4, 7] (fun i n => i = .int .i64 0 ∧ n = .int .u64 0) (fun _ _ => 0)
      case atStart => exact ⟨rfl, rfl⟩
      case round =>
        obtain ⟨rfl, rfl⟩ := hrel
        go_wp2
        go_ret2
        exact ⟨rfl, rfl⟩
set_option maxRecDepth 100000 in
set_option maxHeartbeats 2000000 in
theorem pFloat_none (A : Option Addr) (l : List UInt8) (c : Nat) (w : World) (h : BS w A l) (h1 : l.length ≤ 2147483647) (he : endsB l = true) :
    Calls Tryd.prog 11 #[.slice A l.length c] w fun e w' => e = .returned (.tuple #[.float .f64 0, .int .i64 0]) ∧ w = w' := by
  rcases Nat.eq_zero_or_pos l.length with h0 | h0
  · obtain rfl : l = [] := List.eq_nil_of_length_eq_zero h0
    clear he
    go_enter Tryd.func11, Tryd.ntmps11
    go_wp2
    go_loop [4, 7, 8, 9] (fun i d t n => i = .int .i64 0 ∧ d = .int .i64 (-1) ∧ t = .int .i64 (-1) ∧ n = .int .u64 0) (fun _ _ _ _ => 0)
    case atStart => exact ⟨rfl, rfl, rfl, rfl⟩
    case round =>
      obtain ⟨rfl, rfl, rfl, rfl⟩ := hrel
      go_wp2
      go_ret2
      exact ⟨rfl, rfl⟩
  · obtain ⟨x, hx⟩ : ∃ d, l[0]? = some d := ⟨_, List.getElem?_eq_getElem h0⟩
    obtain ⟨b, o, rfl, cell⟩ := h.at_ hx
    rw [Nat.add_zero] at cell
    obtain ⟨hd, e43, e45, e46⟩ := none_facts he hx
    have hdo := dig_out hd
    have hx256 := x.toNat_lt
    clear he hx hd
    rcases hdo with hdo | hdo
    all_goals
      go_enter Tryd.func11, Tryd.ntmps11
      go_wp2
      go_loop [4, 7, 8, 9] (fun i d t n => i = .int .i64 0 ∧ d = .int .i64 (-1) ∧ t = .int .i64 (-1) ∧ n = .int .u64 0) (fun _ _ _ _ => 0)
      case atStart => exact ⟨rfl, rfl, rfl, rfl⟩
      case round =>
        obtain ⟨rfl, rfl, rfl, rfl⟩ := hrel
        go_wp2
        go_ret2
        exact ⟨rfl, rfl⟩
theorem iInt_of {v : Value} {w : World} {j k : IntKind} {a b : Int} (h : Calls Tryd.prog 9 #[v] w fun e w' => e = .returned (.tuple #[.int j a, .int k b]) ∧ w = w') :
    Calls Tryd.prog 5 #[v] w fun e w' => e = .returned (.tuple #[.int j a, .int k b]) ∧ w = w' := by
  go_enter Tryd.func5, Tryd.ntmps5
  go_wp2_with (go_at_call 9; refine h.mono ?_; rintro e w1 ⟨rfl, rfl⟩)
  go_ret2
  exact ⟨rfl, rfl⟩
theorem iUint_of {v : Value} {w : World} {j k : IntKind} {a b : Int} (h : Calls Tryd.prog 10 #[v] w fun e w' => e = .returned (.tuple #[.int j a, .int k b]) ∧ w = w') :
    Calls Tryd.prog 6 #[v] w fun e w' => e = .returned (.tuple #[.int j a, .int k b]) ∧ w = w' := by
  go_enter Tryd.func6, Tryd.ntmps6
  go_wp2_with (go_at_call 10; refine h.mono ?_; rintro e w1 ⟨rfl, rfl⟩)
  go_ret2
  exact ⟨rfl, rfl⟩
theorem iFloat_of {v : Value} {w : World} {a : Nat} {b : Int} (h : Calls Tryd.prog 11 #[v] w fun e w' => e = .returned (.tuple #[.float .f64 a, .int .i64 b]) ∧ w = w') :
    Calls Tryd.prog 7 #[v] w fun e w' => e = .returned (.tuple #[.float .f64 a, .int .i64 b]) ∧ w = w' := by
  go_enter Tryd.func7, Tryd.ntmps7
  go_wp2_with (go_at_call 11; refine h.mono ?_; rintro e w1 ⟨rfl, rfl⟩)
  go_ret2
  exact ⟨rfl, rfl⟩
theorem ends_n (A : Option Addr) (l : List UInt8) (c : Nat) (b : Bool) (w : World) (hb : endsB l = b) (h : BS w A l) :
    Calls Tryd.prog 4 #[.slice A l.length c] w fun e w' => e = .returned (.bool b) ∧ w = w' := by
  subst hb
  exact ends_any A l c w h
theorem ends_dig {l : List UInt8} (h : endsB l = true) : at_ isDig l 0 = false := by
  cases hx : l[0]? with
  | none => unfold at_; rw [hx]
  | some x =>
    rw [at_some hx]
    exact (none_facts h hx).1

set_option maxHeartbeats 1000000 in
theorem fnParseNone_walk (a : Option Addr) (l : List UInt8) (c : Nat) (W : World) (bs : BS W a l) :
    Calls Tryd.prog 3 #[.slice a l.length c] W fun e w' => e = .returned (.bool true) ∧ Below W.heap.size W w' := by
  by_cases hA : 2147483647 < l.length
  · go_enter Tryd.func3, Tryd.ntmps3
    go_wp2
    go_ret
    exact ⟨rfl, Below.refl _ _⟩
  by_cases hB : 5000 < l.length
  · go_enter Tryd.func3, Tryd.ntmps3
    go_wp2
    go_ret
    exact ⟨rfl, Below.refl _ _⟩
  cases hE : endsB l with
  | false =>
    have HE := hide hE
    clear hE
    go_enter Tryd.func3, Tryd.ntmps3
    go_wp2_with (go_at_call 4; refine (ends_n _ _ _ false _ HE.out bs).mono ?_; rintro e w1 ⟨rfl, rfl⟩)
    go_ret
    exact ⟨rfl, Below.refl _ _⟩
  | true =>
    have HE := hide hE
    clear hE
    have kc := fun n c C => run_bytes_lit (P := Tryd.prog) 22 5 Tryd.underlying22 Tryd.underlying5 W W.heap.size n c C rfl
    go_enter Tryd.func3, Tryd.ntmps3
    go_wp2_with (go_at_call 4; refine (ends_n _ _ _ true _ HE.out bs).mono ?_; rintro e w1 ⟨rfl, rfl⟩)
    refine (iInt_of (pInt_none _ _ _ _ bs (by omega) HE.out)).mono ?_
    rintro e w1 ⟨rfl, rfl⟩
    go_wp2_with fail
    refine (iUint_of (parseUint_any _ _ [] _ _ bs (by omega) (Digits.of [] l (fun _ h => by cases h) (ends_dig HE.out)) (by decide))).mono ?_
    rintro e w1 ⟨rfl, rfl⟩
    go_wp2_with fail
    refine (iFloat_of (pFloat_none _ _ _ _ bs (by omega) HE.out)).mono ?_
    rintro e w1 ⟨rfl, rfl⟩
    go_wp2_with fail
    have hlit := BS.lit (w := W) rfl [55] _ 5 (1, 2) rfl
    refine (iInt_of (parseInt_none _ [55] [55] _ _ hlit (by decide) (by decide) ?_ (by decide) (by decide))).mono ?_
    · exact DigitsAt.of [] [55] [] 0 rfl (by decide) rfl
    rintro e w2 ⟨rfl, rfl⟩
    go_wp2
    go_ret
    exact ⟨rfl, (Below.refl _ _).alloc (Nat.le_refl _) _⟩
end Go.Proofs.YthmmcnpgkbfelaaDoor
