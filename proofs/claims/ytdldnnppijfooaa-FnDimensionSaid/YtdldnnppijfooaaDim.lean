/- A number and its unit: what the package's function returns where a unit follows a number. Conditions: the text is shorter than 2^31. -/
import Derived.Test.YtdldnnppijfooaaNumI
import Derived.Test.YtdldnnppijfooaaLet
namespace Go.Proofs.Ytdldnnppijfooaa
open Go.RowKit
set_option linter.unusedVariables false

theorem numI_n (A : Option Addr) (l : List UInt8) (c n : Nat) (w : World) (hn : numLen l = n) (h : BS w A l) (h1 : l.length ≤ 2147483647) :
    Calls Try.prog 22 #[.slice A l.length c] w fun e w' => e = .returned (.int .i64 (n : Int)) ∧ w = w' := by
  subst hn
  exact numI_any A l c w h h1
theorem ret_pair {k k' : IntKind} {a b a' b' : Int} (h : a = b) (h' : a' = b') : Ending.returned (.tuple #[.int k a, .int k' a']) = .returned (.tuple #[.int k b, .int k' b']) := by rw [h, h']

theorem dim_pc (A : Option Addr) (l : List UInt8) (c n : Nat) (w : World) (hn : numLen l = n) (h0 : 0 < n) (hpc : l[n]? = some 37) (h : BS w A l) (h1 : l.length ≤ 2147483647) :
    Calls Try.prog 27 #[.slice A l.length c] w fun e w' => e = .returned (.tuple #[.int .i64 (n : Int), .int .i64 1]) ∧ w = w' := by
  obtain ⟨hlt, _⟩ := List.getElem?_eq_some_iff.1 hpc
  obtain ⟨b, o, rfl, cell⟩ := h.at_ hpc
  have Hn := hide hn
  have b1 : ((n : Int) == 0) = false := by rw [beq_eq_false_iff_ne]; omega
  have b2 : ((n : Int) == (l.length : Int)) = false := by rw [beq_eq_false_iff_ne]; omega
  clear hpc hn
  go_enter Try.func27, Try.ntmps27
  go_wp2_with (go_at_call 22; refine (numI_n _ _ _ n _ Hn.out h h1).mono ?_; rintro e w1 ⟨rfl, rfl⟩)
  go_ret2
  exact ⟨rfl, rfl⟩

set_option maxHeartbeats 1000000 in
theorem dim_let (A : Option Addr) (l : List UInt8) (c n : Nat) (w : World) (hn : numLen l = n) (h0 : 0 < n) (hlet : at_ isLet l n = true) (h : BS w A l) (h1 : l.length ≤ 2147483647) :
    Calls Try.prog 27 #[.slice A l.length c] w fun e w' => e = .returned (.tuple #[.int .i64 (n : Int), .int .i64 (run isLet l n : Int)]) ∧ w = w' := by
  have hlt := at_lt hlet
  obtain ⟨d, hd⟩ : ∃ x, l[n]? = some x := ⟨_, List.getElem?_eq_getElem hlt⟩
  obtain ⟨b, o, rfl, cell⟩ := h.at_ hd
  have Hn := hide hn
  have hrun := hide (run_yes hlet)
  rw [at_some hd] at hlet
  have b1 : ((n : Int) == 0) = false := by rw [beq_eq_false_iff_ne]; omega
  have b2 : ((n : Int) == (l.length : Int)) = false := by rw [beq_eq_false_iff_ne]; omega
  have b3 : ((d.toNat : Int) == 37) = false := by rw [beq_eq_false_iff_ne]; have := let_iff.1 hlet; omega
  have hl := let_iff.1 hlet
  clear hlet hn hd
  go_enter Try.func27, Try.ntmps27
  by_cases hs : 97 ≤ d.toNat
  · have hs2 : d.toNat ≤ 122 := by omega
    clear hl
    go_wp2_with (go_at_call 22; refine (numI_n _ _ _ n _ Hn.out h h1).mono ?_; rintro e w1 ⟨rfl, rfl⟩)
    go_loop [5] (fun i => ∃ k : Nat, n + 1 + k ≤ l.length ∧ i = .int .i64 ((n + 1 + k : Nat) : Int) ∧ Hid (run isLet l (n + 1) = k + run isLet l (n + 1 + k))) (fun i => l.length - (intOf i).toNat)
    case atStart => exact ⟨0, by omega, by go_num, hide (by simp)⟩
    case round =>
      obtain ⟨k, hk, rfl, hto⟩ := hrel
      by_cases hlt2 : n + 1 + k < l.length
      · obtain ⟨d', hd'⟩ : ∃ x, l[n + 1 + k]? = some x := ⟨_, List.getElem?_eq_getElem hlt2⟩
        obtain ⟨b1, o1, hA1, cell1⟩ := h.at_ hd'
        cases hA1
        by_cases e1 : 97 ≤ d'.toNat
        · by_cases e2 : d'.toNat ≤ 122
          · have Hr := hide (show run isLet l (n + 1) = (k + 1) + run isLet l (n + 1 + (k + 1)) by rw [hto.out, run_yes (by rw [at_some hd']; exact let_iff.2 (by omega)), show n + 1 + k + 1 = n + 1 + (k + 1) by omega]; omega)
            clear hd' hto
            go_wp2
            go_round
            case rel => exact ⟨k + 1, by omega, by go_num, Hr⟩
            case measure => simp [intOf]; omega
          · have e3 : 65 ≤ d'.toNat := by omega
            have e4 : ¬ d'.toNat ≤ 90 := by omega
            have Hr := hide (show run isLet l (n + 1) = k by rw [hto.out, run_no (by rw [at_some hd']; exact isLet_no (by omega))]; omega)
            clear hd' hto
            go_wp2
            go_ret2
            exact ⟨ret_pair rfl (by have h1 := hrun.out; have h2 := Hr.out; omega), rfl⟩
        · by_cases e3 : 65 ≤ d'.toNat
          · by_cases e4 : d'.toNat ≤ 90
            · have Hr := hide (show run isLet l (n + 1) = (k + 1) + run isLet l (n + 1 + (k + 1)) by rw [hto.out, run_yes (by rw [at_some hd']; exact let_iff.2 (by omega)), show n + 1 + k + 1 = n + 1 + (k + 1) by omega]; omega)
              clear hd' hto
              go_wp2
              go_round
              case rel => exact ⟨k + 1, by omega, by go_num, Hr⟩
              case measure => simp [intOf]; omega
            · have Hr := hide (show run isLet l (n + 1) = k by rw [hto.out, run_no (by rw [at_some hd']; exact isLet_no (by omega))]; omega)
              clear hd' hto
              go_wp2
              go_ret2
              exact ⟨ret_pair rfl (by have h1 := hrun.out; have h2 := Hr.out; omega), rfl⟩
          · have Hr := hide (show run isLet l (n + 1) = k by rw [hto.out, run_no (by rw [at_some hd']; exact isLet_no (by omega))]; omega)
            clear hd' hto
            go_wp2
            go_ret2
            exact ⟨ret_pair rfl (by have h1 := hrun.out; have h2 := Hr.out; omega), rfl⟩
      · have Hr := hide (show run isLet l (n + 1) = k by rw [hto.out, run_no (at_none (by omega))]; omega)
        clear hto
        go_wp2
        go_ret2
        exact ⟨ret_pair rfl (by have h1 := hrun.out; have h2 := Hr.out; omega), rfl⟩
  · have hs2 : 65 ≤ d.toNat := by omega
    have hs3 : d.toNat ≤ 90 := by omega
    clear hl
    go_wp2_with (go_at_call 22; refine (numI_n _ _ _ n _ Hn.out h h1).mono ?_; rintro e w1 ⟨rfl, rfl⟩)
    go_loop [5] (fun i => ∃ k : Nat, n + 1 + k ≤ l.length ∧ i = .int .i64 ((n + 1 + k : Nat) : Int) ∧ Hid (run isLet l (n + 1) = k + run isLet l (n + 1 + k))) (fun i => l.length - (intOf i).toNat)
    case atStart => exact ⟨0, by omega, by go_num, hide (by simp)⟩
    case round =>
      obtain ⟨k, hk, rfl, hto⟩ := hrel
      by_cases hlt2 : n + 1 + k < l.length
      · obtain ⟨d', hd'⟩ : ∃ x, l[n + 1 + k]? = some x := ⟨_, List.getElem?_eq_getElem hlt2⟩
        obtain ⟨b1, o1, hA1, cell1⟩ := h.at_ hd'
        cases hA1
        by_cases e1 : 97 ≤ d'.toNat
        · by_cases e2 : d'.toNat ≤ 122
          · have Hr := hide (show run isLet l (n + 1) = (k + 1) + run isLet l (n + 1 + (k + 1)) by rw [hto.out, run_yes (by rw [at_some hd']; exact let_iff.2 (by omega)), show n + 1 + k + 1 = n + 1 + (k + 1) by omega]; omega)
            clear hd' hto
            go_wp2
            go_round
            case rel => exact ⟨k + 1, by omega, by go_num, Hr⟩
            case measure => simp [intOf]; omega
          · have e3 : 65 ≤ d'.toNat := by omega
            have e4 : ¬ d'.toNat ≤ 90 := by omega
            have Hr := hide (show run isLet l (n + 1) = k by rw [hto.out, run_no (by rw [at_some hd']; exact isLet_no (by omega))]; omega)
            clear hd' hto
            go_wp2
            go_ret2
            exact ⟨ret_pair rfl (by have h1 := hrun.out; have h2 := Hr.out; omega), rfl⟩
        · by_cases e3 : 65 ≤ d'.toNat
          · by_cases e4 : d'.toNat ≤ 90
            · have Hr := hide (show run isLet l (n + 1) = (k + 1) + run isLet l (n + 1 + (k + 1)) by rw [hto.out, run_yes (by rw [at_some hd']; exact let_iff.2 (by omega)), show n + 1 + k + 1 = n + 1 + (k + 1) by omega]; omega)
              clear hd' hto
              go_wp2
              go_round
              case rel => exact ⟨k + 1, by omega, by go_num, Hr⟩
              case measure => simp [intOf]; omega
            · have Hr := hide (show run isLet l (n + 1) = k by rw [hto.out, run_no (by rw [at_some hd']; exact isLet_no (by omega))]; omega)
              clear hd' hto
              go_wp2
              go_ret2
              exact ⟨ret_pair rfl (by have h1 := hrun.out; have h2 := Hr.out; omega), rfl⟩
          · have Hr := hide (show run isLet l (n + 1) = k by rw [hto.out, run_no (by rw [at_some hd']; exact isLet_no (by omega))]; omega)
            clear hd' hto
            go_wp2
            go_ret2
            exact ⟨ret_pair rfl (by have h1 := hrun.out; have h2 := Hr.out; omega), rfl⟩
      · have Hr := hide (show run isLet l (n + 1) = k by rw [hto.out, run_no (at_none (by omega))]; omega)
        clear hto
        go_wp2
        go_ret2
        exact ⟨ret_pair rfl (by have h1 := hrun.out; have h2 := Hr.out; omega), rfl⟩

theorem iDim_pc (A : Option Addr) (l : List UInt8) (c n m : Nat) (w : World) (hm : l.length = m) (hn : numLen l = n) (h0 : 0 < n) (hpc : l[n]? = some 37) (h : BS w A l) (h1 : m ≤ 2147483647) :
    Calls Try.prog 17 #[.slice A m c] w fun e w' => e = .returned (.tuple #[.int .i64 (n : Int), .int .i64 1]) ∧ w = w' := by
  subst hm
  go_enter Try.func17, Try.ntmps17
  go_wp2_with (go_at_call 27; refine (dim_pc _ _ _ n _ hn h0 hpc h h1).mono ?_; rintro e w1 ⟨rfl, rfl⟩)
  go_ret2
  exact ⟨rfl, rfl⟩
theorem iDim_let (A : Option Addr) (l : List UInt8) (c n m k : Nat) (w : World) (hm : l.length = m) (hk : run isLet l n = k) (hn : numLen l = n) (h0 : 0 < n) (hlet : at_ isLet l n = true) (h : BS w A l) (h1 : m ≤ 2147483647) :
    Calls Try.prog 17 #[.slice A m c] w fun e w' => e = .returned (.tuple #[.int .i64 (n : Int), .int .i64 (k : Int)]) ∧ w = w' := by
  subst hm hk
  go_enter Try.func17, Try.ntmps17
  go_wp2_with (go_at_call 27; refine (dim_let _ _ _ n _ hn h0 hlet h h1).mono ?_; rintro e w1 ⟨rfl, rfl⟩)
  go_ret2
  exact ⟨rfl, rfl⟩
end Go.Proofs.Ytdldnnppijfooaa
