/- More of the package's input: its selection as a slice, its end, its runes below 128, its making. Conditions: places within the text, lengths below 2^31. -/
import Derived.Test.YthfnahcaoeggbaaDoorInp
import Derived.Test.YthfnahcaoeggbaaDoorCopy
namespace Go.Proofs.YthfnahcaoeggbaaDoor
open Go.RowKit
set_option linter.unusedVariables false

/-- The bytes of the selection. -/
def sel (l : List UInt8) (start pos : Nat) : List UInt8 := (l.drop start).take (pos - start)
theorem sel_len {l : List UInt8} {start pos : Nat} (hp : pos ≤ l.length) : (sel l start pos).length = pos - start := by simp [sel]; omega
theorem sel_bs {w : World} {b o : Nat} {l : List UInt8} {start pos : Nat} (h : BS w (some ⟨b, o, none⟩) (l ++ [0])) (hp : pos ≤ l.length) (hs : start ≤ pos) : BS w (some ⟨b, o + start, none⟩) (sel l start pos) := by
  have h1 := (h.cut rfl start).take (pos - start)
  have e : ((l ++ [0]).drop start).take (pos - start) = sel l start pos := by
    unfold sel
    rw [List.drop_append_of_le_length (by omega), List.take_append_of_le_length (by simp; omega)]
  rw [e] at h1
  exact h1
section
variable (g c pos start : Nat) (A : Option Addr) (l : List UInt8) (w : World)
theorem lexeme_any (h : Inp w g A c l pos start) (hl : l.length ≤ 2147483647) (hp : pos ≤ l.length) (hs : start ≤ pos) :
    Calls Tryd.prog 24 #[.pointer (some ⟨g, 0, none⟩)] w fun e w' => (∃ A' c', e = .returned (.slice A' (pos - start) c') ∧ BS w A' (sel l start pos)) ∧ ∃ n, w' = w.drewN n := by
  obtain ⟨b, o, rfl, _, _⟩ := h.bs.form (by simp)
  have c0 := h.c0
  have c1 := h.c1
  have c2 := h.c2
  have hr := h.room
  have Hbs := hide h.bs
  clear h
  by_cases hps : start = pos
  · subst hps
    have k1 : (start : Int) ≤ (l.length : Int) + 1 := by omega
    have k2 : (start : Int) ≤ (c : Int) := by omega
    go_enter Tryd.func24, Tryd.ntmps24
    go_wp2
    go_quiet (fail)
    go_wp2
    go_ret
    exact ⟨⟨_, _, by rw [Nat.sub_self]; rfl, by rw [show sel l start start = [] by simp [sel]]; exact BS.nil _ _⟩, _, rfl⟩
  · have hlt : start < pos := by omega
    have k1 : (start : Int) ≤ (pos : Int) := by omega
    have k2 : (pos : Int) ≤ (c : Int) := by omega
    have k3 : (pos : Int) ≤ (l.length : Int) + 1 := by omega
    have Hs2 := hide (sel_bs Hbs.out hp hs)
    have k4 : ¬ pos = start := by omega
    clear hps
    go_enter Tryd.func24, Tryd.ntmps24
    go_wp2
    go_quiet (fail)
    go_wp2
    go_ret
    exact ⟨⟨_, _, rfl, Hs2.out⟩, _, rfl⟩
/-- What Shift gives and leaves. -/
def ShiftRet (g : Nat) (A : Option Addr) (c : Nat) (l : List UInt8) (pos start : Nat) (w : World) (e : Ending) (w' : World) : Prop := (∃ A' c', e = .returned (.slice A' (pos - start) c') ∧ BS w' A' (sel l start pos)) ∧ Inp w' g A c l pos pos ∧ w.grownBy w' (some g)
theorem shift_any (h : Inp w g A c l pos start) (hl : l.length ≤ 2147483647) (hp : pos ≤ l.length) (hs : start ≤ pos) :
    Calls Tryd.prog 22 #[.pointer (some ⟨g, 0, none⟩)] w (ShiftRet g A c l pos start w) := by
  obtain ⟨b, o, rfl, _, _⟩ := h.bs.form (by simp)
  have c0 := h.c0
  have c1 := h.c1
  have c2 := h.c2
  have f2 := h.fr 2
  have hr := h.room
  have hne := h.apart b o rfl
  have Hbs := hide h.bs
  have H2 := hide (fun n => (h.drewN n).setStart pos)
  have HG := hide (fun n => grown_set (grown_drewN w n (some g)) (p := ⟨g, 2, none⟩) (.inl rfl) (.int .i64 (pos : Int)))
  clear h
  by_cases hps : start = pos
  · subst hps
    have k1 : (start : Int) ≤ (l.length : Int) + 1 := by omega
    have k2 : (start : Int) ≤ (c : Int) := by omega
    go_enter Tryd.func22, Tryd.ntmps22
    go_wp2
    go_quiet (fail)
    go_wp2
    go_ret
    exact ⟨⟨_, _, by rw [Nat.sub_self]; rfl, by rw [show sel l start start = [] by simp [sel]]; exact BS.nil _ _⟩, H2.out _, HG.out _⟩
  · have hlt : start < pos := by omega
    have k1 : (start : Int) ≤ (pos : Int) := by omega
    have k2 : (pos : Int) ≤ (c : Int) := by omega
    have k3 : (pos : Int) ≤ (l.length : Int) + 1 := by omega
    have Hs2 := hide (sel_bs Hbs.out hp hs)
    have k4 : ¬ pos = start := by omega
    clear hps
    go_enter Tryd.func22, Tryd.ntmps22
    go_wp2
    go_quiet (fail)
    go_wp2
    go_ret
    exact ⟨⟨_, _, rfl, (Hs2.out.drewN _).far (fun b' o' e => by injection e with e; injection e with e1 e2 e3; rw [← e1]; exact hne) _⟩, H2.out _, HG.out _⟩
set_option maxHeartbeats 1000000 in
theorem moveRune_any (x : UInt8) (h : Inp w g A c l pos start) (hl : l.length ≤ 2147483647) (hx : l[pos]? = some x) (h128 : x.toNat < 128) :
    Calls Tryd.prog 21 #[.pointer (some ⟨g, 0, none⟩)] w fun e w' => e = .returned unit ∧ Inp w' g A c l (pos + 1) start ∧ w.grownBy w' (some g) := by
  have hxl := (List.getElem?_eq_some_iff.1 hx).1
  have hk : (l ++ [0])[pos + 0]? = some x := by rw [Nat.add_zero, List.getElem?_append_left hxl, hx]
  have Hk := hide hk
  have c1 := h.c1
  have f1 := h.fr 1
  have H1 := hide h
  have H2 := hide (fun n => (h.drewN n).setPos (pos + 1))
  have HG := hide (fun n => grown_set (grown_drewN w n (some g)) (p := ⟨g, 1, none⟩) (.inl rfl) (.int .i64 ((pos + 1 : Nat) : Int)))
  have hx192 : (x.toNat : Int) < 192 := by omega
  have hd192 : decide ((x.toNat : Int) < 192) = true := by rw [decide_eq_true_eq]; exact hx192
  clear hk hx h
  go_enter Tryd.func21, Tryd.ntmps21
  go_wp2_with (go_at_call 18; (refine (peek_any g c pos start A l _ 0 x H1.out hl Hk.out).mono ?_); rintro e w1 ⟨rfl, rfl⟩)
  go_quiet (fail)
  go_wp2
  go_end0
  exact ⟨rfl, H2.out _, HG.out _⟩
set_option maxHeartbeats 1000000 in
theorem peekRune_any (k : Nat) (x : UInt8) (h : Inp w g A c l pos start) (hl : l.length ≤ 2147483647) (hx : l[pos + k]? = some x) (h128 : x.toNat < 128) :
    Calls Tryd.prog 19 #[.pointer (some ⟨g, 0, none⟩), .int .i64 (k : Int)] w fun e w' => e = .returned (.tuple #[.int .i32 (x.toNat : Int), .int .i64 1]) ∧ ∃ n, w' = w.drewN n := by
  have hxl := (List.getElem?_eq_some_iff.1 hx).1
  have hk : (l ++ [0])[pos + k]? = some x := by rw [List.getElem?_append_left hxl, hx]
  have Hk := hide hk
  have H1 := hide h
  have hx192 : (x.toNat : Int) < 192 := by omega
  have hd192 : decide ((x.toNat : Int) < 192) = true := by rw [decide_eq_true_eq]; exact hx192
  clear hk hx h
  go_enter Tryd.func19, Tryd.ntmps19
  go_wp2_with (go_at_call 18; (refine (peek_any g c pos start A l _ k x H1.out hl Hk.out).mono ?_); rintro e w1 ⟨rfl, rfl⟩)
  go_quiet (fail)
  go_wp2
  go_ret2
  exact ⟨rfl, _, rfl⟩
end
end Go.Proofs.YthfnahcaoeggbaaDoor
