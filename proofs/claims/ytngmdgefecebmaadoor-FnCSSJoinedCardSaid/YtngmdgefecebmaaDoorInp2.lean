/- More of the package's input: its selection as a slice, its end, its runes below 128, its making. Conditions: places within the text, lengths below 2^31. -/
import Derived.Test.YtngmdgefecebmaaDoorInp
import Derived.Test.YtngmdgefecebmaaDoorCopy
namespace Go.Proofs.YtngmdgefecebmaaDoor
open Go.RowKit
set_option linter.unusedVariables false

/-- The bytes of the selection. -/
def sel (l : List UInt8) (start pos : Nat) : List UInt8 := (l.drop start).take (pos - start)
theorem sel_len {l : List UInt8} {start pos : Nat} (hp : pos ≤ l.length) : (sel l start pos).length = pos - start := by simp [sel]; omega
theorem sel_bs {w : World} {b o : Nat} {l : List UInt8} {start pos : Nat} (h : BS w (some ⟨b, o, none⟩) (l ++ [0])) (hp : pos ≤ l.length) (hs : start ≤ pos) : BS w (some ⟨b, o + start, none⟩) (sel l start pos) := by
  have h1 := (h.cut rfl start).take (pos - start)
  have e : ((l ++ [0]).drop start).take (pos - start) = sel l start pos := by
    unfold sel
    rw [List.drop_append_of_le_length (by omega), List.take_append_of_le_length (by simp; omega)]
  rw [e] at h1
  exact h1
section
variable (g c pos start : Nat) (A : Option Addr) (l : List UInt8) (w : World)
theorem lexeme_any (h : Inp w g A c l pos start) (hl : l.length ≤ 2147483647) (hp : pos ≤ l.length) (hs : start ≤ pos) :
    Calls Tryd.prog 43 #[.pointer (some ⟨g, 0, none⟩)] w fun e w' => (∃ A' c', e = .returned (.slice A' (pos - start) c') ∧ BS w A' (sel l start pos)) ∧ ∃ n, w' = w.drewN n := by
  obtain ⟨b, o, rfl, _, _⟩ := h.bs.form (by simp)
  have c0 := h.c0
  have c1 := h.c1
  have c2 := h.c2
  have hr := h.room
  have Hbs := hide h.bs
  clear h
  by_cases hps : start = pos
  · subst hps
    have k1 : (start : Int) ≤ (l.length : Int) + 1 := by omega
    have k2 : (start : Int) ≤ (c : Int) := by omega
    go_enter Tryd.func43, Tryd.ntmps43
    go_wp2
    go_quiet (fail)
    go_wp2
    go_ret
    exact ⟨⟨_, _, by rw [Nat.sub_self]; rfl, by rw [show sel l start start = [] by simp [sel]]; exact BS.nil _ _⟩, _, rfl⟩
  · have hlt : start < pos := by omega
    have k1 : (start : Int) ≤ (pos : Int) := by omega
    have k2 : (pos : Int) ≤ (c : Int) := by omega
    have k3 : (pos : Int) ≤ (l.length : Int) + 1 := by omega
    have Hs2 := hide (sel_bs Hbs.out hp hs)
    have k4 : ¬ pos = start := by omega
    clear hps
    go_enter Tryd.func43, Tryd.ntmps43
    go_wp2
    go_quiet (fail)
    go_wp2
    go_ret
    exact ⟨⟨_, _, rfl, Hs2.out⟩, _, rfl⟩
/-- What Shift gives and leaves. -/
def ShiftRet (g : Nat) (A : Option Addr) (c : Nat) (l : List UInt8) (pos start : Nat) (w : World) (e : Ending) (w' : World) : Prop := (∃ A' c', e = .returned (.slice A' (pos - start) c') ∧ BS w' A' (sel l start pos)) ∧ Inp w' g A c l pos pos ∧ w.grownBy w' (some g)
theorem shift_any (h : Inp w g A c l pos start) (hl : l.length ≤ 2147483647) (hp : pos ≤ l.length) (hs : start ≤ pos) :
    Calls Tryd.prog 19 #[.pointer (some ⟨g, 0, none⟩)] w (ShiftRet g A c l pos start w) := by
  obtain ⟨b, o, rfl, _, _⟩ := h.bs.form (by simp)
  have c0 := h.c0
  have c1 := h.c1
  have c2 := h.c2
  have f2 := h.fr 2
  have hr := h.room
  have hne := h.apart b o rfl
  have Hbs := hide h.bs
  have H2 := hide (fun n => (h.drewN n).setStart pos)
  have HG := hide (fun n => grown_set (grown_drewN w n (some g)) (p := ⟨g, 2, none⟩) (.inl rfl) (.int .i64 (pos : Int)))
  clear h
  by_cases hps : start = pos
  · subst hps
    have k1 : (start : Int) ≤ (l.length : Int) + 1 := by omega
    have k2 : (start : Int) ≤ (c : Int) := by omega
    go_enter Tryd.func19, Tryd.ntmps19
    go_wp2
    go_quiet (fail)
    go_wp2
    go_ret
    exact ⟨⟨_, _, by rw [Nat.sub_self]; rfl, by rw [show sel l start start = [] by simp [sel]]; exact BS.nil _ _⟩, H2.out _, HG.out _⟩
  · have hlt : start < pos := by omega
    have k1 : (start : Int) ≤ (pos : Int) := by omega
    have k2 : (pos : Int) ≤ (c : Int) := by omega
    have k3 : (pos : Int) ≤ (l.length : Int) + 1 := by omega
    have Hs2 := hide (sel_bs Hbs.out hp hs)
    have k4 : ¬ pos = start := by omega
    clear hps
    go_enter Tryd.func19, Tryd.ntmps19
    go_wp2
    go_quiet (fail)
    go_wp2
    go_ret
    exact ⟨⟨_, _, rfl, (Hs2.out.drewN _).far (fun b' o' e => by injection e with e; injection e with e1 e2 e3; rw [← e1]; exact hne) _⟩, H2.out _, HG.out _⟩
set_option maxHeartbeats 1000000 in
set_option maxHeartbeats 1000000 in
end
end Go.Proofs.YtngmdgefecebmaaDoor
