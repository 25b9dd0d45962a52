/- Hue, saturation and lightness to red, green and blue: the package's function and the reference's give the same three floats. Conditions: bounds of the numbers; the lightness is ordered against one half. -/
import Derived.Test.YtdmkoggjnfhgfaaChan
namespace Go.Proofs.Ytdmkoggjnfhgfaa
open Go.RowKit
set_option linter.unusedVariables false


def mTwo (s l : Nat) : Nat := if gtF l 4602678819172646912 then fsub (fadd l s) (fmul l s) else fmul l (fadd s 4607182418800017408)
def mOne (s l : Nat) : Nat := fsub (fmul l 4611686018427387904) (mTwo s l)
theorem bThird : Bd 0 4599676419421066581 := by unfold Bd; decide +kernel
theorem mTwo_bd {s l : Nat} (bs : Bd 1 s) (bl : Bd 1 l) : Bd 5 (mTwo s l) := by
  unfold mTwo
  split
  · exact (fsub_bd (fadd_bd bl bs (by omega)).2 (fmul_bd bl bs (by omega)).2 (by omega)).2
  · exact (fmul_bd bl (fadd_bd bs (bOne.mono (by omega)) (by omega)).2 (by omega)).2
theorem mOne_bd {s l : Nat} (bs : Bd 1 s) (bl : Bd 1 l) : Bd 7 (mOne s l) := by
  unfold mOne
  exact (fsub_bd ((fmul_bd bl bTwo (by omega)).2.mono (show 1 + 1 + 1 ≤ 5 by omega)) (mTwo_bd bs bl) (by omega)).2
def red (h s l : Nat) : Nat := chan (mOne s l) (mTwo s l) (fadd h 4599676419421066581)
def green (h s l : Nat) : Nat := chan (mOne s l) (mTwo s l) h
def blue (h s l : Nat) : Nat := chan (mOne s l) (mTwo s l) (fsub h 4599676419421066581)
theorem red_bd {h s l : Nat} (bh : Bd 1 h) (bs : Bd 1 s) (bl : Bd 1 l) : Bd 30 (red h s l) :=
  chan_bd (mOne_bd bs bl) ((mTwo_bd bs bl).mono (by omega)) (fadd_bd bh (bThird.mono (by omega)) (by omega)).2
theorem green_bd {h s l : Nat} (bh : Bd 1 h) (bs : Bd 1 s) (bl : Bd 1 l) : Bd 30 (green h s l) :=
  chan_bd (mOne_bd bs bl) ((mTwo_bd bs bl).mono (by omega)) (bh.mono (by omega))
theorem blue_bd {h s l : Nat} (bh : Bd 1 h) (bs : Bd 1 s) (bl : Bd 1 l) : Bd 30 (blue h s l) :=
  chan_bd (mOne_bd bs bl) ((mTwo_bd bs bl).mono (by omega)) (fsub_bd bh (bThird.mono (by omega)) (by omega)).2

attribute [local irreducible] fadd fsub fmul chan Bd
set_option maxHeartbeats 1500000 in
theorem hsl_any (h s l : Nat) (w : World) (bh : Bd 1 h) (bs : Bd 1 s) (bl : Bd 1 l) :
    Calls Try.prog 7 #[.float .f64 h, .float .f64 s, .float .f64 l] w fun e w' => e = .returned (.tuple #[.float .f64 (red h s l), .float .f64 (green h s l), .float .f64 (blue h s l)]) ∧ w = w' := by
  have M1 := mOne_bd bs bl
  have M2 := (mTwo_bd bs bl).mono (show 5 ≤ 7 by omega)
  have FH := fadd_bd bh (bThird.mono (show 0 ≤ 1 by omega)) (by omega)
  have FB := fsub_bd bh (bThird.mono (show 0 ≤ 1 by omega)) (by omega)
  have r1 := run_fadd Try.prog 22 (fadd_bd bs (bOne.mono (show 0 ≤ 1 by omega)) (by omega)).1
  have r2 := run_fmul Try.prog 22 (fmul_bd bl (fadd_bd bs (bOne.mono (show 0 ≤ 1 by omega)) (by omega)).2 (by omega)).1
  have r3 := run_fmul Try.prog 22 (fmul_bd bl bTwo (by omega)).1
  have r4 := run_fadd Try.prog 22 FH.1
  have r5 := run_fsub Try.prog 22 FB.1
  have r7 := run_fadd Try.prog 22 (fadd_bd bl bs (by omega)).1
  have r8 := run_fmul Try.prog 22 (fmul_bd bl bs (by omega)).1
  have r9 := run_fsub Try.prog 22 (fsub_bd (fadd_bd bl bs (by omega)).2 (fmul_bd bl bs (by omega)).2 (by omega)).1
  have r6 := run_fsub Try.prog 22 (fsub_bd ((fmul_bd bl bTwo (by omega)).2.mono (show 1 + 1 + 1 ≤ 5 by omega)) (mTwo_bd bs bl) (by omega)).1
  have B1 : Bd 3 (fadd h 4599676419421066581) := FH.2
  have B2 : Bd 3 h := (bh.mono (by omega))
  have B3 : Bd 3 (fsub h 4599676419421066581) := FB.2
  unfold mOne at M1
  cases t : gtF l 4602678819172646912
  · have c : (FloatKind.f64.format.order l 4602678819172646912 == some .gt) = false := t
    have e : mTwo s l = fmul l (fadd s 4607182418800017408) := by unfold mTwo; rw [if_neg (by rw [t]; simp)]
    have Ered := hide (show red h s l = chan (fsub (fmul l 4611686018427387904) (fmul l (fadd s 4607182418800017408))) (fmul l (fadd s 4607182418800017408)) (fadd h 4599676419421066581) by unfold red mOne; rw [e])
    have Egreen := hide (show green h s l = chan (fsub (fmul l 4611686018427387904) (fmul l (fadd s 4607182418800017408))) (fmul l (fadd s 4607182418800017408)) h by unfold green mOne; rw [e])
    have Eblue := hide (show blue h s l = chan (fsub (fmul l 4611686018427387904) (fmul l (fadd s 4607182418800017408))) (fmul l (fadd s 4607182418800017408)) (fsub h 4599676419421066581) by unfold blue mOne; rw [e])
    rw [e] at M1 M2 r6
    clear e t FH FB bh bs bl
    go_enter Try.func7, Try.ntmps7
    go_wp2_with (go_at_call 9; refine (hue_any _ _ _ _ M1 M2 (by first | exact B1 | exact B2 | exact B3)).mono ?_; rintro e w1 ⟨rfl, rfl⟩)
    go_ret3
    exact ⟨by rw [Ered.out, Egreen.out, Eblue.out]; rfl, rfl⟩
  · have c : (FloatKind.f64.format.order l 4602678819172646912 == some .gt) = true := t
    have e : mTwo s l = fsub (fadd l s) (fmul l s) := by unfold mTwo; rw [if_pos t]
    have Ered := hide (show red h s l = chan (fsub (fmul l 4611686018427387904) (fsub (fadd l s) (fmul l s))) (fsub (fadd l s) (fmul l s)) (fadd h 4599676419421066581) by unfold red mOne; rw [e])
    have Egreen := hide (show green h s l = chan (fsub (fmul l 4611686018427387904) (fsub (fadd l s) (fmul l s))) (fsub (fadd l s) (fmul l s)) h by unfold green mOne; rw [e])
    have Eblue := hide (show blue h s l = chan (fsub (fmul l 4611686018427387904) (fsub (fadd l s) (fmul l s))) (fsub (fadd l s) (fmul l s)) (fsub h 4599676419421066581) by unfold blue mOne; rw [e])
    rw [e] at M1 M2 r6
    clear e t FH FB bh bs bl
    go_enter Try.func7, Try.ntmps7
    go_wp2_with (go_at_call 9; refine (hue_any _ _ _ _ M1 M2 (by first | exact B1 | exact B2 | exact B3)).mono ?_; rintro e w1 ⟨rfl, rfl⟩)
    go_ret3
    exact ⟨by rw [Ered.out, Egreen.out, Eblue.out]; rfl, rfl⟩

set_option maxHeartbeats 1500000 in
theorem sCol_any (h s l : Nat) (w : World) (bh : Bd 1 h) (bs : Bd 1 s) (bl : Bd 1 l) (hc : (FloatKind.f64.format.order l 4602678819172646912 == some .lt || FloatKind.f64.format.order l 4602678819172646912 == some .eq) = !(FloatKind.f64.format.order l 4602678819172646912 == some .gt)) :
    Calls Try.prog 5 #[.float .f64 h, .float .f64 s, .float .f64 l] w fun e w' => e = .returned (.tuple #[.float .f64 (red h s l), .float .f64 (green h s l), .float .f64 (blue h s l)]) ∧ w = w' := by
  have M1 := mOne_bd bs bl
  have M2 := (mTwo_bd bs bl).mono (show 5 ≤ 7 by omega)
  have FH := fadd_bd bh (bThird.mono (show 0 ≤ 1 by omega)) (by omega)
  have FB := fsub_bd bh (bThird.mono (show 0 ≤ 1 by omega)) (by omega)
  have r1 := run_fadd Try.prog 22 (fadd_bd bs (bOne.mono (show 0 ≤ 1 by omega)) (by omega)).1
  have r2 := run_fmul Try.prog 22 (fmul_bd bl (fadd_bd bs (bOne.mono (show 0 ≤ 1 by omega)) (by omega)).2 (by omega)).1
  have r3 := run_fmul Try.prog 22 (fmul_bd bl bTwo (by omega)).1
  have r4 := run_fadd Try.prog 22 FH.1
  have r5 := run_fsub Try.prog 22 FB.1
  have r7 := run_fadd Try.prog 22 (fadd_bd bl bs (by omega)).1
  have r8 := run_fmul Try.prog 22 (fmul_bd bl bs (by omega)).1
  have r9 := run_fsub Try.prog 22 (fsub_bd (fadd_bd bl bs (by omega)).2 (fmul_bd bl bs (by omega)).2 (by omega)).1
  have r6 := run_fsub Try.prog 22 (fsub_bd ((fmul_bd bl bTwo (by omega)).2.mono (show 1 + 1 + 1 ≤ 5 by omega)) (mTwo_bd bs bl) (by omega)).1
  have B1 : Bd 3 (fadd h 4599676419421066581) := FH.2
  have B2 : Bd 3 h := (bh.mono (by omega))
  have B3 : Bd 3 (fsub h 4599676419421066581) := FB.2
  unfold mOne at M1
  cases t : gtF l 4602678819172646912
  · have c : (FloatKind.f64.format.order l 4602678819172646912 == some .gt) = false := t
    have e : mTwo s l = fmul l (fadd s 4607182418800017408) := by unfold mTwo; rw [if_neg (by rw [t]; simp)]
    have Ered := hide (show red h s l = chan (fsub (fmul l 4611686018427387904) (fmul l (fadd s 4607182418800017408))) (fmul l (fadd s 4607182418800017408)) (fadd h 4599676419421066581) by unfold red mOne; rw [e])
    have Egreen := hide (show green h s l = chan (fsub (fmul l 4611686018427387904) (fmul l (fadd s 4607182418800017408))) (fmul l (fadd s 4607182418800017408)) h by unfold green mOne; rw [e])
    have Eblue := hide (show blue h s l = chan (fsub (fmul l 4611686018427387904) (fmul l (fadd s 4607182418800017408))) (fmul l (fadd s 4607182418800017408)) (fsub h 4599676419421066581) by unfold blue mOne; rw [e])
    rw [e] at M1 M2 r6
    rw [c] at hc
    have c2 : (FloatKind.f64.format.order l 4602678819172646912 == some .lt || FloatKind.f64.format.order l 4602678819172646912 == some .eq) = true := hc
    clear e t FH FB bh bs bl hc
    go_enter Try.func5, Try.ntmps5
    go_wp2_with (go_at_call 8; refine (chn_any _ _ _ _ M1 M2 (by first | exact B1 | exact B2 | exact B3)).mono ?_; rintro e w1 ⟨rfl, rfl⟩)
    go_ret3
    exact ⟨by rw [Ered.out, Egreen.out, Eblue.out]; rfl, rfl⟩
  · have c : (FloatKind.f64.format.order l 4602678819172646912 == some .gt) = true := t
    have e : mTwo s l = fsub (fadd l s) (fmul l s) := by unfold mTwo; rw [if_pos t]
    have Ered := hide (show red h s l = chan (fsub (fmul l 4611686018427387904) (fsub (fadd l s) (fmul l s))) (fsub (fadd l s) (fmul l s)) (fadd h 4599676419421066581) by unfold red mOne; rw [e])
    have Egreen := hide (show green h s l = chan (fsub (fmul l 4611686018427387904) (fsub (fadd l s) (fmul l s))) (fsub (fadd l s) (fmul l s)) h by unfold green mOne; rw [e])
    have Eblue := hide (show blue h s l = chan (fsub (fmul l 4611686018427387904) (fsub (fadd l s) (fmul l s))) (fsub (fadd l s) (fmul l s)) (fsub h 4599676419421066581) by unfold blue mOne; rw [e])
    rw [e] at M1 M2 r6
    rw [c] at hc
    have c2 : (FloatKind.f64.format.order l 4602678819172646912 == some .lt || FloatKind.f64.format.order l 4602678819172646912 == some .eq) = false := hc
    clear e t FH FB bh bs bl hc
    go_enter Try.func5, Try.ntmps5
    go_wp2_with (go_at_call 8; refine (chn_any _ _ _ _ M1 M2 (by first | exact B1 | exact B2 | exact B3)).mono ?_; rintro e w1 ⟨rfl, rfl⟩)
    go_ret3
    exact ⟨by rw [Ered.out, Egreen.out, Eblue.out]; rfl, rfl⟩

set_option maxHeartbeats 1000000 in
theorem iCol_any (h s l : Nat) (w : World) (bh : Bd 1 h) (bs : Bd 1 s) (bl : Bd 1 l) :
    Calls Try.prog 4 #[.float .f64 h, .float .f64 s, .float .f64 l] w fun e w' => e = .returned (.tuple #[.float .f64 (red h s l), .float .f64 (green h s l), .float .f64 (blue h s l)]) ∧ w = w' := by
  have H := hsl_any h s l w bh bs bl
  go_enter Try.func4, Try.ntmps4
  go_wp2_with (go_at_call 7; refine H.mono ?_; rintro e w1 ⟨rfl, rfl⟩)
  go_ret3
  exact ⟨rfl, rfl⟩
end Go.Proofs.Ytdmkoggjnfhgfaa
