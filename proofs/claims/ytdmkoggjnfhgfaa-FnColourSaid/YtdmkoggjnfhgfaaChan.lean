/- One channel of a colour: the package's function and the reference's both give chan. Conditions: bounds of the numbers. (printed by gen_chan.py) -/
import Derived.Test.YtdmkoggjnfhgfaaCol
namespace Go.Proofs.Ytdmkoggjnfhgfaa
open Go.RowKit
set_option linter.unusedVariables false

def adj1 (h : Nat) : Nat := if ltF h 0 then fadd h 4607182418800017408 else h
def adj2 (h : Nat) : Nat := if gtF h 4607182418800017408 then fsub h 4607182418800017408 else h
def chanG (m1 m2 g : Nat) : Nat :=
  if ltF (fmul g 4618441417868443648) 4607182418800017408 then fadd m1 (fmul (fmul (fsub m2 m1) g) 4618441417868443648) else if ltF (fmul g 4611686018427387904) 4607182418800017408 then m2
  else if ltF (fmul g 4613937818241073152) 4611686018427387904 then fadd m1 (fmul (fmul (fsub m2 m1) (fsub 4604180019048437077 g)) 4618441417868443648) else m1
def chan (m1 m2 h : Nat) : Nat := chanG m1 m2 (adj2 (adj1 h))
theorem bOne : Bd 0 4607182418800017408 := by unfold Bd; decide +kernel
theorem bTwo : Bd 1 4611686018427387904 := by unfold Bd; decide +kernel
theorem bThree : Bd 2 4613937818241073152 := by unfold Bd; decide +kernel
theorem bSix : Bd 3 4618441417868443648 := by unfold Bd; decide +kernel
theorem bTT : Bd 0 4604180019048437077 := by unfold Bd; decide +kernel
theorem chan_bd {m1 m2 h : Nat} (b1 : Bd 7 m1) (b2 : Bd 7 m2) (bh : Bd 3 h) : Bd 30 (chan m1 m2 h) := by
  have g1 : Bd 5 (adj1 h) := by
    unfold adj1
    split
    · exact (fadd_bd bh (bOne.mono (by omega)) (by omega)).2
    · exact bh.mono (by omega)
  have g2 : Bd 7 (adj2 (adj1 h)) := by
    unfold adj2
    split
    · exact (fsub_bd g1 (bOne.mono (by omega)) (by omega)).2
    · exact g1.mono (by omega)
  unfold chan chanG
  generalize adj2 (adj1 h) = g at *
  have d := (fsub_bd b2 b1 (by omega)).2
  split
  · have e1 := (fmul_bd d g2 (by omega)).2
    have e2 := (fmul_bd e1 bSix (by omega)).2
    exact (fadd_bd (b1.mono (by omega)) e2 (by omega)).2.mono (by omega)
  · split
    · exact b2.mono (by omega)
    · split
      · have f1 := (fsub_bd (bTT.mono (by omega)) g2 (by omega)).2
        have e1 := (fmul_bd d f1 (by omega)).2
        have e2 := (fmul_bd e1 bSix (by omega)).2
        exact (fadd_bd (b1.mono (by omega)) e2 (by omega)).2.mono (by omega)
      · exact b1.mono (by omega)

set_option maxHeartbeats 4000000 in
theorem hue_any (m1 m2 h : Nat) (w : World) (b1 : Bd 7 m1) (b2 : Bd 7 m2) (bh : Bd 3 h) :
    Calls Try.prog 9 #[.float .f64 m1, .float .f64 m2, .float .f64 h] w fun e w' => e = .returned (.float .f64 (chan m1 m2 h)) ∧ w = w' := by
  have F3 := fsub_bd b2 b1 (by omega)
  cases t0 : ltF h 0
  · have c0 : (FloatKind.f64.format.order h 0 == some .lt) = false := t0
    have E1 : adj1 h = h := by unfold adj1; rw [if_neg (by rw [t0]; simp)]
    have g1b : Bd 5 h := bh.mono (by omega)
    cases t1 : gtF h 4607182418800017408
    · have c1 : (FloatKind.f64.format.order h 4607182418800017408 == some .gt) = false := t1
      have E2 : adj2 h = h := by unfold adj2; rw [if_neg (by rw [t1]; simp)]
      have g2b : Bd 7 h := g1b.mono (by omega)
      have EC := hide (show chan m1 m2 h = chanG m1 m2 h by unfold chan; rw [E1, E2])
      have F4 := (fmul_bd g2b bSix (by omega)).1
      have F5 := (fmul_bd g2b bTwo (by omega)).1
      have F6 := (fmul_bd g2b bThree (by omega)).1
      have r4 := run_fmul Try.prog 22 F4
      have r5 := run_fmul Try.prog 22 F5
      have r6 := run_fmul Try.prog 22 F6
      have r3 := run_fsub Try.prog 22 F3.1
      clear E1 E2 F4 F5 F6
      cases t2 : ltF (fmul h 4618441417868443648) 4607182418800017408
      · have c2 : (FloatKind.f64.format.order (fmul h 4618441417868443648) 4607182418800017408 == some .lt) = false := t2
        cases t3 : ltF (fmul h 4611686018427387904) 4607182418800017408
        · have c3 : (FloatKind.f64.format.order (fmul h 4611686018427387904) 4607182418800017408 == some .lt) = false := t3
          cases t4 : ltF (fmul h 4613937818241073152) 4611686018427387904
          · have c4 : (FloatKind.f64.format.order (fmul h 4613937818241073152) 4611686018427387904 == some .lt) = false := t4
            skip
            have EG := hide (show chanG m1 m2 h = m1 by unfold chanG; rw [if_neg (by rw [t2]; simp), if_neg (by rw [t3]; simp), if_neg (by rw [t4]; simp)])
            clear t0 t1 t2 F3 b1 b2 bh g1b g2b t3 t4
            go_enter Try.func9, Try.ntmps9
            go_wp2
            go_ret
            exact ⟨by rw [EC.out, EG.out]; rfl, rfl⟩
          · have c4 : (FloatKind.f64.format.order (fmul h 4613937818241073152) 4611686018427387904 == some .lt) = true := t4
            have F7 := fsub_bd (bTT.mono (show 0 ≤ 7 by omega)) g2b (by omega)
            have F8 := fmul_bd F3.2 F7.2 (by omega)
            have F9 := fmul_bd F8.2 bSix (by omega)
            have F10 := fadd_bd (b1.mono (show 7 ≤ 9 + 9 + 1 + 3 + 1 by omega)) F9.2 (by omega)
            have r7 := run_fsub Try.prog 22 F7.1
            have r8 := run_fmul Try.prog 22 F8.1
            have r9 := run_fmul Try.prog 22 F9.1
            have r10 := run_fadd Try.prog 22 F10.1
            clear F7 F8 F9 F10
            have EG := hide (show chanG m1 m2 h = fadd m1 (fmul (fmul (fsub m2 m1) (fsub 4604180019048437077 h)) 4618441417868443648) by unfold chanG; rw [if_neg (by rw [t2]; simp), if_neg (by rw [t3]; simp), if_pos t4])
            clear t0 t1 t2 F3 b1 b2 bh g1b g2b t3 t4
            go_enter Try.func9, Try.ntmps9
            go_wp2
            go_ret
            exact ⟨by rw [EC.out, EG.out]; rfl, rfl⟩
        · have c3 : (FloatKind.f64.format.order (fmul h 4611686018427387904) 4607182418800017408 == some .lt) = true := t3
          skip
          have EG := hide (show chanG m1 m2 h = m2 by unfold chanG; rw [if_neg (by rw [t2]; simp), if_pos t3])
          clear t0 t1 t2 F3 b1 b2 bh g1b g2b t3
          go_enter Try.func9, Try.ntmps9
          go_wp2
          go_ret
          exact ⟨by rw [EC.out, EG.out]; rfl, rfl⟩
      · have c2 : (FloatKind.f64.format.order (fmul h 4618441417868443648) 4607182418800017408 == some .lt) = true := t2
        have F8 := fmul_bd F3.2 g2b (by omega)
        have F9 := fmul_bd F8.2 bSix (by omega)
        have F10 := fadd_bd (b1.mono (show 7 ≤ 7 + 2 + 7 + 1 + 3 + 1 by omega)) F9.2 (by omega)
        have r8 := run_fmul Try.prog 22 F8.1
        have r9 := run_fmul Try.prog 22 F9.1
        have r10 := run_fadd Try.prog 22 F10.1
        clear F8 F9 F10
        have EG := hide (show chanG m1 m2 h = fadd m1 (fmul (fmul (fsub m2 m1) h) 4618441417868443648) by unfold chanG; rw [if_pos t2])
        clear t0 t1 t2 F3 b1 b2 bh g1b g2b
        go_enter Try.func9, Try.ntmps9
        go_wp2
        go_ret
        exact ⟨by rw [EC.out, EG.out]; rfl, rfl⟩
    · have c1 : (FloatKind.f64.format.order h 4607182418800017408 == some .gt) = true := t1
      have F1 := fsub_bd g1b (bOne.mono (show 0 ≤ 5 by omega)) (by omega)
      have r1 := run_fsub Try.prog 22 F1.1
      have E2 : adj2 h = fsub h 4607182418800017408 := by unfold adj2; rw [if_pos t1]
      have g2b := F1.2
      generalize hg2 : fsub h 4607182418800017408 = g2 at *
      clear hg2 F1
      have EC := hide (show chan m1 m2 h = chanG m1 m2 g2 by unfold chan; rw [E1, E2])
      have F4 := (fmul_bd g2b bSix (by omega)).1
      have F5 := (fmul_bd g2b bTwo (by omega)).1
      have F6 := (fmul_bd g2b bThree (by omega)).1
      have r4 := run_fmul Try.prog 22 F4
      have r5 := run_fmul Try.prog 22 F5
      have r6 := run_fmul Try.prog 22 F6
      have r3 := run_fsub Try.prog 22 F3.1
      clear E1 E2 F4 F5 F6
      cases t2 : ltF (fmul g2 4618441417868443648) 4607182418800017408
      · have c2 : (FloatKind.f64.format.order (fmul g2 4618441417868443648) 4607182418800017408 == some .lt) = false := t2
        cases t3 : ltF (fmul g2 4611686018427387904) 4607182418800017408
        · have c3 : (FloatKind.f64.format.order (fmul g2 4611686018427387904) 4607182418800017408 == some .lt) = false := t3
          cases t4 : ltF (fmul g2 4613937818241073152) 4611686018427387904
          · have c4 : (FloatKind.f64.format.order (fmul g2 4613937818241073152) 4611686018427387904 == some .lt) = false := t4
            skip
            have EG := hide (show chanG m1 m2 g2 = m1 by unfold chanG; rw [if_neg (by rw [t2]; simp), if_neg (by rw [t3]; simp), if_neg (by rw [t4]; simp)])
            clear t0 t1 t2 F3 b1 b2 bh g1b g2b t3 t4
            go_enter Try.func9, Try.ntmps9
            go_wp2
            go_ret
            exact ⟨by rw [EC.out, EG.out]; rfl, rfl⟩
          · have c4 : (FloatKind.f64.format.order (fmul g2 4613937818241073152) 4611686018427387904 == some .lt) = true := t4
            have F7 := fsub_bd (bTT.mono (show 0 ≤ 7 by omega)) g2b (by omega)
            have F8 := fmul_bd F3.2 F7.2 (by omega)
            have F9 := fmul_bd F8.2 bSix (by omega)
            have F10 := fadd_bd (b1.mono (show 7 ≤ 9 + 9 + 1 + 3 + 1 by omega)) F9.2 (by omega)
            have r7 := run_fsub Try.prog 22 F7.1
            have r8 := run_fmul Try.prog 22 F8.1
            have r9 := run_fmul Try.prog 22 F9.1
            have r10 := run_fadd Try.prog 22 F10.1
            clear F7 F8 F9 F10
            have EG := hide (show chanG m1 m2 g2 = fadd m1 (fmul (fmul (fsub m2 m1) (fsub 4604180019048437077 g2)) 4618441417868443648) by unfold chanG; rw [if_neg (by rw [t2]; simp), if_neg (by rw [t3]; simp), if_pos t4])
            clear t0 t1 t2 F3 b1 b2 bh g1b g2b t3 t4
            go_enter Try.func9, Try.ntmps9
            go_wp2
            go_ret
            exact ⟨by rw [EC.out, EG.out]; rfl, rfl⟩
        · have c3 : (FloatKind.f64.format.order (fmul g2 4611686018427387904) 4607182418800017408 == some .lt) = true := t3
          skip
          have EG := hide (show chanG m1 m2 g2 = m2 by unfold chanG; rw [if_neg (by rw [t2]; simp), if_pos t3])
          clear t0 t1 t2 F3 b1 b2 bh g1b g2b t3
          go_enter Try.func9, Try.ntmps9
          go_wp2
          go_ret
          exact ⟨by rw [EC.out, EG.out]; rfl, rfl⟩
      · have c2 : (FloatKind.f64.format.order (fmul g2 4618441417868443648) 4607182418800017408 == some .lt) = true := t2
        have F8 := fmul_bd F3.2 g2b (by omega)
        have F9 := fmul_bd F8.2 bSix (by omega)
        have F10 := fadd_bd (b1.mono (show 7 ≤ 7 + 2 + 7 + 1 + 3 + 1 by omega)) F9.2 (by omega)
        have r8 := run_fmul Try.prog 22 F8.1
        have r9 := run_fmul Try.prog 22 F9.1
        have r10 := run_fadd Try.prog 22 F10.1
        clear F8 F9 F10
        have EG := hide (show chanG m1 m2 g2 = fadd m1 (fmul (fmul (fsub m2 m1) g2) 4618441417868443648) by unfold chanG; rw [if_pos t2])
        clear t0 t1 t2 F3 b1 b2 bh g1b g2b
        go_enter Try.func9, Try.ntmps9
        go_wp2
        go_ret
        exact ⟨by rw [EC.out, EG.out]; rfl, rfl⟩
  · have c0 : (FloatKind.f64.format.order h 0 == some .lt) = true := t0
    have F0 := fadd_bd bh (bOne.mono (show 0 ≤ 3 by omega)) (by omega)
    have r0 := run_fadd Try.prog 22 F0.1
    have E1 : adj1 h = fadd h 4607182418800017408 := by unfold adj1; rw [if_pos t0]
    have g1b := F0.2
    generalize hg1 : fadd h 4607182418800017408 = g1 at *
    clear hg1 F0
    cases t1 : gtF g1 4607182418800017408
    · have c1 : (FloatKind.f64.format.order g1 4607182418800017408 == some .gt) = false := t1
      have E2 : adj2 g1 = g1 := by unfold adj2; rw [if_neg (by rw [t1]; simp)]
      have g2b : Bd 7 g1 := g1b.mono (by omega)
      have EC := hide (show chan m1 m2 h = chanG m1 m2 g1 by unfold chan; rw [E1, E2])
      have F4 := (fmul_bd g2b bSix (by omega)).1
      have F5 := (fmul_bd g2b bTwo (by omega)).1
      have F6 := (fmul_bd g2b bThree (by omega)).1
      have r4 := run_fmul Try.prog 22 F4
      have r5 := run_fmul Try.prog 22 F5
      have r6 := run_fmul Try.prog 22 F6
      have r3 := run_fsub Try.prog 22 F3.1
      clear E1 E2 F4 F5 F6
      cases t2 : ltF (fmul g1 4618441417868443648) 4607182418800017408
      · have c2 : (FloatKind.f64.format.order (fmul g1 4618441417868443648) 4607182418800017408 == some .lt) = false := t2
        cases t3 : ltF (fmul g1 4611686018427387904) 4607182418800017408
        · have c3 : (FloatKind.f64.format.order (fmul g1 4611686018427387904) 4607182418800017408 == some .lt) = false := t3
          cases t4 : ltF (fmul g1 4613937818241073152) 4611686018427387904
          · have c4 : (FloatKind.f64.format.order (fmul g1 4613937818241073152) 4611686018427387904 == some .lt) = false := t4
            skip
            have EG := hide (show chanG m1 m2 g1 = m1 by unfold chanG; rw [if_neg (by rw [t2]; simp), if_neg (by rw [t3]; simp), if_neg (by rw [t4]; simp)])
            clear t0 t1 t2 F3 b1 b2 bh g1b g2b t3 t4
            go_enter Try.func9, Try.ntmps9
            go_wp2
            go_ret
            exact ⟨by rw [EC.out, EG.out]; rfl, rfl⟩
          · have c4 : (FloatKind.f64.format.order (fmul g1 4613937818241073152) 4611686018427387904 == some .lt) = true := t4
            have F7 := fsub_bd (bTT.mono (show 0 ≤ 7 by omega)) g2b (by omega)
            have F8 := fmul_bd F3.2 F7.2 (by omega)
            have F9 := fmul_bd F8.2 bSix (by omega)
            have F10 := fadd_bd (b1.mono (show 7 ≤ 9 + 9 + 1 + 3 + 1 by omega)) F9.2 (by omega)
            have r7 := run_fsub Try.prog 22 F7.1
            have r8 := run_fmul Try.prog 22 F8.1
            have r9 := run_fmul Try.prog 22 F9.1
            have r10 := run_fadd Try.prog 22 F10.1
            clear F7 F8 F9 F10
            have EG := hide (show chanG m1 m2 g1 = fadd m1 (fmul (fmul (fsub m2 m1) (fsub 4604180019048437077 g1)) 4618441417868443648) by unfold chanG; rw [if_neg (by rw [t2]; simp), if_neg (by rw [t3]; simp), if_pos t4])
            clear t0 t1 t2 F3 b1 b2 bh g1b g2b t3 t4
            go_enter Try.func9, Try.ntmps9
            go_wp2
            go_ret
            exact ⟨by rw [EC.out, EG.out]; rfl, rfl⟩
        · have c3 : (FloatKind.f64.format.order (fmul g1 4611686018427387904) 4607182418800017408 == some .lt) = true := t3
          skip
          have EG := hide (show chanG m1 m2 g1 = m2 by unfold chanG; rw [if_neg (by rw [t2]; simp), if_pos t3])
          clear t0 t1 t2 F3 b1 b2 bh g1b g2b t3
          go_enter Try.func9, Try.ntmps9
          go_wp2
          go_ret
          exact ⟨by rw [EC.out, EG.out]; rfl, rfl⟩
      · have c2 : (FloatKind.f64.format.order (fmul g1 4618441417868443648) 4607182418800017408 == some .lt) = true := t2
        have F8 := fmul_bd F3.2 g2b (by omega)
        have F9 := fmul_bd F8.2 bSix (by omega)
        have F10 := fadd_bd (b1.mono (show 7 ≤ 7 + 2 + 7 + 1 + 3 + 1 by omega)) F9.2 (by omega)
        have r8 := run_fmul Try.prog 22 F8.1
        have r9 := run_fmul Try.prog 22 F9.1
        have r10 := run_fadd Try.prog 22 F10.1
        clear F8 F9 F10
        have EG := hide (show chanG m1 m2 g1 = fadd m1 (fmul (fmul (fsub m2 m1) g1) 4618441417868443648) by unfold chanG; rw [if_pos t2])
        clear t0 t1 t2 F3 b1 b2 bh g1b g2b
        go_enter Try.func9, Try.ntmps9
        go_wp2
        go_ret
        exact ⟨by rw [EC.out, EG.out]; rfl, rfl⟩
    · have c1 : (FloatKind.f64.format.order g1 4607182418800017408 == some .gt) = true := t1
      have F1 := fsub_bd g1b (bOne.mono (show 0 ≤ 5 by omega)) (by omega)
      have r1 := run_fsub Try.prog 22 F1.1
      have E2 : adj2 g1 = fsub g1 4607182418800017408 := by unfold adj2; rw [if_pos t1]
      have g2b := F1.2
      generalize hg2 : fsub g1 4607182418800017408 = g2 at *
      clear hg2 F1
      have EC := hide (show chan m1 m2 h = chanG m1 m2 g2 by unfold chan; rw [E1, E2])
      have F4 := (fmul_bd g2b bSix (by omega)).1
      have F5 := (fmul_bd g2b bTwo (by omega)).1
      have F6 := (fmul_bd g2b bThree (by omega)).1
      have r4 := run_fmul Try.prog 22 F4
      have r5 := run_fmul Try.prog 22 F5
      have r6 := run_fmul Try.prog 22 F6
      have r3 := run_fsub Try.prog 22 F3.1
      clear E1 E2 F4 F5 F6
      cases t2 : ltF (fmul g2 4618441417868443648) 4607182418800017408
      · have c2 : (FloatKind.f64.format.order (fmul g2 4618441417868443648) 4607182418800017408 == some .lt) = false := t2
        cases t3 : ltF (fmul g2 4611686018427387904) 4607182418800017408
        · have c3 : (FloatKind.f64.format.order (fmul g2 4611686018427387904) 4607182418800017408 == some .lt) = false := t3
          cases t4 : ltF (fmul g2 4613937818241073152) 4611686018427387904
          · have c4 : (FloatKind.f64.format.order (fmul g2 4613937818241073152) 4611686018427387904 == some .lt) = false := t4
            skip
            have EG := hide (show chanG m1 m2 g2 = m1 by unfold chanG; rw [if_neg (by rw [t2]; simp), if_neg (by rw [t3]; simp), if_neg (by rw [t4]; simp)])
            clear t0 t1 t2 F3 b1 b2 bh g1b g2b t3 t4
            go_enter Try.func9, Try.ntmps9
            go_wp2
            go_ret
            exact ⟨by rw [EC.out, EG.out]; rfl, rfl⟩
          · have c4 : (FloatKind.f64.format.order (fmul g2 4613937818241073152) 4611686018427387904 == some .lt) = true := t4
            have F7 := fsub_bd (bTT.mono (show 0 ≤ 7 by omega)) g2b (by omega)
            have F8 := fmul_bd F3.2 F7.2 (by omega)
            have F9 := fmul_bd F8.2 bSix (by omega)
            have F10 := fadd_bd (b1.mono (show 7 ≤ 9 + 9 + 1 + 3 + 1 by omega)) F9.2 (by omega)
            have r7 := run_fsub Try.prog 22 F7.1
            have r8 := run_fmul Try.prog 22 F8.1
            have r9 := run_fmul Try.prog 22 F9.1
            have r10 := run_fadd Try.prog 22 F10.1
            clear F7 F8 F9 F10
            have EG := hide (show chanG m1 m2 g2 = fadd m1 (fmul (fmul (fsub m2 m1) (fsub 4604180019048437077 g2)) 4618441417868443648) by unfold chanG; rw [if_neg (by rw [t2]; simp), if_neg (by rw [t3]; simp), if_pos t4])
            clear t0 t1 t2 F3 b1 b2 bh g1b g2b t3 t4
            go_enter Try.func9, Try.ntmps9
            go_wp2
            go_ret
            exact ⟨by rw [EC.out, EG.out]; rfl, rfl⟩
        · have c3 : (FloatKind.f64.format.order (fmul g2 4611686018427387904) 4607182418800017408 == some .lt) = true := t3
          skip
          have EG := hide (show chanG m1 m2 g2 = m2 by unfold chanG; rw [if_neg (by rw [t2]; simp), if_pos t3])
          clear t0 t1 t2 F3 b1 b2 bh g1b g2b t3
          go_enter Try.func9, Try.ntmps9
          go_wp2
          go_ret
          exact ⟨by rw [EC.out, EG.out]; rfl, rfl⟩
      · have c2 : (FloatKind.f64.format.order (fmul g2 4618441417868443648) 4607182418800017408 == some .lt) = true := t2
        have F8 := fmul_bd F3.2 g2b (by omega)
        have F9 := fmul_bd F8.2 bSix (by omega)
        have F10 := fadd_bd (b1.mono (show 7 ≤ 7 + 2 + 7 + 1 + 3 + 1 by omega)) F9.2 (by omega)
        have r8 := run_fmul Try.prog 22 F8.1
        have r9 := run_fmul Try.prog 22 F9.1
        have r10 := run_fadd Try.prog 22 F10.1
        clear F8 F9 F10
        have EG := hide (show chanG m1 m2 g2 = fadd m1 (fmul (fmul (fsub m2 m1) g2) 4618441417868443648) by unfold chanG; rw [if_pos t2])
        clear t0 t1 t2 F3 b1 b2 bh g1b g2b
        go_enter Try.func9, Try.ntmps9
        go_wp2
        go_ret
        exact ⟨by rw [EC.out, EG.out]; rfl, rfl⟩
set_option maxHeartbeats 4000000 in
theorem chn_any (m1 m2 h : Nat) (w : World) (b1 : Bd 7 m1) (b2 : Bd 7 m2) (bh : Bd 3 h) :
    Calls Try.prog 8 #[.float .f64 m1, .float .f64 m2, .float .f64 h] w fun e w' => e = .returned (.float .f64 (chan m1 m2 h)) ∧ w = w' := by
  have F3 := fsub_bd b2 b1 (by omega)
  cases t0 : ltF h 0
  · have c0 : (FloatKind.f64.format.order h 0 == some .lt) = false := t0
    have E1 : adj1 h = h := by unfold adj1; rw [if_neg (by rw [t0]; simp)]
    have g1b : Bd 5 h := bh.mono (by omega)
    cases t1 : gtF h 4607182418800017408
    · have c1 : (FloatKind.f64.format.order h 4607182418800017408 == some .gt) = false := t1
      have E2 : adj2 h = h := by unfold adj2; rw [if_neg (by rw [t1]; simp)]
      have g2b : Bd 7 h := g1b.mono (by omega)
      have EC := hide (show chan m1 m2 h = chanG m1 m2 h by unfold chan; rw [E1, E2])
      have F4 := (fmul_bd g2b bSix (by omega)).1
      have F5 := (fmul_bd g2b bTwo (by omega)).1
      have F6 := (fmul_bd g2b bThree (by omega)).1
      have r4 := run_fmul Try.prog 22 F4
      have r5 := run_fmul Try.prog 22 F5
      have r6 := run_fmul Try.prog 22 F6
      have r3 := run_fsub Try.prog 22 F3.1
      clear E1 E2 F4 F5 F6
      cases t2 : ltF (fmul h 4618441417868443648) 4607182418800017408
      · have c2 : (FloatKind.f64.format.order (fmul h 4618441417868443648) 4607182418800017408 == some .lt) = false := t2
        cases t3 : ltF (fmul h 4611686018427387904) 4607182418800017408
        · have c3 : (FloatKind.f64.format.order (fmul h 4611686018427387904) 4607182418800017408 == some .lt) = false := t3
          cases t4 : ltF (fmul h 4613937818241073152) 4611686018427387904
          · have c4 : (FloatKind.f64.format.order (fmul h 4613937818241073152) 4611686018427387904 == some .lt) = false := t4
            skip
            have EG := hide (show chanG m1 m2 h = m1 by unfold chanG; rw [if_neg (by rw [t2]; simp), if_neg (by rw [t3]; simp), if_neg (by rw [t4]; simp)])
            clear t0 t1 t2 F3 b1 b2 bh g1b g2b t3 t4
            go_enter Try.func8, Try.ntmps8
            go_wp2
            go_ret
            exact ⟨by rw [EC.out, EG.out]; rfl, rfl⟩
          · have c4 : (FloatKind.f64.format.order (fmul h 4613937818241073152) 4611686018427387904 == some .lt) = true := t4
            have F7 := fsub_bd (bTT.mono (show 0 ≤ 7 by omega)) g2b (by omega)
            have F8 := fmul_bd F3.2 F7.2 (by omega)
            have F9 := fmul_bd F8.2 bSix (by omega)
            have F10 := fadd_bd (b1.mono (show 7 ≤ 9 + 9 + 1 + 3 + 1 by omega)) F9.2 (by omega)
            have r7 := run_fsub Try.prog 22 F7.1
            have r8 := run_fmul Try.prog 22 F8.1
            have r9 := run_fmul Try.prog 22 F9.1
            have r10 := run_fadd Try.prog 22 F10.1
            clear F7 F8 F9 F10
            have EG := hide (show chanG m1 m2 h = fadd m1 (fmul (fmul (fsub m2 m1) (fsub 4604180019048437077 h)) 4618441417868443648) by unfold chanG; rw [if_neg (by rw [t2]; simp), if_neg (by rw [t3]; simp), if_pos t4])
            clear t0 t1 t2 F3 b1 b2 bh g1b g2b t3 t4
            go_enter Try.func8, Try.ntmps8
            go_wp2
            go_ret
            exact ⟨by rw [EC.out, EG.out]; rfl, rfl⟩
        · have c3 : (FloatKind.f64.format.order (fmul h 4611686018427387904) 4607182418800017408 == some .lt) = true := t3
          skip
          have EG := hide (show chanG m1 m2 h = m2 by unfold chanG; rw [if_neg (by rw [t2]; simp), if_pos t3])
          clear t0 t1 t2 F3 b1 b2 bh g1b g2b t3
          go_enter Try.func8, Try.ntmps8
          go_wp2
          go_ret
          exact ⟨by rw [EC.out, EG.out]; rfl, rfl⟩
      · have c2 : (FloatKind.f64.format.order (fmul h 4618441417868443648) 4607182418800017408 == some .lt) = true := t2
        have F8 := fmul_bd F3.2 g2b (by omega)
        have F9 := fmul_bd F8.2 bSix (by omega)
        have F10 := fadd_bd (b1.mono (show 7 ≤ 7 + 2 + 7 + 1 + 3 + 1 by omega)) F9.2 (by omega)
        have r8 := run_fmul Try.prog 22 F8.1
        have r9 := run_fmul Try.prog 22 F9.1
        have r10 := run_fadd Try.prog 22 F10.1
        clear F8 F9 F10
        have EG := hide (show chanG m1 m2 h = fadd m1 (fmul (fmul (fsub m2 m1) h) 4618441417868443648) by unfold chanG; rw [if_pos t2])
        clear t0 t1 t2 F3 b1 b2 bh g1b g2b
        go_enter Try.func8, Try.ntmps8
        go_wp2
        go_ret
        exact ⟨by rw [EC.out, EG.out]; rfl, rfl⟩
    · have c1 : (FloatKind.f64.format.order h 4607182418800017408 == some .gt) = true := t1
      have F1 := fsub_bd g1b (bOne.mono (show 0 ≤ 5 by omega)) (by omega)
      have r1 := run_fsub Try.prog 22 F1.1
      have E2 : adj2 h = fsub h 4607182418800017408 := by unfold adj2; rw [if_pos t1]
      have g2b := F1.2
      generalize hg2 : fsub h 4607182418800017408 = g2 at *
      clear hg2 F1
      have EC := hide (show chan m1 m2 h = chanG m1 m2 g2 by unfold chan; rw [E1, E2])
      have F4 := (fmul_bd g2b bSix (by omega)).1
      have F5 := (fmul_bd g2b bTwo (by omega)).1
      have F6 := (fmul_bd g2b bThree (by omega)).1
      have r4 := run_fmul Try.prog 22 F4
      have r5 := run_fmul Try.prog 22 F5
      have r6 := run_fmul Try.prog 22 F6
      have r3 := run_fsub Try.prog 22 F3.1
      clear E1 E2 F4 F5 F6
      cases t2 : ltF (fmul g2 4618441417868443648) 4607182418800017408
      · have c2 : (FloatKind.f64.format.order (fmul g2 4618441417868443648) 4607182418800017408 == some .lt) = false := t2
        cases t3 : ltF (fmul g2 4611686018427387904) 4607182418800017408
        · have c3 : (FloatKind.f64.format.order (fmul g2 4611686018427387904) 4607182418800017408 == some .lt) = false := t3
          cases t4 : ltF (fmul g2 4613937818241073152) 4611686018427387904
          · have c4 : (FloatKind.f64.format.order (fmul g2 4613937818241073152) 4611686018427387904 == some .lt) = false := t4
            skip
            have EG := hide (show chanG m1 m2 g2 = m1 by unfold chanG; rw [if_neg (by rw [t2]; simp), if_neg (by rw [t3]; simp), if_neg (by rw [t4]; simp)])
            clear t0 t1 t2 F3 b1 b2 bh g1b g2b t3 t4
            go_enter Try.func8, Try.ntmps8
            go_wp2
            go_ret
            exact ⟨by rw [EC.out, EG.out]; rfl, rfl⟩
          · have c4 : (FloatKind.f64.format.order (fmul g2 4613937818241073152) 4611686018427387904 == some .lt) = true := t4
            have F7 := fsub_bd (bTT.mono (show 0 ≤ 7 by omega)) g2b (by omega)
            have F8 := fmul_bd F3.2 F7.2 (by omega)
            have F9 := fmul_bd F8.2 bSix (by omega)
            have F10 := fadd_bd (b1.mono (show 7 ≤ 9 + 9 + 1 + 3 + 1 by omega)) F9.2 (by omega)
            have r7 := run_fsub Try.prog 22 F7.1
            have r8 := run_fmul Try.prog 22 F8.1
            have r9 := run_fmul Try.prog 22 F9.1
            have r10 := run_fadd Try.prog 22 F10.1
            clear F7 F8 F9 F10
            have EG := hide (show chanG m1 m2 g2 = fadd m1 (fmul (fmul (fsub m2 m1) (fsub 4604180019048437077 g2)) 4618441417868443648) by unfold chanG; rw [if_neg (by rw [t2]; simp), if_neg (by rw [t3]; simp), if_pos t4])
            clear t0 t1 t2 F3 b1 b2 bh g1b g2b t3 t4
            go_enter Try.func8, Try.ntmps8
            go_wp2
            go_ret
            exact ⟨by rw [EC.out, EG.out]; rfl, rfl⟩
        · have c3 : (FloatKind.f64.format.order (fmul g2 4611686018427387904) 4607182418800017408 == some .lt) = true := t3
          skip
          have EG := hide (show chanG m1 m2 g2 = m2 by unfold chanG; rw [if_neg (by rw [t2]; simp), if_pos t3])
          clear t0 t1 t2 F3 b1 b2 bh g1b g2b t3
          go_enter Try.func8, Try.ntmps8
          go_wp2
          go_ret
          exact ⟨by rw [EC.out, EG.out]; rfl, rfl⟩
      · have c2 : (FloatKind.f64.format.order (fmul g2 4618441417868443648) 4607182418800017408 == some .lt) = true := t2
        have F8 := fmul_bd F3.2 g2b (by omega)
        have F9 := fmul_bd F8.2 bSix (by omega)
        have F10 := fadd_bd (b1.mono (show 7 ≤ 7 + 2 + 7 + 1 + 3 + 1 by omega)) F9.2 (by omega)
        have r8 := run_fmul Try.prog 22 F8.1
        have r9 := run_fmul Try.prog 22 F9.1
        have r10 := run_fadd Try.prog 22 F10.1
        clear F8 F9 F10
        have EG := hide (show chanG m1 m2 g2 = fadd m1 (fmul (fmul (fsub m2 m1) g2) 4618441417868443648) by unfold chanG; rw [if_pos t2])
        clear t0 t1 t2 F3 b1 b2 bh g1b g2b
        go_enter Try.func8, Try.ntmps8
        go_wp2
        go_ret
        exact ⟨by rw [EC.out, EG.out]; rfl, rfl⟩
  · have c0 : (FloatKind.f64.format.order h 0 == some .lt) = true := t0
    have F0 := fadd_bd bh (bOne.mono (show 0 ≤ 3 by omega)) (by omega)
    have r0 := run_fadd Try.prog 22 F0.1
    have E1 : adj1 h = fadd h 4607182418800017408 := by unfold adj1; rw [if_pos t0]
    have g1b := F0.2
    generalize hg1 : fadd h 4607182418800017408 = g1 at *
    clear hg1 F0
    cases t1 : gtF g1 4607182418800017408
    · have c1 : (FloatKind.f64.format.order g1 4607182418800017408 == some .gt) = false := t1
      have E2 : adj2 g1 = g1 := by unfold adj2; rw [if_neg (by rw [t1]; simp)]
      have g2b : Bd 7 g1 := g1b.mono (by omega)
      have EC := hide (show chan m1 m2 h = chanG m1 m2 g1 by unfold chan; rw [E1, E2])
      have F4 := (fmul_bd g2b bSix (by omega)).1
      have F5 := (fmul_bd g2b bTwo (by omega)).1
      have F6 := (fmul_bd g2b bThree (by omega)).1
      have r4 := run_fmul Try.prog 22 F4
      have r5 := run_fmul Try.prog 22 F5
      have r6 := run_fmul Try.prog 22 F6
      have r3 := run_fsub Try.prog 22 F3.1
      clear E1 E2 F4 F5 F6
      cases t2 : ltF (fmul g1 4618441417868443648) 4607182418800017408
      · have c2 : (FloatKind.f64.format.order (fmul g1 4618441417868443648) 4607182418800017408 == some .lt) = false := t2
        cases t3 : ltF (fmul g1 4611686018427387904) 4607182418800017408
        · have c3 : (FloatKind.f64.format.order (fmul g1 4611686018427387904) 4607182418800017408 == some .lt) = false := t3
          cases t4 : ltF (fmul g1 4613937818241073152) 4611686018427387904
          · have c4 : (FloatKind.f64.format.order (fmul g1 4613937818241073152) 4611686018427387904 == some .lt) = false := t4
            skip
            have EG := hide (show chanG m1 m2 g1 = m1 by unfold chanG; rw [if_neg (by rw [t2]; simp), if_neg (by rw [t3]; simp), if_neg (by rw [t4]; simp)])
            clear t0 t1 t2 F3 b1 b2 bh g1b g2b t3 t4
            go_enter Try.func8, Try.ntmps8
            go_wp2
            go_ret
            exact ⟨by rw [EC.out, EG.out]; rfl, rfl⟩
          · have c4 : (FloatKind.f64.format.order (fmul g1 4613937818241073152) 4611686018427387904 == some .lt) = true := t4
            have F7 := fsub_bd (bTT.mono (show 0 ≤ 7 by omega)) g2b (by omega)
            have F8 := fmul_bd F3.2 F7.2 (by omega)
            have F9 := fmul_bd F8.2 bSix (by omega)
            have F10 := fadd_bd (b1.mono (show 7 ≤ 9 + 9 + 1 + 3 + 1 by omega)) F9.2 (by omega)
            have r7 := run_fsub Try.prog 22 F7.1
            have r8 := run_fmul Try.prog 22 F8.1
            have r9 := run_fmul Try.prog 22 F9.1
            have r10 := run_fadd Try.prog 22 F10.1
            clear F7 F8 F9 F10
            have EG := hide (show chanG m1 m2 g1 = fadd m1 (fmul (fmul (fsub m2 m1) (fsub 4604180019048437077 g1)) 4618441417868443648) by unfold chanG; rw [if_neg (by rw [t2]; simp), if_neg (by rw [t3]; simp), if_pos t4])
            clear t0 t1 t2 F3 b1 b2 bh g1b g2b t3 t4
            go_enter Try.func8, Try.ntmps8
            go_wp2
            go_ret
            exact ⟨by rw [EC.out, EG.out]; rfl, rfl⟩
        · have c3 : (FloatKind.f64.format.order (fmul g1 4611686018427387904) 4607182418800017408 == some .lt) = true := t3
          skip
          have EG := hide (show chanG m1 m2 g1 = m2 by unfold chanG; rw [if_neg (by rw [t2]; simp), if_pos t3])
          clear t0 t1 t2 F3 b1 b2 bh g1b g2b t3
          go_enter Try.func8, Try.ntmps8
          go_wp2
          go_ret
          exact ⟨by rw [EC.out, EG.out]; rfl, rfl⟩
      · have c2 : (FloatKind.f64.format.order (fmul g1 4618441417868443648) 4607182418800017408 == some .lt) = true := t2
        have F8 := fmul_bd F3.2 g2b (by omega)
        have F9 := fmul_bd F8.2 bSix (by omega)
        have F10 := fadd_bd (b1.mono (show 7 ≤ 7 + 2 + 7 + 1 + 3 + 1 by omega)) F9.2 (by omega)
        have r8 := run_fmul Try.prog 22 F8.1
        have r9 := run_fmul Try.prog 22 F9.1
        have r10 := run_fadd Try.prog 22 F10.1
        clear F8 F9 F10
        have EG := hide (show chanG m1 m2 g1 = fadd m1 (fmul (fmul (fsub m2 m1) g1) 4618441417868443648) by unfold chanG; rw [if_pos t2])
        clear t0 t1 t2 F3 b1 b2 bh g1b g2b
        go_enter Try.func8, Try.ntmps8
        go_wp2
        go_ret
        exact ⟨by rw [EC.out, EG.out]; rfl, rfl⟩
    · have c1 : (FloatKind.f64.format.order g1 4607182418800017408 == some .gt) = true := t1
      have F1 := fsub_bd g1b (bOne.mono (show 0 ≤ 5 by omega)) (by omega)
      have r1 := run_fsub Try.prog 22 F1.1
      have E2 : adj2 g1 = fsub g1 4607182418800017408 := by unfold adj2; rw [if_pos t1]
      have g2b := F1.2
      generalize hg2 : fsub g1 4607182418800017408 = g2 at *
      clear hg2 F1
      have EC := hide (show chan m1 m2 h = chanG m1 m2 g2 by unfold chan; rw [E1, E2])
      have F4 := (fmul_bd g2b bSix (by omega)).1
      have F5 := (fmul_bd g2b bTwo (by omega)).1
      have F6 := (fmul_bd g2b bThree (by omega)).1
      have r4 := run_fmul Try.prog 22 F4
      have r5 := run_fmul Try.prog 22 F5
      have r6 := run_fmul Try.prog 22 F6
      have r3 := run_fsub Try.prog 22 F3.1
      clear E1 E2 F4 F5 F6
      cases t2 : ltF (fmul g2 4618441417868443648) 4607182418800017408
      · have c2 : (FloatKind.f64.format.order (fmul g2 4618441417868443648) 4607182418800017408 == some .lt) = false := t2
        cases t3 : ltF (fmul g2 4611686018427387904) 4607182418800017408
        · have c3 : (FloatKind.f64.format.order (fmul g2 4611686018427387904) 4607182418800017408 == some .lt) = false := t3
          cases t4 : ltF (fmul g2 4613937818241073152) 4611686018427387904
          · have c4 : (FloatKind.f64.format.order (fmul g2 4613937818241073152) 4611686018427387904 == some .lt) = false := t4
            skip
            have EG := hide (show chanG m1 m2 g2 = m1 by unfold chanG; rw [if_neg (by rw [t2]; simp), if_neg (by rw [t3]; simp), if_neg (by rw [t4]; simp)])
            clear t0 t1 t2 F3 b1 b2 bh g1b g2b t3 t4
            go_enter Try.func8, Try.ntmps8
            go_wp2
            go_ret
            exact ⟨by rw [EC.out, EG.out]; rfl, rfl⟩
          · have c4 : (FloatKind.f64.format.order (fmul g2 4613937818241073152) 4611686018427387904 == some .lt) = true := t4
            have F7 := fsub_bd (bTT.mono (show 0 ≤ 7 by omega)) g2b (by omega)
            have F8 := fmul_bd F3.2 F7.2 (by omega)
            have F9 := fmul_bd F8.2 bSix (by omega)
            have F10 := fadd_bd (b1.mono (show 7 ≤ 9 + 9 + 1 + 3 + 1 by omega)) F9.2 (by omega)
            have r7 := run_fsub Try.prog 22 F7.1
            have r8 := run_fmul Try.prog 22 F8.1
            have r9 := run_fmul Try.prog 22 F9.1
            have r10 := run_fadd Try.prog 22 F10.1
            clear F7 F8 F9 F10
            have EG := hide (show chanG m1 m2 g2 = fadd m1 (fmul (fmul (fsub m2 m1) (fsub 4604180019048437077 g2)) 4618441417868443648) by unfold chanG; rw [if_neg (by rw [t2]; simp), if_neg (by rw [t3]; simp), if_pos t4])
            clear t0 t1 t2 F3 b1 b2 bh g1b g2b t3 t4
            go_enter Try.func8, Try.ntmps8
            go_wp2
            go_ret
            exact ⟨by rw [EC.out, EG.out]; rfl, rfl⟩
        · have c3 : (FloatKind.f64.format.order (fmul g2 4611686018427387904) 4607182418800017408 == some .lt) = true := t3
          skip
          have EG := hide (show chanG m1 m2 g2 = m2 by unfold chanG; rw [if_neg (by rw [t2]; simp), if_pos t3])
          clear t0 t1 t2 F3 b1 b2 bh g1b g2b t3
          go_enter Try.func8, Try.ntmps8
          go_wp2
          go_ret
          exact ⟨by rw [EC.out, EG.out]; rfl, rfl⟩
      · have c2 : (FloatKind.f64.format.order (fmul g2 4618441417868443648) 4607182418800017408 == some .lt) = true := t2
        have F8 := fmul_bd F3.2 g2b (by omega)
        have F9 := fmul_bd F8.2 bSix (by omega)
        have F10 := fadd_bd (b1.mono (show 7 ≤ 7 + 2 + 7 + 1 + 3 + 1 by omega)) F9.2 (by omega)
        have r8 := run_fmul Try.prog 22 F8.1
        have r9 := run_fmul Try.prog 22 F9.1
        have r10 := run_fadd Try.prog 22 F10.1
        clear F8 F9 F10
        have EG := hide (show chanG m1 m2 g2 = fadd m1 (fmul (fmul (fsub m2 m1) g2) 4618441417868443648) by unfold chanG; rw [if_pos t2])
        clear t0 t1 t2 F3 b1 b2 bh g1b g2b
        go_enter Try.func8, Try.ntmps8
        go_wp2
        go_ret
        exact ⟨by rw [EC.out, EG.out]; rfl, rfl⟩
end Go.Proofs.Ytdmkoggjnfhgfaa
