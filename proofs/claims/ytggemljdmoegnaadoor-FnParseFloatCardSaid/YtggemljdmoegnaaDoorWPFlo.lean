/- The walk of 'laws.FnParseFloat': it returns true for every three numbers, sign and list of bytes. Condition: the tables of powers as laid. (printed by gen_wpflo.py) -/
import Derived.Test.YtggemljdmoegnaaDoorPFI
import Derived.Test.YtggemljdmoegnaaDoorPFS
import Derived.Test.YtggemljdmoegnaaDoorWPDec
namespace Go.Proofs.YtggemljdmoegnaaDoor
open Go.RowKit Go.ChangeShapes Go.WideShapes Go.ChangeAt
set_option linter.unusedVariables false
attribute [local irreducible] pointed

/-- The table of the package and those of the library. -/
structure Tabs (w : World) : Prop where
  t : P10 0 23 w
  z : PZ 0 23 w
  p : Pows w
theorem Tabs.below {w w' : World} (h : Tabs w) (hb : Below w.heap.size w w') : Tabs w' := ⟨h.t.below hb, h.z.below hb, h.p.below hb⟩
theorem scaled_at (n : Nat) (z z' : Int) (w : World) (hz : z = z') (hn : n ≤ 1000000000000000) (h1 : -50 ≤ z) (h2 : z ≤ 30) :
    Calls Tryd.prog 10 #[.int .u64 (n : Int), .int .i64 z] w fun e w' => ∃ u, e = .returned (.float .f64 u) ∧ Aps 351 false u n z' ∧ w = w' := by
  subst hz
  exact scaled_any n z w hn h1 h2
theorem expF_zero : expF 0 = [] := rfl
theorem expF_some {x : Int} (h : ¬ x = 0) : expF x = 101 :: decI x := by unfold expF; rw [if_neg h]
theorem decI_small {x : Int} (x1 : -30 ≤ x) (x2 : x ≤ 30) : (decI x).length ≤ 21 := decI_len x (by omega) (by omega)
set_option maxHeartbeats 600000 in
theorem pflo_f0 (m d : Nat) (x : Int) (a : Option Addr) (l : List UInt8) (c : Nat) (W : World) (bs : BS W a l) (ht : Tabs W) (hm : m ≤ 1000000000000000) (hd : d ≤ 20) (x1 : -30 ≤ x) (x2 : x ≤ 30) (hx : x = 0) (hl : l.length ≤ 5000) (hE : endsB l = true) :
    Calls Tryd.prog 4 #[.int .i64 (m : Int), .int .i64 (d : Int), .int .i64 x, .bool false, .slice a l.length c] W fun e w' => e = .returned (.bool true) ∧ Below W.heap.size W w' := by
  subst hx
  have Hm := hide hm
  have HE := hide hE
  have HT := hide ht
  have hps := pointed_small hm hd
  obtain ⟨T0, hT0⟩ : ∃ T0, pointed m d = T0 := ⟨_, rfl⟩
  rw [hT0] at hps
  have HT0 := hide hT0
  have Hps := hide hps
  have hmi : (m : Int) ≤ 1000000000000000 := by omega
  clear hm hE hT0 hps ht
  go_enter Tryd.func4, Tryd.ntmps4
  go_wp2_with (first
    | (go_at_call 5; refine (ends_n _ _ _ true _ HE.out bs).mono ?_; rintro e w1 ⟨rfl, rfl⟩)
    | (go_at_call 6; refine (pointed_at m d _ HT0.out Hm.out hd).mono ?_; rintro e w1 ⟨A1, c1, rfl, own1, hB1⟩))
  refine (scaled_at m _ ((0 : Int) - (d : Int)) _ (by omega) Hm.out (by omega) (by omega)).mono ?_
  rintro e w1' ⟨u, rfl, hu, rfl⟩
  have HU := hide hu
  clear hu
  obtain ⟨TF, hTF⟩ : ∃ TF, T0 ++ l = TF := ⟨_, rfl⟩
  have HLF : Hid (TF.length = T0.length + l.length) := hide (by rw [← hTF]; simp)
  have hp3 := HasParts.two (w := w1) rfl A1 a T0.length l.length c1 c T0 l 22 rfl rfl own1.bs (bs.below hB1)
  go_wp2_with fail
  refine (join_two_at (t := TF) _ _ _ _ _ _ _ _ hp3 hTF (by have := HLF.out; have := Hps.out; omega)).mono ?_
  rintro e w5 ⟨A5, c5, rfl, own5, hB5⟩
  have hBB : Below W.heap.size W w5 := (hB1.alloc hB1.size _).trans (hB5.mono (by have := hB1.size; simp; omega))
  have HBB := hide hBB
  have ht5 := HT.out.below hBB
  have hTT : TF = sgnF false ++ (pointed m d ++ (expF (0 : Int) ++ l)) := by
    rw [← hTF, ← HT0.out]
    simp [sgnF, expF_zero]
  have hTL : T0.length = (sgnF false).length + (pointed m d).length + (expF (0 : Int)).length := by
    rw [← HT0.out]
    simp [sgnF, expF_zero]
    try omega
  have HTT := hide hTT
  have HTL := hide hTL
  clear hp3 hTF hBB hTT hTL hB5 own1
  go_wp2_with fail
  refine (iParseFloat_any A5 m d false (0 : Int) l TF _ c5 T0.length _ rfl HTT.out own5.bs (by have := HLF.out; have := Hps.out; omega) own5.le.1 HTL.out Hm.out hd (by omega) (by omega) (ends_none HE.out) ht5.t ht5.z ht5.p).mono ?_
  rintro e w6 ⟨v, rfl, hv, q, rfl⟩
  have HV := hide hv
  clear hv own5 ht5
  go_wp2_with fail
  refine (near_aps (n := m) (s := false) (z := (0 : Int) - (d : Int)) _ Hm.out (by omega) (by omega) HV.out HU.out).mono ?_
  rintro e w7 ⟨rfl, rfl⟩
  go_wp2
  go_ret
  exact ⟨rfl, below_drewN HBB.out _⟩
set_option maxHeartbeats 600000 in
theorem pflo_f1 (m d : Nat) (x : Int) (a : Option Addr) (l : List UInt8) (c : Nat) (W : World) (bs : BS W a l) (ht : Tabs W) (hm : m ≤ 1000000000000000) (hd : d ≤ 20) (x1 : -30 ≤ x) (x2 : x ≤ 30) (hx : ¬ x = 0) (hl : l.length ≤ 5000) (hE : endsB l = true) :
    Calls Tryd.prog 4 #[.int .i64 (m : Int), .int .i64 (d : Int), .int .i64 x, .bool false, .slice a l.length c] W fun e w' => e = .returned (.bool true) ∧ Below W.heap.size W w' := by
  have hxb : (x == 0) = false := by rw [beq_eq_false_iff_ne]; exact hx
  have Hm := hide hm
  have HE := hide hE
  have HT := hide ht
  have hps := pointed_small hm hd
  obtain ⟨T0, hT0⟩ : ∃ T0, pointed m d = T0 := ⟨_, rfl⟩
  rw [hT0] at hps
  have HT0 := hide hT0
  have Hps := hide hps
  have hmi : (m : Int) ≤ 1000000000000000 := by omega
  clear hm hE hT0 hps ht
  obtain ⟨D0, hD0⟩ : ∃ D0, decI x = D0 := ⟨_, rfl⟩
  have HD0 := hide hD0
  have Hds : Hid (D0.length ≤ 21) := hide (by rw [← hD0]; exact decI_small x1 x2)
  have Hx := hide hx
  clear hx hD0
  go_enter Tryd.func4, Tryd.ntmps4
  go_wp2_with (first
    | (go_at_call 5; refine (ends_n _ _ _ true _ HE.out bs).mono ?_; rintro e w1 ⟨rfl, rfl⟩)
    | (go_at_call 6; refine (pointed_at m d _ HT0.out Hm.out hd).mono ?_; rintro e w1 ⟨A1, c1, rfl, own1, hB1⟩))
  refine (scaled_at m _ (x - (d : Int)) _ (by omega) Hm.out (by omega) (by omega)).mono ?_
  rintro e w1' ⟨u, rfl, hu, rfl⟩
  have HU := hide hu
  clear hu
  have kc := fun n c C => run_bytes_lit (P := Tryd.prog) 22 5 Tryd.underlying22 Tryd.underlying5 w1 w1.heap.size n c C rfl
  go_wp2_with fail
  refine (integer_at x _ HD0.out (by omega) (by omega)).mono ?_
  rintro e w3 ⟨A3, c3, rfl, own3, hB3⟩
  have hB123 : Below W.heap.size W w3 := (hB1.alloc hB1.size _).trans (hB3.mono (by have := hB1.size; simp; omega))
  obtain ⟨T2, hT2⟩ : ∃ T2, T0 ++ ([101] ++ D0) = T2 := ⟨_, rfl⟩
  have HL2 : Hid (T2.length = T0.length + (1 + D0.length)) := hide (by rw [← hT2]; simp; omega)
  have hp2 := HasParts.three (w := w3) rfl A1 (some ⟨w1.heap.size, 0, none⟩) A3 T0.length 1 D0.length c1 1 c3 T0 [101] D0 22 rfl rfl rfl ((own1.bs.alloc _).below hB3) ((BS.lit rfl [101] _ _ _ rfl).below hB3) own3.bs
  clear kc
  go_wp2_with fail
  refine (join_three_at (t := T2) _ _ _ _ _ _ _ _ _ _ _ hp2 hT2 (by have := HL2.out; have := Hps.out; have := Hds.out; omega)).mono ?_
  rintro e w4 ⟨A4, c4, rfl, own4, hB4⟩
  have hB14 : Below W.heap.size W w4 := (hB123.alloc hB123.size _).trans (hB4.mono (by have := hB123.size; simp; omega))
  have HT2 := hide hT2
  clear hp2 hT2 hB4 hB123 own3 hB3 hB1 own1
  obtain ⟨TF, hTF⟩ : ∃ TF, T2 ++ l = TF := ⟨_, rfl⟩
  have HLF : Hid (TF.length = T2.length + l.length) := hide (by rw [← hTF]; simp)
  have hp3 := HasParts.two (w := w4) rfl A4 a T2.length l.length c4 c T2 l 22 rfl rfl own4.bs (bs.below hB14)
  go_wp2_with fail
  refine (join_two_at (t := TF) _ _ _ _ _ _ _ _ hp3 hTF (by have := HLF.out; have := Hps.out; have := HL2.out; have := Hds.out; omega)).mono ?_
  rintro e w5 ⟨A5, c5, rfl, own5, hB5⟩
  have hBB : Below W.heap.size W w5 := (hB14.alloc hB14.size _).trans (hB5.mono (by have := hB14.size; simp; omega))
  have HBB := hide hBB
  have ht5 := HT.out.below hBB
  have hTT : TF = sgnF false ++ (pointed m d ++ (expF x ++ l)) := by
    rw [← hTF, ← HT2.out, ← HT0.out, expF_some Hx.out, ← HD0.out]
    simp [sgnF]
  have hTL : T2.length = (sgnF false).length + (pointed m d).length + (expF x).length := by
    rw [← HT2.out, ← HT0.out, expF_some Hx.out, ← HD0.out]
    simp [sgnF]
    try omega
  have HTT := hide hTT
  have HTL := hide hTL
  clear hp3 hTF hBB hTT hTL hB5 own4
  go_wp2_with fail
  refine (iParseFloat_any A5 m d false x l TF _ c5 T2.length _ rfl HTT.out own5.bs (by have := HLF.out; have := Hps.out; have := HL2.out; have := Hds.out; omega) own5.le.1 HTL.out Hm.out hd (by omega) (by omega) (ends_none HE.out) ht5.t ht5.z ht5.p).mono ?_
  rintro e w6 ⟨v, rfl, hv, q, rfl⟩
  have HV := hide hv
  clear hv own5 ht5
  go_wp2_with fail
  refine (near_aps (n := m) (s := false) (z := x - (d : Int)) _ Hm.out (by omega) (by omega) HV.out HU.out).mono ?_
  rintro e w7 ⟨rfl, rfl⟩
  go_wp2
  go_ret
  exact ⟨rfl, below_drewN HBB.out _⟩
set_option maxHeartbeats 600000 in
theorem pflo_t0 (m d : Nat) (x : Int) (a : Option Addr) (l : List UInt8) (c : Nat) (W : World) (bs : BS W a l) (ht : Tabs W) (hm : m ≤ 1000000000000000) (hd : d ≤ 20) (x1 : -30 ≤ x) (x2 : x ≤ 30) (hx : x = 0) (hl : l.length ≤ 5000) (hE : endsB l = true) :
    Calls Tryd.prog 4 #[.int .i64 (m : Int), .int .i64 (d : Int), .int .i64 x, .bool true, .slice a l.length c] W fun e w' => e = .returned (.bool true) ∧ Below W.heap.size W w' := by
  subst hx
  have Hm := hide hm
  have HE := hide hE
  have HT := hide ht
  have hps := pointed_small hm hd
  obtain ⟨T0, hT0⟩ : ∃ T0, pointed m d = T0 := ⟨_, rfl⟩
  rw [hT0] at hps
  have HT0 := hide hT0
  have Hps := hide hps
  have hmi : (m : Int) ≤ 1000000000000000 := by omega
  clear hm hE hT0 hps ht
  have rng := fun u => run_fneg Tryd.prog u
  go_enter Tryd.func4, Tryd.ntmps4
  go_wp2_with (first
    | (go_at_call 5; refine (ends_n _ _ _ true _ HE.out bs).mono ?_; rintro e w1 ⟨rfl, rfl⟩)
    | (go_at_call 6; refine (pointed_at m d _ HT0.out Hm.out hd).mono ?_; rintro e w1 ⟨A1, c1, rfl, own1, hB1⟩))
  refine (scaled_at m _ ((0 : Int) - (d : Int)) _ (by omega) Hm.out (by omega) (by omega)).mono ?_
  rintro e w1' ⟨u, rfl, hu, rfl⟩
  have HU := hide hu
  clear hu
  obtain ⟨T1, hT1⟩ : ∃ T1, [45] ++ T0 = T1 := ⟨_, rfl⟩
  have HL1 : Hid (T1.length = 1 + T0.length) := hide (by rw [← hT1]; simp; omega)
  have hp1 := HasParts.two (w := w1.alloc (.cells #[.int .u8 45] 5 (1, 2))) (g := w1.heap.size + 1) (by simp) (some ⟨w1.heap.size, 0, none⟩) A1 1 T0.length 1 c1 [45] T0 22 rfl rfl (BS.lit rfl [45] _ _ _ rfl) (own1.bs.alloc _)
  have kc1 := fun n c C => run_bytes_lit (P := Tryd.prog) 22 5 Tryd.underlying22 Tryd.underlying5 w1 w1.heap.size n c C rfl
  go_wp2_with fail
  clear kc1
  refine (join_two_at (t := T1) _ _ _ _ _ _ _ _ hp1 hT1 (by have := HL1.out; have := Hps.out; omega)).mono ?_
  rintro e w2 ⟨A2, c2, rfl, own2, hB2⟩
  have hB12 : Below W.heap.size W w2 := ((hB1.alloc hB1.size _).alloc (by have := hB1.size; simp; omega) _).trans (hB2.mono (by have := hB1.size; simp; omega))
  have HT1 := hide hT1
  clear hp1 hT1 hB2 hB1 own1
  obtain ⟨TF, hTF⟩ : ∃ TF, T1 ++ l = TF := ⟨_, rfl⟩
  have HLF : Hid (TF.length = T1.length + l.length) := hide (by rw [← hTF]; simp)
  have hp3 := HasParts.two (w := w2) rfl A2 a T1.length l.length c2 c T1 l 22 rfl rfl own2.bs (bs.below hB12)
  go_wp2_with fail
  refine (join_two_at (t := TF) _ _ _ _ _ _ _ _ hp3 hTF (by have := HLF.out; have := Hps.out; have := HL1.out; omega)).mono ?_
  rintro e w5 ⟨A5, c5, rfl, own5, hB5⟩
  have hBB : Below W.heap.size W w5 := (hB12.alloc hB12.size _).trans (hB5.mono (by have := hB12.size; simp; omega))
  have HBB := hide hBB
  have ht5 := HT.out.below hBB
  have hTT : TF = sgnF true ++ (pointed m d ++ (expF (0 : Int) ++ l)) := by
    rw [← hTF, ← HT1.out, ← HT0.out]
    simp [sgnF, expF_zero]
  have hTL : T1.length = (sgnF true).length + (pointed m d).length + (expF (0 : Int)).length := by
    rw [← HT1.out, ← HT0.out]
    simp [sgnF, expF_zero]
    try omega
  have HTT := hide hTT
  have HTL := hide hTL
  clear hp3 hTF hBB hTT hTL hB5 own2
  go_wp2_with fail
  refine (iParseFloat_any A5 m d true (0 : Int) l TF _ c5 T1.length _ rfl HTT.out own5.bs (by have := HLF.out; have := Hps.out; have := HL1.out; omega) own5.le.1 HTL.out Hm.out hd (by omega) (by omega) (ends_none HE.out) ht5.t ht5.z ht5.p).mono ?_
  rintro e w6 ⟨v, rfl, hv, q, rfl⟩
  have HV := hide hv
  clear hv own5 ht5
  go_wp2_with fail
  refine (near_aps (n := m) (s := true) (z := (0 : Int) - (d : Int)) _ Hm.out (by omega) (by omega) HV.out (aps_neg HU.out)).mono ?_
  rintro e w7 ⟨rfl, rfl⟩
  go_wp2
  go_ret
  exact ⟨rfl, below_drewN HBB.out _⟩
set_option maxHeartbeats 600000 in
theorem pflo_t1 (m d : Nat) (x : Int) (a : Option Addr) (l : List UInt8) (c : Nat) (W : World) (bs : BS W a l) (ht : Tabs W) (hm : m ≤ 1000000000000000) (hd : d ≤ 20) (x1 : -30 ≤ x) (x2 : x ≤ 30) (hx : ¬ x = 0) (hl : l.length ≤ 5000) (hE : endsB l = true) :
    Calls Tryd.prog 4 #[.int .i64 (m : Int), .int .i64 (d : Int), .int .i64 x, .bool true, .slice a l.length c] W fun e w' => e = .returned (.bool true) ∧ Below W.heap.size W w' := by
  have hxb : (x == 0) = false := by rw [beq_eq_false_iff_ne]; exact hx
  have Hm := hide hm
  have HE := hide hE
  have HT := hide ht
  have hps := pointed_small hm hd
  obtain ⟨T0, hT0⟩ : ∃ T0, pointed m d = T0 := ⟨_, rfl⟩
  rw [hT0] at hps
  have HT0 := hide hT0
  have Hps := hide hps
  have hmi : (m : Int) ≤ 1000000000000000 := by omega
  clear hm hE hT0 hps ht
  obtain ⟨D0, hD0⟩ : ∃ D0, decI x = D0 := ⟨_, rfl⟩
  have HD0 := hide hD0
  have Hds : Hid (D0.length ≤ 21) := hide (by rw [← hD0]; exact decI_small x1 x2)
  have Hx := hide hx
  clear hx hD0
  have rng := fun u => run_fneg Tryd.prog u
  go_enter Tryd.func4, Tryd.ntmps4
  go_wp2_with (first
    | (go_at_call 5; refine (ends_n _ _ _ true _ HE.out bs).mono ?_; rintro e w1 ⟨rfl, rfl⟩)
    | (go_at_call 6; refine (pointed_at m d _ HT0.out Hm.out hd).mono ?_; rintro e w1 ⟨A1, c1, rfl, own1, hB1⟩))
  refine (scaled_at m _ (x - (d : Int)) _ (by omega) Hm.out (by omega) (by omega)).mono ?_
  rintro e w1' ⟨u, rfl, hu, rfl⟩
  have HU := hide hu
  clear hu
  obtain ⟨T1, hT1⟩ : ∃ T1, [45] ++ T0 = T1 := ⟨_, rfl⟩
  have HL1 : Hid (T1.length = 1 + T0.length) := hide (by rw [← hT1]; simp; omega)
  have hp1 := HasParts.two (w := w1.alloc (.cells #[.int .u8 45] 5 (1, 2))) (g := w1.heap.size + 1) (by simp) (some ⟨w1.heap.size, 0, none⟩) A1 1 T0.length 1 c1 [45] T0 22 rfl rfl (BS.lit rfl [45] _ _ _ rfl) (own1.bs.alloc _)
  have kc1 := fun n c C => run_bytes_lit (P := Tryd.prog) 22 5 Tryd.underlying22 Tryd.underlying5 w1 w1.heap.size n c C rfl
  go_wp2_with fail
  clear kc1
  refine (join_two_at (t := T1) _ _ _ _ _ _ _ _ hp1 hT1 (by have := HL1.out; have := Hps.out; omega)).mono ?_
  rintro e w2 ⟨A2, c2, rfl, own2, hB2⟩
  have hB12 : Below W.heap.size W w2 := ((hB1.alloc hB1.size _).alloc (by have := hB1.size; simp; omega) _).trans (hB2.mono (by have := hB1.size; simp; omega))
  have HT1 := hide hT1
  clear hp1 hT1 hB2 hB1 own1
  have kc := fun n c C => run_bytes_lit (P := Tryd.prog) 22 5 Tryd.underlying22 Tryd.underlying5 w2 w2.heap.size n c C rfl
  go_wp2_with fail
  refine (integer_at x _ HD0.out (by omega) (by omega)).mono ?_
  rintro e w3 ⟨A3, c3, rfl, own3, hB3⟩
  have hB123 : Below W.heap.size W w3 := (hB12.alloc hB12.size _).trans (hB3.mono (by have := hB12.size; simp; omega))
  obtain ⟨T2, hT2⟩ : ∃ T2, T1 ++ ([101] ++ D0) = T2 := ⟨_, rfl⟩
  have HL2 : Hid (T2.length = T1.length + (1 + D0.length)) := hide (by rw [← hT2]; simp; omega)
  have hp2 := HasParts.three (w := w3) rfl A2 (some ⟨w2.heap.size, 0, none⟩) A3 T1.length 1 D0.length c2 1 c3 T1 [101] D0 22 rfl rfl rfl ((own2.bs.alloc _).below hB3) ((BS.lit rfl [101] _ _ _ rfl).below hB3) own3.bs
  clear kc
  go_wp2_with fail
  refine (join_three_at (t := T2) _ _ _ _ _ _ _ _ _ _ _ hp2 hT2 (by have := HL2.out; have := HL1.out; have := Hps.out; have := Hds.out; omega)).mono ?_
  rintro e w4 ⟨A4, c4, rfl, own4, hB4⟩
  have hB14 : Below W.heap.size W w4 := (hB123.alloc hB123.size _).trans (hB4.mono (by have := hB123.size; simp; omega))
  have HT2 := hide hT2
  clear hp2 hT2 hB4 hB123 own3 hB3 hB12 own2
  obtain ⟨TF, hTF⟩ : ∃ TF, T2 ++ l = TF := ⟨_, rfl⟩
  have HLF : Hid (TF.length = T2.length + l.length) := hide (by rw [← hTF]; simp)
  have hp3 := HasParts.two (w := w4) rfl A4 a T2.length l.length c4 c T2 l 22 rfl rfl own4.bs (bs.below hB14)
  go_wp2_with fail
  refine (join_two_at (t := TF) _ _ _ _ _ _ _ _ hp3 hTF (by have := HLF.out; have := Hps.out; have := HL1.out; have := HL2.out; have := Hds.out; omega)).mono ?_
  rintro e w5 ⟨A5, c5, rfl, own5, hB5⟩
  have hBB : Below W.heap.size W w5 := (hB14.alloc hB14.size _).trans (hB5.mono (by have := hB14.size; simp; omega))
  have HBB := hide hBB
  have ht5 := HT.out.below hBB
  have hTT : TF = sgnF true ++ (pointed m d ++ (expF x ++ l)) := by
    rw [← hTF, ← HT2.out, ← HT1.out, ← HT0.out, expF_some Hx.out, ← HD0.out]
    simp [sgnF]
  have hTL : T2.length = (sgnF true).length + (pointed m d).length + (expF x).length := by
    rw [← HT2.out, ← HT1.out, ← HT0.out, expF_some Hx.out, ← HD0.out]
    simp [sgnF]
    try omega
  have HTT := hide hTT
  have HTL := hide hTL
  clear hp3 hTF hBB hTT hTL hB5 own4
  go_wp2_with fail
  refine (iParseFloat_any A5 m d true x l TF _ c5 T2.length _ rfl HTT.out own5.bs (by have := HLF.out; have := Hps.out; have := HL1.out; have := HL2.out; have := Hds.out; omega) own5.le.1 HTL.out Hm.out hd (by omega) (by omega) (ends_none HE.out) ht5.t ht5.z ht5.p).mono ?_
  rintro e w6 ⟨v, rfl, hv, q, rfl⟩
  have HV := hide hv
  clear hv own5 ht5
  go_wp2_with fail
  refine (near_aps (n := m) (s := true) (z := x - (d : Int)) _ Hm.out (by omega) (by omega) HV.out (aps_neg HU.out)).mono ?_
  rintro e w7 ⟨rfl, rfl⟩
  go_wp2
  go_ret
  exact ⟨rfl, below_drewN HBB.out _⟩
theorem fnParseFloat_walk (x y z : Int) (s : Bool) (a : Option Addr) (l : List UInt8) (c : Nat) (W : World) (wx : (Lit.int .i64 x).wf = true) (wy : (Lit.int .i64 y).wf = true) (wz : (Lit.int .i64 z).wf = true) (bs : BS W a l) (ht : Tabs W) :
    Calls Tryd.prog 4 #[.int .i64 x, .int .i64 y, .int .i64 z, .bool s, .slice a l.length c] W fun e w' => e = .returned (.bool true) ∧ Below W.heap.size W w' := by
  obtain ⟨x1, x2⟩ := bdi_i64 wx
  obtain ⟨y1, y2⟩ := bdi_i64 wy
  obtain ⟨z1, z2⟩ := bdi_i64 wz
  clear wx wy wz
  by_cases h30 : 2147483647 < l.length
  · clear ht bs
    go_enter Tryd.func4, Tryd.ntmps4
    go_wp2
    go_ret
    exact ⟨rfl, Below.refl _ _⟩
  by_cases h31 : x < 0
  · clear ht bs
    go_enter Tryd.func4, Tryd.ntmps4
    go_wp2
    go_ret
    exact ⟨rfl, Below.refl _ _⟩
  by_cases h32 : 1000000000000000 < x
  · clear ht bs
    go_enter Tryd.func4, Tryd.ntmps4
    go_wp2
    go_ret
    exact ⟨rfl, Below.refl _ _⟩
  by_cases h33 : y < 0
  · clear ht bs
    go_enter Tryd.func4, Tryd.ntmps4
    go_wp2
    go_ret
    exact ⟨rfl, Below.refl _ _⟩
  by_cases h34 : 20 < y
  · clear ht bs
    go_enter Tryd.func4, Tryd.ntmps4
    go_wp2
    go_ret
    exact ⟨rfl, Below.refl _ _⟩
  by_cases h35 : z < -30
  · clear ht bs
    go_enter Tryd.func4, Tryd.ntmps4
    go_wp2
    go_ret
    exact ⟨rfl, Below.refl _ _⟩
  by_cases h36 : 30 < z
  · clear ht bs
    go_enter Tryd.func4, Tryd.ntmps4
    go_wp2
    go_ret
    exact ⟨rfl, Below.refl _ _⟩
  by_cases h37 : 5000 < l.length
  · clear ht bs
    go_enter Tryd.func4, Tryd.ntmps4
    go_wp2
    go_ret
    exact ⟨rfl, Below.refl _ _⟩
  cases hE : endsB l with
  | false =>
    have HE := hide hE
    clear hE
    go_enter Tryd.func4, Tryd.ntmps4
    go_wp2_with (go_at_call 5; refine (ends_n _ _ _ false _ HE.out bs).mono ?_; rintro e w1 ⟨rfl, rfl⟩)
    go_ret
    exact ⟨rfl, Below.refl _ _⟩
  | true =>
    obtain ⟨m, rfl⟩ := Int.eq_ofNat_of_zero_le (show 0 ≤ x by omega)
    obtain ⟨d, rfl⟩ := Int.eq_ofNat_of_zero_le (show 0 ≤ y by omega)
    cases s
    · by_cases hz : z = 0
      · exact pflo_f0 m d z a l c W bs ht (by omega) (by omega) (by omega) (by omega) hz (by omega) hE
      · exact pflo_f1 m d z a l c W bs ht (by omega) (by omega) (by omega) (by omega) hz (by omega) hE
    · by_cases hz : z = 0
      · exact pflo_t0 m d z a l c W bs ht (by omega) (by omega) (by omega) (by omega) hz (by omega) hE
      · exact pflo_t1 m d z a l c W bs ht (by omega) (by omega) (by omega) (by omega) hz (by omega) hE
end Go.Proofs.YtggemljdmoegnaaDoor
