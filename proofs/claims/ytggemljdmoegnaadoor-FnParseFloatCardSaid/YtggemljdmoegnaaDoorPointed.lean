/- The reference's number with a point. Conditions: at most 10^15, at most 20 decimals. -/
import Derived.Test.YtggemljdmoegnaaDoorDecW
import Derived.Test.YtggemljdmoegnaaDoorCat
import Derived.Test.YtggemljdmoegnaaDoorPt
import Derived.Test.YtggemljdmoegnaaDoorInpl
import Derived.Test.YtggemljdmoegnaaDoorRow
import Derived.Deep.Cut
namespace Go.Proofs.YtggemljdmoegnaaDoor
open Go.RowKit
set_option linter.unusedVariables false

/-- One byte in front of a row. -/
theorem cons8 {w0 w : World} {A : Option Addr} {n c : Nat} {l : List UInt8} (own : OwnB w w0.heap.size A n c l) (hb : Below w0.heap.size w0 w) (x : UInt8) (z : Int) (hz : z = (x.toNat : Int)) (hl : n + 1 ≤ 4294967296) :
    ∃ A' c' w', (Builtin.append_ #[22, 22] 22 #[.slice (some ⟨w.heap.size, 0, none⟩) 1 1, .slice A n c]).run Tryd.prog (w.alloc (.cells #[.int .u8 z] 5)) = .ok (.slice A' (n + 1) c') w' ∧
      OwnB w' w0.heap.size A' (n + 1) c' (x :: l) ∧ Below w0.heap.size w0 w' := by
  subst hz
  have hsz := hb.size
  have own1 : OwnB (w.alloc (.cells #[.int .u8 (x.toNat : Int)] 5)) w0.heap.size (some ⟨w.heap.size, 0, none⟩) 1 1 [x] := OwnB.lit hsz rfl [x] 1 _ rfl (by omega) rfl
  obtain ⟨A2, c2, w2, hrun, own2, hg2, _⟩ := run_append8 (P := Tryd.prog) 22 22 Tryd.underlying22 u8_info own1 (own.bs.alloc (.cells #[.int .u8 (x.toNat : Int)] 5)) n c own.len (by omega) (by simp; omega)
  rw [Nat.add_comm 1 n] at hrun own2
  exact ⟨A2, c2, w2, hrun, own2, own1.bel (hb.alloc hsz _) hg2 (by simp; omega)⟩
/-- An append onto a row whose block is not among the first B0 ones. -/
theorem app_far {W : World} {base n c B0 : Nat} {A X : Option Addr} {l m : List UInt8} (own : OwnB W base A n c l) (hblk : ∀ b, blk A = some b → B0 ≤ b) (hB0 : B0 ≤ W.heap.size) (src : BS W X m) (k e : Nat) (hk : m.length = k) (hlen : n + k ≤ 4294967296) (hbase : base ≤ W.heap.size) :
    ∃ A' c' w', (Builtin.append_ #[22, 22] 22 #[.slice A n c, .slice X k e]).run Tryd.prog W = .ok (.slice A' (n + k) c') w' ∧ OwnB w' base A' (n + k) c' (l ++ m) ∧ W.grownBy w' (blk A) ∧ (∀ b, blk A' = some b → B0 ≤ b) := by
  obtain ⟨A', c', w', hrun, own', hg, hat⟩ := run_append8 (P := Tryd.prog) 22 22 Tryd.underlying22 u8_info own src k e hk hlen hbase
  refine ⟨A', c', w', hrun, own', hg, fun b hb => ?_⟩
  rcases hat with h | h
  · exact hblk b (h.symm.trans hb)
  · rw [hb] at h
    injection h with h
    omega
theorem BS.farB {W w' : World} {X : Option Addr} {m : List UInt8} {B0 : Nat} {row : Option Nat} (h : BS W X m) (hX : ∀ b, blk X = some b → b < B0) (hg : W.grownBy w' row) (hr : ∀ b, row = some b → B0 ≤ b) : BS w' X m :=
  h.grown hg fun k hk e => by have := hX k hk; have := hr k e; omega
/-- What stands behind three appends. -/
def Three (wr : World) (base : Nat) (X Y : Option Addr) (n1 c1 n2 c2 n : Nat) (t : List UInt8) (W1 : World) (g : Nat) (W2 : World → World) (q2 : World → Nat) : Prop :=
  ∃ A2 e2 w2 A3 e3 w3 A4 e4 w4, (Builtin.append_ #[22, 22] 22 #[.slice (some ⟨g, 0, none⟩) 0 0, .slice X n1 c1]).run Tryd.prog W1 = .ok (.slice A2 n1 e2) w2 ∧
    (Builtin.append_ #[22, 22] 22 #[.slice A2 n1 e2, .slice (some ⟨q2 w2, 0, none⟩) 1 1]).run Tryd.prog (W2 w2) = .ok (.slice A3 (n1 + 1) e3) w3 ∧
    (Builtin.append_ #[22, 22] 22 #[.slice A3 (n1 + 1) e3, .slice Y n2 c2]).run Tryd.prog w3 = .ok (.slice A4 n e4) w4 ∧ OwnB w4 base A4 n e4 t ∧ Below base wr w4
abbrev eRow : Obj := .cells #[] 5
abbrev dRow : Obj := .cells #[.int .u8 46] 5
theorem BS.dot (w : World) (g : Nat) (hg : w.heap.size = g) : BS (w.alloc dRow) (some ⟨g, 0, none⟩) [46] := BS.lit hg [46] _ _ (0, 0) rfl
section
variable {wr : World} {base n1 c1 n2 c2 n : Nat} {X Y : Option Addr} {m1 m2 : List UInt8}
theorem three_a (hX : BS wr X m1) (hY : BS wr Y m2) (bX : ∀ b, blk X = some b → b < wr.heap.size) (bY : ∀ b, blk Y = some b → b < wr.heap.size) (h1 : m1.length = n1) (h2 : m2.length = n2) (hn : n = n1 + 1 + n2) (hs : n1 + n2 ≤ 4294967200) (hb : base ≤ wr.heap.size) :
    Three wr base X Y n1 c1 n2 c2 n (m1 ++ [46] ++ m2) (wr.alloc eRow).drew wr.heap.size (fun w2 => w2.alloc dRow) (fun w2 => w2.heap.size) := by
  subst hn
  have own0 : OwnB (wr.alloc eRow).drew base (some ⟨wr.heap.size, 0, none⟩) 0 0 [] := OwnB.empty wr hb rfl
  obtain ⟨A2, e2, w2, r2, o2, g2, f2⟩ := app_far own0 (B0 := wr.heap.size) (fun b e => by injection e with e; have e : wr.heap.size = b := e; omega) (by show _ ≤ (wr.alloc eRow).heap.size; simp) ((hX.alloc eRow).drew) n1 c1 h1 (by omega) (by show _ ≤ (wr.alloc eRow).heap.size; simp; omega)
  rw [Nat.zero_add] at r2 o2
  have s2 := g2.size
  have s2' : wr.heap.size + 1 ≤ w2.heap.size := by have : (wr.alloc eRow).heap.size ≤ w2.heap.size := s2; simpa using this
  have Y2 : BS w2 Y m2 := ((hY.alloc eRow).drew).farB bY g2 (fun b e => by injection e with e; have e : wr.heap.size = b := e; omega)
  obtain ⟨A3, e3, w3, r3, o3, g3, f3⟩ := app_far (o2.alloc dRow) (B0 := wr.heap.size) f2 (by simp; omega) (BS.dot w2 _ rfl) 1 1 rfl (by omega) (by simp; omega)
  have s3 := g3.size
  have s3' : w2.heap.size + 1 ≤ w3.heap.size := by simpa using s3
  have Y3 : BS w3 Y m2 := (Y2.alloc dRow).farB bY g3 f2
  obtain ⟨A4, e4, w4, r4, o4, g4, f4⟩ := app_far o3 (B0 := wr.heap.size) f3 (by omega) Y3 n2 c2 h2 (by omega) (by omega)
  have b1 : Below base wr (wr.alloc eRow).drew := below_drewN ((Below.refl _ _).alloc hb eRow) 1
  have z1 : base ≤ (wr.alloc eRow).drew.heap.size := by show _ ≤ (wr.alloc eRow).heap.size; simp; omega
  have b2 := b1.grown g2 z1 (fun b e => by injection e with e; have e : wr.heap.size = b := e; omega)
  have b3 := (b2.alloc (by omega) dRow).grown g3 (by simp; omega) (fun b e => by have := f2 b e; omega)
  have b4 := b3.grown g4 (by omega) (fun b e => by have := f3 b e; omega)
  exact ⟨A2, e2, w2, A3, e3, w3, A4, e4, w4, r2, r3, r4, o4, b4⟩
theorem three_b (hX : BS wr X m1) (hY : BS wr Y m2) (bX : ∀ b, blk X = some b → b < wr.heap.size) (bY : ∀ b, blk Y = some b → b < wr.heap.size) (h1 : m1.length = n1) (h2 : m2.length = n2) (hn : n = n1 + 1 + n2) (hs : n1 + n2 ≤ 4294967200) (hb : base ≤ wr.heap.size) :
    Three wr base X Y n1 c1 n2 c2 n (m1 ++ [46] ++ m2) ((wr.alloc eRow).alloc dRow).drew wr.heap.size (fun w2 => w2) (fun _ => wr.heap.size + 1) := by
  subst hn
  have zz : ((wr.alloc eRow).alloc dRow).heap.size = wr.heap.size + 2 := by simp
  have own0 : OwnB ((wr.alloc eRow).alloc dRow).drew base (some ⟨wr.heap.size, 0, none⟩) 0 0 [] := (OwnB.empty wr hb rfl).alloc dRow
  obtain ⟨A2, e2, w2, r2, o2, g2, f2⟩ := app_far own0 (B0 := wr.heap.size) (fun b e => by injection e with e; have e : wr.heap.size = b := e; omega) (by show _ ≤ ((wr.alloc eRow).alloc dRow).heap.size; omega) (((hX.alloc eRow).alloc dRow).drew) n1 c1 h1 (by omega) (by show _ ≤ ((wr.alloc eRow).alloc dRow).heap.size; omega)
  rw [Nat.zero_add] at r2 o2
  have s2' : wr.heap.size + 2 ≤ w2.heap.size := by have : ((wr.alloc eRow).alloc dRow).heap.size ≤ w2.heap.size := g2.size; omega
  have Y2 : BS w2 Y m2 := (((hY.alloc eRow).alloc dRow).drew).farB bY g2 (fun b e => by injection e with e; have e : wr.heap.size = b := e; omega)
  have hd0 : BS ((wr.alloc eRow).alloc dRow) (some ⟨wr.heap.size + 1, 0, none⟩) [46] := BS.dot _ _ (by simp)
  have D2 : BS w2 (some ⟨wr.heap.size + 1, 0, none⟩) [46] := (hd0.drew).grown g2 (fun k hk e => by
    injection hk with hk
    injection e with e
    have hk : wr.heap.size + 1 = k := hk
    have e : wr.heap.size = k := e
    omega)
  obtain ⟨A3, e3, w3, r3, o3, g3, f3⟩ := app_far o2 (B0 := wr.heap.size) f2 (by omega) D2 1 1 rfl (by omega) (by omega)
  have s3 := g3.size
  have Y3 : BS w3 Y m2 := Y2.farB bY g3 f2
  obtain ⟨A4, e4, w4, r4, o4, g4, f4⟩ := app_far o3 (B0 := wr.heap.size) f3 (by omega) Y3 n2 c2 h2 (by omega) (by omega)
  have b1 : Below base wr ((wr.alloc eRow).alloc dRow).drew := below_drewN (((Below.refl _ _).alloc hb eRow).alloc (by simp; omega) dRow) 1
  have z1 : base ≤ ((wr.alloc eRow).alloc dRow).drew.heap.size := by show _ ≤ ((wr.alloc eRow).alloc dRow).heap.size; omega
  have b2 := b1.grown g2 z1 (fun b e => by injection e with e; have e : wr.heap.size = b := e; omega)
  have b3 := b2.grown g3 (by omega) (fun b e => by have := f2 b e; omega)
  have b4 := b3.grown g4 (by omega) (fun b e => by have := f3 b e; omega)
  exact ⟨A2, e2, w2, A3, e3, w3, A4, e4, w4, r2, r3, r4, o4, b4⟩
theorem three_c (hX : BS wr X m1) (hY : BS wr Y m2) (bX : ∀ b, blk X = some b → b < wr.heap.size) (bY : ∀ b, blk Y = some b → b < wr.heap.size) (h1 : m1.length = n1) (h2 : m2.length = n2) (hn : n = n1 + 1 + n2) (hs : n1 + n2 ≤ 4294967200) (hb : base ≤ wr.heap.size) :
    Three wr base X Y n1 c1 n2 c2 n (m1 ++ [46] ++ m2) ((wr.alloc dRow).alloc eRow).drew (wr.heap.size + 1) (fun w2 => w2) (fun _ => wr.heap.size) := by
  subst hn
  have zz : ((wr.alloc dRow).alloc eRow).heap.size = wr.heap.size + 2 := by simp
  have own0 : OwnB ((wr.alloc dRow).alloc eRow).drew base (some ⟨wr.heap.size + 1, 0, none⟩) 0 0 [] := OwnB.empty (wr.alloc dRow) (by simp; omega) (by simp)
  obtain ⟨A2, e2, w2, r2, o2, g2, f2⟩ := app_far own0 (B0 := wr.heap.size) (fun b e => by injection e with e; have e : wr.heap.size + 1 = b := e; omega) (by show _ ≤ ((wr.alloc dRow).alloc eRow).heap.size; omega) (((hX.alloc dRow).alloc eRow).drew) n1 c1 h1 (by omega) (by show _ ≤ ((wr.alloc dRow).alloc eRow).heap.size; omega)
  rw [Nat.zero_add] at r2 o2
  have s2' : wr.heap.size + 2 ≤ w2.heap.size := by have : ((wr.alloc dRow).alloc eRow).heap.size ≤ w2.heap.size := g2.size; omega
  have Y2 : BS w2 Y m2 := (((hY.alloc dRow).alloc eRow).drew).farB bY g2 (fun b e => by injection e with e; have e : wr.heap.size + 1 = b := e; omega)
  have hd0 : BS ((wr.alloc dRow).alloc eRow) (some ⟨wr.heap.size, 0, none⟩) [46] := (BS.dot wr _ rfl).alloc eRow
  have D2 : BS w2 (some ⟨wr.heap.size, 0, none⟩) [46] := (hd0.drew).grown g2 (fun k hk e => by
    injection hk with hk
    injection e with e
    have hk : wr.heap.size = k := hk
    have e : wr.heap.size + 1 = k := e
    omega)
  obtain ⟨A3, e3, w3, r3, o3, g3, f3⟩ := app_far o2 (B0 := wr.heap.size) f2 (by omega) D2 1 1 rfl (by omega) (by omega)
  have s3 := g3.size
  have Y3 : BS w3 Y m2 := Y2.farB bY g3 f2
  obtain ⟨A4, e4, w4, r4, o4, g4, f4⟩ := app_far o3 (B0 := wr.heap.size) f3 (by omega) Y3 n2 c2 h2 (by omega) (by omega)
  have b1 : Below base wr ((wr.alloc dRow).alloc eRow).drew := below_drewN (((Below.refl _ _).alloc hb dRow).alloc (by simp; omega) eRow) 1
  have z1 : base ≤ ((wr.alloc dRow).alloc eRow).drew.heap.size := by show _ ≤ ((wr.alloc dRow).alloc eRow).heap.size; omega
  have b2 := b1.grown g2 z1 (fun b e => by injection e with e; have e : wr.heap.size + 1 = b := e; omega)
  have b3 := b2.grown g3 (by omega) (fun b e => by have := f2 b e; omega)
  have b4 := b3.grown g4 (by omega) (fun b e => by have := f3 b e; omega)
  exact ⟨A2, e2, w2, A3, e3, w3, A4, e4, w4, r2, r3, r4, o4, b4⟩
end
theorem pointed_zero (n : Nat) (w : World) (hn : n ≤ 1000000000000000) :
    Calls Tryd.prog 6 #[.int .u64 (n : Int), .int .i64 0] w (OwnRet (pointed n 0) w) := by
  go_enter Tryd.func6, Tryd.ntmps6
  go_wp2_with fail
  refine (decimal_any n _ (by omega)).mono ?_
  rintro e w1 ⟨A1, c1, rfl, own, hB⟩
  have hlen : (dec n).length ≤ 16 := dec_len_le 15 n (by simp only [Nat.reduceAdd, Nat.reducePow]; omega)
  have hlen0 := dec_ne n
  obtain ⟨L, hL⟩ : ∃ L, (dec n).length = L := ⟨_, rfl⟩
  rw [hL] at own hlen hlen0
  have Hd := hide hL
  have Hown := hide own
  have HB := hide hB
  clear own hB hL
  rw [Hd.out]
  go_wp2
  go_loopw [5] (fun v wr => v = .slice A1 L c1 ∧ wr = w1) (fun _ _ => 0)
  case atStart => exact ⟨rfl, rfl⟩
  case round =>
    obtain ⟨rfl, rfl⟩ := hrel
    have hl0 : ¬ (L : Int) ≤ 0 := by omega
    go_wp2
    go_ret
    exact ⟨A1, c1, by rw [show pointed n 0 = dec n from rfl, Hd.out]; rfl, by rw [show pointed n 0 = dec n from rfl, Hd.out]; exact Hown.out, HB.out⟩
set_option maxHeartbeats 1000000 in
theorem pointed_any (n d : Nat) (w : World) (hn : n ≤ 1000000000000000) (hd : d ≤ 20) :
    Calls Tryd.prog 6 #[.int .u64 (n : Int), .int .i64 (d : Int)] w (OwnRet (pointed n d) w) := by
  by_cases hd0 : 0 < d
  · go_enter Tryd.func6, Tryd.ntmps6
    go_wp2_with fail
    refine (decimal_any n _ (by omega)).mono ?_
    rintro e w1 ⟨A1, c1, rfl, own, hB⟩
    have hlen : (dec n).length ≤ 16 := dec_len_le 15 n (by simp only [Nat.reduceAdd, Nat.reducePow]; omega)
    have hlen0 := dec_ne n
    obtain ⟨L, hL⟩ : ∃ L, (dec n).length = L := ⟨_, rfl⟩
    rw [hL] at own hlen hlen0
    have Hd := hide hL
    have Hown := hide own
    have HB := hide hB
    clear own hB hL
    rw [Hd.out]
    go_wp2
    go_loopw [5] (fun v wr => ∃ (k : Nat) (A : Option Addr) (c : Nat), L ≤ k ∧ k ≤ max L (d + 1) ∧ v = .slice A k c ∧ Hid (OwnB wr w.heap.size A k c (List.replicate (k - L) 48 ++ dec n)) ∧ Hid (Below w.heap.size w wr))
      (fun v _ => match v with | .slice _ k _ => 100 - k | _ => 0)
    case atStart => exact ⟨L, A1, c1, Nat.le_refl _, by omega, rfl, hide (by have := Hown.out; simpa using this), HB⟩
    case round =>
      obtain ⟨k, A, c, hk, hk2, rfl, own, hbel⟩ := hrel
      by_cases hlt : k ≤ d
      · obtain ⟨A2, c2, w2, hrun, own2, hB2⟩ := cons8 own.out hbel.out 48 48 rfl (by omega)
        have Hrun := hide hrun
        have Hown2 := hide (show OwnB w2 w.heap.size A2 (k + 1) c2 (List.replicate (k + 1 - L) 48 ++ dec n) by
          rw [show k + 1 - L = k - L + 1 by omega, List.replicate_succ]
          exact own2)
        have HB2 := hide hB2
        clear hrun own2 hB2
        go_wp2_with (at_builtin; (with_reducible refine wpList_append_runG Hrun.out _ _ ?_ rfl rfl ?_ ?_ ?_); (rfl); (rfl); (rfl))
        go_roundw
        case rel => exact ⟨k + 1, A2, c2, by omega, by omega, rfl, Hown2, HB2⟩
        case measure => show 100 - (k + 1) < 100 - k; omega
      · obtain ⟨at_, hat⟩ : ∃ at_, k - d = at_ := ⟨_, rfl⟩
        have hatI : (k : Int) - (d : Int) = (at_ : Int) := by omega
        have hdz : ((d : Int) == 0) = false := by rw [beq_eq_false_iff_ne]; omega
        have hkc := own.out.le.1
        have hkl := own.out.len
        have hac : at_ ≤ c := by omega
        have hak : at_ ≤ k := by omega
        have hkd : k - at_ = d := by omega
        have hsz := hbel.out.size
        have hlt := own.out.blk_lt
        have hkm : k = max L (d + 1) := by omega
        have hX := own.out.bs.take at_
        have hY := lo_bs own.out.bs c at_ (by omega)
        have h1 : ((List.replicate (k - L) 48 ++ dec n).take at_).length = at_ := by simp only [List.length_take]; omega
        have h2 : ((List.replicate (k - L) 48 ++ dec n).drop at_).length = d := by simp only [List.length_drop]; omega
        have hP : padded n (d + 1) = List.replicate (k - L) 48 ++ dec n := by
          unfold padded
          rw [Hd.out, show d + 1 - L = k - L by omega]
        have hres : pointed n d = (List.replicate (k - L) 48 ++ dec n).take at_ ++ [46] ++ (List.replicate (k - L) 48 ++ dec n).drop at_ := by
          unfold pointed
          rw [if_neg (by omega), hP, hkl, hat, List.append_assoc]
          rfl
        have bX : ∀ b, blk A = some b → b < wr.heap.size := hlt
        have bY : ∀ b, blk (loA A c at_) = some b → b < wr.heap.size := fun b hb => hlt b (by rw [← loA_blk A c at_]; exact hb)
        obtain ⟨A2, e2, w2, A3, e3, w3, A4, e4, w4, ra2, ra3, ra4, oa, ba⟩ := three_a (c1 := c) (c2 := c - at_) hX hY bX bY h1 h2 (show k + 1 = at_ + 1 + d by omega) (by omega) hsz
        obtain ⟨B2, f2, x2, B3, f3, x3, B4, f4, x4, rb2, rb3, rb4, ob, bb⟩ := three_b (c1 := c) (c2 := c - at_) hX hY bX bY h1 h2 (show k + 1 = at_ + 1 + d by omega) (by omega) hsz
        obtain ⟨C2, g2, y2, C3, g3, y3, C4, g4, y4, rc2, rc3, rc4, oc, bc⟩ := three_c (c1 := c) (c2 := c - at_) hX hY bX bY h1 h2 (show k + 1 = at_ + 1 + d by omega) (by omega) hsz
        rw [← hres] at oa ob oc
        have Ra2 := hide ra2
        have Ra3 := hide ra3
        have Ra4 := hide ra4
        have Rb2 := hide rb2
        have Rb3 := hide rb3
        have Rb4 := hide rb4
        have Rc2 := hide rc2
        have Rc3 := hide rc3
        have Rc4 := hide rc4
        have Oa := hide (And.intro oa ba)
        have Ob := hide (And.intro ob bb)
        have Oc := hide (And.intro oc bc)
        have Hl := hide oa.len
        clear ra2 ra3 ra4 rb2 rb3 rb4 rc2 rc3 rc4 oa ob oc ba bb bc hat hkl hres hP h1 h2 hX hY hlt bX bY own hkm hsz
        go_upto_region 7 with (fail)
        go_region_law (first
          | ((with_reducible refine step_append_runG Ra2.out _ _ ?_ rfl rfl ?_ ?_ ?_); (rfl); (rfl); (rfl))
          | ((with_reducible refine step_append_runG Ra3.out _ _ ?_ rfl rfl ?_ ?_ ?_); (rfl); (rfl); (rfl))
          | ((with_reducible refine step_append_runG Ra4.out _ _ ?_ rfl rfl ?_ ?_ ?_); (rfl); (rfl); (rfl))
          | ((with_reducible refine step_append_runG Rb2.out _ _ ?_ rfl rfl ?_ ?_ ?_); (rfl); (rfl); (rfl))
          | ((with_reducible refine step_append_runG Rb3.out _ _ ?_ rfl rfl ?_ ?_ ?_); (rfl); (rfl); (rfl))
          | ((with_reducible refine step_append_runG Rb4.out _ _ ?_ rfl rfl ?_ ?_ ?_); (rfl); (rfl); (rfl))
          | ((with_reducible refine step_append_runG Rc2.out _ _ ?_ rfl rfl ?_ ?_ ?_); (rfl); (rfl); (rfl))
          | ((with_reducible refine step_append_runG Rc3.out _ _ ?_ rfl rfl ?_ ?_ ?_); (rfl); (rfl); (rfl))
          | ((with_reducible refine step_append_runG Rc4.out _ _ ?_ rfl rfl ?_ ?_ ?_); (rfl); (rfl); (rfl)))
        all_goals go_wp2
        all_goals go_ret
        all_goals first
          | exact ⟨A4, e4, by rw [Hl.out]; rfl, by rw [Hl.out]; exact Oa.out.1, hbel.out.trans Oa.out.2⟩
          | exact ⟨B4, f4, by rw [Hl.out]; rfl, by rw [Hl.out]; exact Ob.out.1, hbel.out.trans Ob.out.2⟩
          | exact ⟨C4, g4, by rw [Hl.out]; rfl, by rw [Hl.out]; exact Oc.out.1, hbel.out.trans Oc.out.2⟩
  · obtain rfl : d = 0 := by omega
    exact pointed_zero n w hn
end Go.Proofs.YtggemljdmoegnaaDoor
