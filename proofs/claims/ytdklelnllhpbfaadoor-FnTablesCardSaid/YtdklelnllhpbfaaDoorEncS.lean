/- The reference's writing of bytes by their numbers. Condition: the texts are shorter than 2^31. -/
import Derived.Test.YtdklelnllhpbfaaDoorHexSet
import Derived.Test.YtdklelnllhpbfaaDoorSnoc
import Derived.Deep.RegionLaw
namespace Go.Proofs.YtdklelnllhpbfaaDoor
open Go.RowKit
set_option linter.unusedVariables false

theorem eno_no {f : UInt8 → Bool} {l out t : List UInt8} {k : Nat} {d : UInt8} (h0 : l[k]? = some d) (hf : f d = false) (ht : out ++ enc f (l.drop k) = t) : (out ++ [d]) ++ enc f (l.drop (k + 1)) = t := by
  rw [enc_no h0 hf] at ht
  rw [List.append_assoc]
  exact ht
theorem eno_yes {f : UInt8 → Bool} {l out t : List UInt8} {k : Nat} {d : UInt8} (h0 : l[k]? = some d) (hf : f d = true) (ht : out ++ enc f (l.drop k) = t) : (out ++ [37, encH d, encL d]) ++ enc f (l.drop (k + 1)) = t := by
  rw [enc_yes h0 hf] at ht
  rw [List.append_assoc]
  exact ht
theorem eno_end {f : UInt8 → Bool} {l out t : List UInt8} {k : Nat} (hl : l.length ≤ k) (ht : out ++ enc f (l.drop k) = t) : out = t := by
  rw [List.drop_of_length_le hl, enc, List.append_nil] at ht
  exact ht
def hexText : ByteArray := { data := #[48, 49, 50, 51, 52, 53, 54, 55, 56, 57, 65, 66, 67, 68, 69, 70] }
theorem hex_at (n : Nat) (h : n < 16) (P : Program) (t : TypeId) (hu : P.underlying t = some .string) (k : IntKind) (w : World) : (Instr.index t (.string hexText) (.int k (n : Int))).run P w = .ok (.int .u8 ((hexD n).toNat : Int)) w := by
  rw [run_index_string w t hexText k n hu, dif_pos ⟨by omega, by show (n : Int) < 16; omega⟩]
  have : (List.range 16).all (fun n => hexText[n]! == hexD n) = true := by decide +kernel
  have h2 := List.all_eq_true.1 this n (List.mem_range.2 h)
  rw [beq_iff_eq] at h2
  have h3 : n < hexText.size := h
  rw [getElem!_pos hexText n h3] at h2
  rw [← h2]
  rfl
theorem and15_all : (List.range 256).all (fun n => bits BinOp.and IntKind.u8 (n : Int) 15 == ((n % 16 : Nat) : Int)) = true := by decide +kernel
theorem and15 (d : UInt8) : bits BinOp.and IntKind.u8 (d.toNat : Int) 15 = ((d.toNat % 16 : Nat) : Int) := by
  have := List.all_eq_true.1 and15_all d.toNat (List.mem_range.2 d.toNat_lt)
  simpa using this
theorem hex_hi (d : UInt8) (P : Program) (t : TypeId) (hu : P.underlying t = some .string) (w : World) : (Instr.index t (.string hexText) (.int .u8 ((d.toNat : Int) / 16))).run P w = .ok (.int .u8 ((encH d).toNat : Int)) w :=
  hex_at (d.toNat / 16) (by have := d.toNat_lt; omega) P t hu .u8 w
theorem hex_lo (d : UInt8) (P : Program) (t : TypeId) (hu : P.underlying t = some .string) (w : World) : (Instr.index t (.string hexText) (.int .u8 (bits BinOp.and IntKind.u8 (d.toNat : Int) 15))).run P w = .ok (.int .u8 ((encL d).toNat : Int)) w := by
  rw [and15]
  exact hex_at (d.toNat % 16) (by omega) P t hu .u8 w
/-- Three bytes behind a row of the call's own, behind a draw. -/
theorem snoc3D {w0 w : World} {A : Option Addr} {n c : Nat} {l : List UInt8} (own : OwnB w w0.heap.size A n c l) (hb : Below w0.heap.size w0 w) (x y z : UInt8) (hl : n + 3 ≤ 4294967296) :
    ∃ A' c' w', (Builtin.append_ #[22, 22] 22 #[.slice A n c, .slice (some ⟨w.heap.size, 0, none⟩) 3 3]).run Tryd.prog (w.alloc (.cells #[.int .u8 (x.toNat : Int), .int .u8 (y.toNat : Int), .int .u8 (z.toNat : Int)] 5)).drew = .ok (.slice A' (n + 3) c') w' ∧
      OwnB w' w0.heap.size A' (n + 3) c' (l ++ [x, y, z]) ∧ Below w0.heap.size w0 w' := by
  have hsz := hb.size
  obtain ⟨A2, c2, w2, hrun, own2, hg2, _⟩ := run_append8 (P := Tryd.prog) 22 22 Tryd.underlying22 u8_info (own.alloc (.cells #[.int .u8 (x.toNat : Int), .int .u8 (y.toNat : Int), .int .u8 (z.toNat : Int)] 5)).drew (BS.lit rfl [x, y, z] _ 5 (0, 0) rfl).drew 3 3 rfl (by omega) (by simp; omega)
  exact ⟨A2, c2, w2, hrun, own2, (own.alloc (.cells #[.int .u8 (x.toNat : Int), .int .u8 (y.toNat : Int), .int .u8 (z.toNat : Int)] 5)).drew.bel (hb.alloc hsz _).drew hg2 (by simp; omega)⟩
/-- What it returns. -/
def EncSRet (f : UInt8 → Bool) (l : List UInt8) (w : World) (e : Ending) (w' : World) : Prop := ∃ A' c', e = .returned (.slice A' (enc f l).length c') ∧ BS w' A' (enc f l) ∧ Below w.heap.size w w'

set_option maxHeartbeats 1000000 in
theorem encS_any (A B : Option Addr) (l s : List UInt8) (c c' : Nat) (w : World) (hl : BS w A l) (hs : BS w B s) (h1 : l.length ≤ 2147483647) (h2 : s.length ≤ 2147483647) (h3 : l.length ≤ 5000) :
    Calls Tryd.prog 8 #[.slice A l.length c, .slice B s.length c'] w (EncSRet (fun c => hasB c s) l w) := by
  go_enter Tryd.func8, Tryd.ntmps8
  go_wp2
  go_loopw [5, 11] (fun v i wr => ∃ (k n : Nat) (A' : Option Addr) (c' : Nat) (out : List UInt8), n ≤ 3 * k ∧ k ≤ l.length ∧ i = .int .i64 k ∧ v = .slice A' n c' ∧ OwnB wr w.heap.size A' n c' out ∧ Hid (out ++ enc (fun c => hasB c s) (l.drop k) = enc (fun c => hasB c s) l) ∧ Below w.heap.size w wr)
    (fun _ i _ => l.length - (intOf i).toNat)
  case atStart => exact ⟨0, 0, _, _, [], Nat.zero_le _, Nat.zero_le _, rfl, rfl, OwnB.empty w (Nat.le_refl _) rfl, hide rfl, (Below.refl _ _).alloc (Nat.le_refl _) _⟩
  case round =>
    obtain ⟨k, n, A', c', out, hnk, hk, rfl, rfl, own, ho, hbel⟩ := hrel
    by_cases hlt : k < l.length
    · obtain ⟨d, hd⟩ : ∃ x, l[k]? = some x := ⟨_, List.getElem?_eq_getElem hlt⟩
      have hsb := hl.below hbel
      have hss := hide (hs.below hbel)
      obtain ⟨b1, o1, rfl, cell0⟩ := hsb.at_ hd
      cases hb : hasB d s with
      | false =>
        obtain ⟨A2, c2, w2, hrun, own2, hbel2⟩ := snoc8 own hbel d (by omega)
        have Hrun := hide hrun
        have Ho2 := hide (eno_no (f := fun c => hasB c s) hd hb ho.out)
        have Hb := hide hb
        clear hrun hd hb hbel own ho hsb
        go_wp2_with (first
          | (go_at_call 9; (with_reducible refine (has_n _ _ _ _ d _ false _ rfl rfl Hb.out hss.out h2).mono ?_); rintro e w' ⟨rfl, rfl⟩)
          | (at_builtin; (with_reducible refine wpList_append_runG Hrun.out _ _ ?_ rfl rfl ?_ ?_ ?_); (rfl); (rfl); (rfl)))
        go_roundw
        case rel => exact ⟨k + 1, n + 1, A2, c2, _, by omega, by omega, by go_num, rfl, own2, Ho2, hbel2⟩
        case measure => simp [intOf]; omega
      | true =>
        obtain ⟨A2, c2, w2, hrun, own2, hbel2⟩ := snoc3D own hbel 37 (encH d) (encL d) (by omega)
        have Hrun := hide hrun
        have Ho2 := hide (eno_yes (f := fun c => hasB c s) hd hb ho.out)
        have Hb := hide hb
        have hd256 := d.toNat_lt
        have X1 := hex_hi d Tryd.prog 9 Tryd.underlying9
        have X2 := hex_lo d Tryd.prog 9 Tryd.underlying9
        unfold hexText at X1 X2
        clear hrun hd hb hbel own ho hsb
        go_wp2_with (go_at_call 9; (with_reducible refine (has_n _ _ _ _ d _ true _ rfl rfl Hb.out hss.out h2).mono ?_); rintro e w' ⟨rfl, rfl⟩)
        go_region_law ((with_reducible refine step_append_runG Hrun.out _ _ ?_ rfl rfl ?_ ?_ ?_); (rfl); (rfl); (rfl))
        go_wp2
        go_roundw
        case rel => exact ⟨k + 1, n + 3, A2, c2, _, by omega, by omega, by go_num, rfl, own2, Ho2, hbel2⟩
        case measure => simp [intOf]; omega
        all_goals exact ⟨⟨k + 1, n + 3, A2, c2, _, by omega, by omega, by go_num, rfl, own2, Ho2, hbel2⟩, by simp [intOf]; omega⟩
    · have Ho := ho.out
      have hout := eno_end (by omega) Ho
      subst hout
      have e := own.1
      have Own := hide own
      clear own ho Ho
      go_wp2
      go_ret
      exact ⟨_, _, by rw [e]; rfl, Own.out.bs, hbel⟩
end Go.Proofs.YtdklelnllhpbfaaDoor
