/- The reference's pieces that are written by a number in hexadecimal. Conditions: as for the others. -/
import Derived.Test.YtnepjlfkbmindaaDoorPc2
namespace Go.Proofs.YtnepjlfkbmindaaDoor
open Go.RowKit
set_option linter.unusedVariables false
set_option linter.unusedSimpArgs false

def hexLow : ByteArray := { data := #[48, 49, 50, 51, 52, 53, 54, 55, 56, 57, 97, 98, 99, 100, 101, 102] }
theorem hexl_at (n : Nat) (h : n < 16) (P : Program) (t : TypeId) (hu : P.underlying t = some .string) (k : IntKind) (w : World) : (Instr.index t (.string hexLow) (.int k (n : Int))).run P w = .ok (.int .u8 ((hexC n).toNat : Int)) w := by
  rw [run_index_string w t hexLow k n hu, dif_pos ⟨by omega, by show (n : Int) < 16; omega⟩]
  have : (List.range 16).all (fun n => hexLow[n]! == hexC n) = true := by decide +kernel
  have h2 := List.all_eq_true.1 this n (List.mem_range.2 h)
  rw [beq_iff_eq] at h2
  have h3 : n < hexLow.size := h
  rw [getElem!_pos hexLow n h3] at h2
  rw [← h2]
  rfl
theorem and15l_all : (List.range 256).all (fun n => bits BinOp.and IntKind.u8 (n : Int) 15 == ((n % 16 : Nat) : Int)) = true := by decide +kernel
theorem and15l (d : UInt8) : bits BinOp.and IntKind.u8 (d.toNat : Int) 15 = ((d.toNat % 16 : Nat) : Int) := by
  have := List.all_eq_true.1 and15l_all d.toNat (List.mem_range.2 d.toNat_lt)
  simpa using this
theorem hexl_hi (d : UInt8) (P : Program) (t : TypeId) (hu : P.underlying t = some .string) (w : World) : (Instr.index t (.string hexLow) (.int .u8 ((d.toNat : Int) / 16))).run P w = .ok (.int .u8 ((hexC (d.toNat / 16)).toNat : Int)) w :=
  hexl_at (d.toNat / 16) (by have := d.toNat_lt; omega) P t hu .u8 w
theorem hexl_lo (d : UInt8) (P : Program) (t : TypeId) (hu : P.underlying t = some .string) (w : World) : (Instr.index t (.string hexLow) (.int .u8 (bits BinOp.and IntKind.u8 (d.toNat : Int) 15))).run P w = .ok (.int .u8 ((hexC (d.toNat % 16)).toNat : Int)) w := by
  rw [and15l]
  exact hexl_at (d.toNat % 16) (by omega) P t hu .u8 w
theorem below_drew {B : Nat} {a w : World} (h : Below B a w) : Below B a w.drew := below_drewN h 1
theorem below_alloc {a w : World} (h : Below a.heap.size a w) (o : Obj) : Below a.heap.size a (w.alloc o) := h.alloc h.size o
set_option maxRecDepth 100000 in
set_option maxHeartbeats 2000000 in
theorem piece3 (kn : Nat) (A1 A2 A3 : Option Addr) (c1 c2 c3 nw nn : Nat) (nt : NT) (W0 w : World) (hk : (kn : Int) ≤ 9223372036854775807) (h4 : kn % 4 = 3) :
    Calls Tryd.prog 6 #[.int .i64 (kn : Int), .slice A1 nw c1, .slice A2 nn c2, .slice A3 nn c3] w (PcRet nt W0 w) := by
  have e0 : ((kn : Int) % 4 == 0) = false := by rw [beq_eq_false_iff_ne]; omega
  have e1 : ((kn : Int) % 4 == 1) = false := by rw [beq_eq_false_iff_ne]; omega
  have e2 : ((kn : Int) % 4 == 2) = false := by rw [beq_eq_false_iff_ne]; omega
  obtain ⟨ch, hch, hchI⟩ := letter_of kn
  have h256 := ch.toNat_lt
  have h122 := hch.2
  have Hch := hide hch
  have X1 := hexl_hi ch Tryd.prog 9 Tryd.underlying9
  have X2 := hexl_lo ch Tryd.prog 9 Tryd.underlying9
  unfold hexLow at X1 X2
  clear h4 hch
  go_enter Tryd.func6, Tryd.ntmps6
  go_wp2
  go_region
  all_goals
    go_wp2
    go_ret3
    have he : IsEnt nt (38 :: 35 :: 120 :: ([hexC (ch.toNat / 16), hexC (ch.toNat % 16)] ++ [59])) [ch] := .hex ch Hch.out
    obtain ⟨q1, q2, q3⟩ := one_ent he
    refine ⟨_, _, 6, 6, 1, 1, true, rfl, ?_, fun _ => ⟨[.ent _ [ch]], ?_, by rw [q1]; rfl, by omega, ?_, by rw [q2]; rfl, by omega, q3, .inr ?_⟩⟩
    · (repeat (first | (with_reducible exact Below.refl _ _) | (with_reducible refine below_drew ?_) | (with_reducible refine below_alloc ?_ _)))
    · rw [q1]; (repeat (first | exact BS.lit (by first | rfl | (simp; done) | (simp [World.drew]; done)) (38 :: 35 :: 120 :: ([hexC (ch.toNat / 16), hexC (ch.toNat % 16)] ++ [59])) _ _ _ rfl | (with_reducible refine BS.drew ?_) | (with_reducible refine BS.alloc ?_ _)))
    · rw [q2]; (repeat (first | exact BS.lit (by first | rfl | (simp; done) | (simp [World.drew]; done)) [ch] _ _ _ rfl | (with_reducible refine BS.drew ?_) | (with_reducible refine BS.alloc ?_ _)))
    · intro k hk
      have hk := Option.some.inj hk
      subst hk
      simp
end Go.Proofs.YtnepjlfkbmindaaDoor
