/- The reference's writing of a number without a sign in decimal: what it returns. Condition: the number is one of 64 bits. -/
import Derived.Test.YtnepjlfkbmindaaDoorDec
namespace Go.Proofs.YtnepjlfkbmindaaDoor
open Go.RowKit
set_option linter.unusedVariables false

theorem OwnB.lit {w : World} {base g : Nat} (hb : base ≤ w.heap.size) (hg : w.heap.size = g) (l : List UInt8) (n : Nat) (C : Array Value) (hn : l.length = n) (hm : n ≤ 4294967296) (hC : C = (l.map bv).toArray) : OwnB (w.alloc (.cells C 5)) base (some ⟨g, 0, none⟩) n n l := by
  subst hg hC hn
  refine ⟨rfl, ?_⟩
  have := World.ownsRow_lit (base := base) (e := 5) (size := 1) w (l.map bv).toArray l.length hb (by simp only [maxLen]; omega) (by simp)
  simpa using this

/-- What is returned: a new row with these bytes. -/
def OwnRet (l : List UInt8) (w : World) (e : Ending) (w' : World) : Prop := ∃ A' c', e = .returned (.slice A' l.length c') ∧ OwnB w' w.heap.size A' l.length c' l ∧ Below w.heap.size w w'

set_option maxHeartbeats 1000000 in
theorem decimal_any (n : Nat) (w : World) (hn : (n : Int) ≤ 18446744073709551615) :
    Calls Tryd.prog 14 #[.int .u64 (n : Int)] w (OwnRet (dec n) w) := by
  have hlen := dec_len20 n (by omega)
  have hC : ∀ d : Nat, d < 10 → (#[.int .u8 (48 + (d : Int))] : Array Value) = ([UInt8.ofNat (48 + d)].map bv).toArray := fun d hd => by simp only [List.map_cons, List.map_nil, bv, digitI hd]
  have HC := hide hC
  clear hC
  have Hl := hide hlen
  clear hlen
  go_enter Tryd.func14, Tryd.ntmps14
  go_wp2
  go_loopw [0, 3] (fun t v wr => ∃ (m k : Nat) (A' : Option Addr) (c' : Nat) (out : List UInt8), m ≤ n ∧ t = .int .u64 m ∧ v = .slice A' k c' ∧ OwnB wr w.heap.size A' k c' out ∧ Hid (DecSt n m out) ∧ Below w.heap.size w wr)
    (fun t _ _ => (intOf t).toNat)
  case atStart =>
    refine ⟨n / 10, 1, _, 1, _, Nat.div_le_self _ _, by go_num, rfl, OwnB.lit (Nat.le_refl _) rfl [UInt8.ofNat (48 + n % 10)] 1 _ rfl (by omega) ?_, hide (DecSt.start n), (Below.refl _ _).alloc (Nat.le_refl _) _⟩
    exact HC.out (n % 10) (by omega)
  case round =>
    obtain ⟨m, k, A', c', out, hm, rfl, rfl, own, hst, hbel⟩ := hrel
    by_cases h0 : 0 < m
    · have hsz := hbel.size
      have hkl : k ≤ 20 := by have := hst.out.len; have := own.len; have := Hl.out; omega
      have own1 : OwnB (wr.alloc (.cells #[.int .u8 (48 + (m : Int) % 10)] 5)) w.heap.size (some ⟨wr.heap.size, 0, none⟩) 1 1 [UInt8.ofNat (48 + m % 10)] :=
        OwnB.lit hsz rfl [UInt8.ofNat (48 + m % 10)] 1 _ rfl (by omega) (HC.out (m % 10) (by omega))
      obtain ⟨A2, c2, w2, hrun, own2, hg2, _⟩ := run_append8 (P := Tryd.prog) 26 26 Tryd.underlying26 u8_info own1 (own.bs.alloc (.cells #[.int .u8 (48 + (m : Int) % 10)] 5)) k c' own.len (by omega) (by simp; omega)
      have hbel2 := own1.bel (hbel.alloc hsz _) hg2 (by simp; omega)
      have Hst2 := hide (hst.out.step h0)
      have Hrun := hide hrun
      clear hrun hst hbel own own1 hg2
      go_wp2_with (at_builtin; refine wpList_append_run Hrun.out rfl _ _ rfl rfl rfl rfl ?_)
      go_roundw
      case rel => exact ⟨m / 10, 1 + k, A2, c2, _, by omega, by go_num, by rw [show (1 + k) = 1 + k from rfl], own2, Hst2, hbel2⟩
      case measure => simp [intOf]; omega
    · obtain rfl : m = 0 := by omega
      have hd := hst.out.done
      have hk := own.len
      rw [hd] at hk
      rw [hd] at own
      have Hk := hide hk
      clear hk hd hst
      go_wp2
      go_ret
      exact ⟨A', c', by rw [Hk.out]; rfl, by rw [Hk.out]; exact own, hbel⟩
end Go.Proofs.YtnepjlfkbmindaaDoor
