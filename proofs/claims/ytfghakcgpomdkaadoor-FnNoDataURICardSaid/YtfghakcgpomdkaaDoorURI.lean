/- The package's reading of a data URI: what begins with another text than 'data:' gives the error; one text that is a data URI gives none. Conditions: lengths below 2^31; the error variable and the table of blanks as laid. -/
import Derived.Test.YtfghakcgpomdkaaDoorTrimI
import Derived.Test.YtfghakcgpomdkaaDoorCat
namespace Go.Proofs.YtfghakcgpomdkaaDoor
open Go.RowKit
set_option linter.unusedVariables false

theorem equal_any (A B : Option Addr) (l m : List UInt8) (n k c d : Nat) (r : Bool) (w : World) (hr : (l == m) = r) (hn : l.length = n) (hm : m.length = k) (h : BS w A l) (h' : BS w B m) :
    Calls Tryd.prog 8 #[.slice A n c, .slice B k d] w fun e w' => e = .returned (.bool r) ∧ w = w' := by
  subst hr hn hm
  have k1 := run_str (P := Tryd.prog) h c 22 9 5 Tryd.underlying22 Tryd.underlying5 Tryd.underlying9
  have k2 := run_str (P := Tryd.prog) h' d 22 9 5 Tryd.underlying22 Tryd.underlying5 Tryd.underlying9
  go_enter Tryd.func8, Tryd.ntmps8
  go_wp2
  go_ret
  exact ⟨rfl, rfl⟩
def dataB : List UInt8 := [100, 97, 116, 97, 58]
theorem dataB_len : dataB.length = 5 := rfl
def LitRet (n : Nat) (l : List UInt8) (w : World) (e : Ending) (w' : World) : Prop := e = .returned (.slice (some ⟨w.heap.size, 0, none⟩) n n) ∧ BS w' (some ⟨w.heap.size, 0, none⟩) l ∧ Below w.heap.size w w'
theorem scheme_any (w : World) : Calls Tryd.prog 9 #[] w (LitRet 5 dataB w) := by
  have kc := fun n c C => run_bytes_lit (P := Tryd.prog) 22 5 Tryd.underlying22 Tryd.underlying5 w w.heap.size n c C rfl
  go_enter Tryd.func9, Tryd.ntmps9
  go_wp2
  go_ret
  exact ⟨rfl, BS.lit rfl dataB _ _ _ rfl, (Below.refl _ _).alloc (Nat.le_refl _) _⟩
theorem base64_any (w : World) : Calls Tryd.prog 11 #[] w (LitRet 6 [98, 97, 115, 101, 54, 52] w) := by
  have kc := fun n c C => run_bytes_lit (P := Tryd.prog) 22 5 Tryd.underlying22 Tryd.underlying5 w w.heap.size n c C rfl
  go_enter Tryd.func11, Tryd.ntmps11
  go_wp2
  go_ret
  exact ⟨rfl, BS.lit rfl [98, 97, 115, 101, 54, 52] _ _ _ rfl, (Below.refl _ _).alloc (Nat.le_refl _) _⟩
/-- The error variable holds this pointer. -/
def Bad (w : World) (T : TypeId) (a : Addr) : Prop := w.cell? ⟨1, 0, none⟩ = some (.iface T (.pointer (some a)))
theorem Bad.below {w w' : World} {T : TypeId} {a : Addr} (h : Bad w T a) (hb : Below w.heap.size w w') : Bad w' T a := (hb.cell (block_lt_of_cell h)).trans h
def BadRet (T : TypeId) (a : Addr) (w : World) (e : Ending) (w' : World) : Prop := e = .returned (.tuple #[.slice none 0 0, .slice none 0 0, .iface T (.pointer (some a))]) ∧ Below w.heap.size w w'
set_option maxRecDepth 100000 in
theorem uri_short (A : Option Addr) (l : List UInt8) (c : Nat) (w : World) (T : TypeId) (a : Addr) (h1 : l.length ≤ 5) (hb : Bad w T a) :
    Calls Tryd.prog 7 #[.slice A l.length c] w (BadRet T a w) := by
  have d6 : decide ((5 : Int) < (l.length : Int)) = false := decide_eq_false (by omega)
  have ce : w.cell? ⟨1, 0, none⟩ = some (.iface T (.pointer (some a))) := hb
  clear hb
  go_enter Tryd.func7, Tryd.ntmps7
  go_wp2
  go_quiet (fail)
  go_wp2
  go_quiet (fail)
  go_wp2
  exact bodyPost_ret (v := .tuple #[.slice none 0 0, .slice none 0 0, .iface T (.pointer (some a))]) (by simp [results, Tryd.results7, go_sem]) rfl ⟨rfl, below_drewN (below_drewN (Below.refl _ _) _) _⟩
set_option maxRecDepth 100000 in
set_option maxHeartbeats 1000000 in
theorem uri_other (b o : Nat) (l : List UInt8) (c : Nat) (w : World) (T : TypeId) (a : Addr) (bs : BS w (some ⟨b, o, none⟩) l) (hc : l.length ≤ c) (h1 : 5 < l.length) (hl : l.length ≤ 2147483647) (hne : (l.take 5 == dataB) = false) (hb : Bad w T a) :
    Calls Tryd.prog 7 #[.slice (some ⟨b, o, none⟩) l.length c] w (BadRet T a w) := by
  have d6 : decide ((5 : Int) < (l.length : Int)) = true := decide_eq_true (by omega)
  have h5 : (5 : Int) ≤ (c : Int) := by omega
  have Hb := hide hb
  have Hbs := hide (bs.take 5)
  have Hne := hide hne
  clear hb hne bs
  go_enter Tryd.func7, Tryd.ntmps7
  go_wp2
  go_region_law (first
    | (go_simp; go_at_call 9; (with_reducible refine (scheme_any _).mono ?_); rintro e w1 ⟨rfl, hb1, hB1⟩; have hbs1 : BS w1 (some ⟨b, o, none⟩) (l.take 5) := (BS.drew Hbs.out).below hB1; have hbd1 : BS w1 (some ⟨w.heap.size, 0, none⟩) dataB := hb1; have ce1 : w1.cell? ⟨1, 0, none⟩ = some (.iface T (.pointer (some a))) := Bad.below (w := w.drew) Hb.out hB1)
    | (go_simp; go_at_call 8; (with_reducible refine (equal_any _ _ (l.take 5) dataB _ _ _ _ false _ Hne.out (by simp; omega) dataB_len hbs1 hbd1).mono ?_); rintro e w2 ⟨rfl, rfl⟩))
  go_wp2
  go_quiet (fail)
  go_wp2
  exact bodyPost_ret (v := .tuple #[.slice none 0 0, .slice none 0 0, .iface T (.pointer (some a))]) (by simp [results, Tryd.results7, go_sem]) rfl ⟨rfl, below_drewN ((below_drewN (Below.refl _ w) 1).trans hB1) _⟩
/-- The text that is a data URI; what stands behind its scheme; its media type. -/
def goodB : List UInt8 := [100, 97, 116, 97, 58, 116, 101, 120, 116, 47, 112, 108, 97, 105, 110, 44, 97]
def restB : List UInt8 := [116, 101, 120, 116, 47, 112, 108, 97, 105, 110, 44, 97]
def kindB : List UInt8 := [116, 101, 120, 116, 47, 112, 108, 97, 105, 110]
theorem goodB_len : goodB.length = 17 := rfl
theorem kind_plain (k : Nat) (h : k < 10) : ∃ x : UInt8, restB[k]? = some x ∧ ((x.toNat : Int) == 61) = false ∧ ((x.toNat : Int) == 59) = false ∧ ((x.toNat : Int) == 44) = false := by
  have hall : (List.range 10).all (fun k => match restB[k]? with | some x => ((x.toNat : Int) == 61) == false && ((x.toNat : Int) == 59) == false && ((x.toNat : Int) == 44) == false | none => false) = true := by decide +kernel
  have := List.all_eq_true.1 hall k (by simpa using h)
  split at this
  · rename_i x hx
    simp only [Bool.and_eq_true, beq_iff_eq] at this
    exact ⟨x, hx, this.1.1, this.1.2, this.2⟩
  · cases this
set_option maxRecDepth 100000 in
theorem decode_a (b o c : Nat) (w : World) (bs : BS w (some ⟨b, o, none⟩) [97]) :
    Calls Tryd.prog 15 #[.slice (some ⟨b, o, none⟩) 1 c] w fun e w' => e = .returned (.slice (some ⟨b, o, none⟩) 1 c) ∧ w = w' := by
  obtain ⟨b', o', e, hc⟩ := bs.at_ (k := 0) rfl
  simp only [Option.some.injEq, Addr.mk.injEq, and_true] at e
  obtain ⟨rfl, rfl⟩ := e
  rw [Nat.add_zero] at hc
  have hc0 : w.cell? ⟨b, o, none⟩ = some (.int .u8 97) := hc
  clear hc bs
  go_enter Tryd.func15, Tryd.ntmps15
  go_wp2
  go_loop [0, 3] (fun s i => s = .slice (some ⟨b, o, none⟩) 1 c ∧ ∃ k : Nat, k ≤ 1 ∧ i = .int .i64 (k : Int)) (fun _ i => 1 - (intOf i).toNat)
  case atStart => exact ⟨rfl, 0, by omega, rfl⟩
  case round =>
    obtain ⟨rfl, k, hk, rfl⟩ := hrel
    by_cases h0 : k = 0
    · subst h0
      go_wp2
      go_round
      case rel => exact ⟨rfl, 1, by omega, rfl⟩
      case measure => simp [intOf]
    · obtain rfl : k = 1 := by omega
      go_wp2
      go_ret
      exact ⟨rfl, rfl⟩
end Go.Proofs.YtfghakcgpomdkaaDoor
