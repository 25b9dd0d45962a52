/- The package's test for an entity that means a quotation mark: at the six entities, whatever follows, and where no ampersand stands first. Condition: the text is shorter than 2^31. (printed by gen_quote.py) -/
import Derived.Test.YteinmabdkkddiaaInpl
namespace Go.Proofs.Yteinmabdkkddiaa
open Go.RowKit
set_option linter.unusedVariables false

theorem equal_any (A B : Option Addr) (l m : List UInt8) (n k c d : Nat) (r : Bool) (w : World) (hr : (l == m) = r) (hn : l.length = n) (hm : m.length = k) (h : BS w A l) (h' : BS w B m) :
    Calls Try.prog 17 #[.slice A n c, .slice B k d] w fun e w' => e = .returned (.bool r) ∧ w = w' := by
  subst hr hn hm
  have k1 := run_str (P := Try.prog) h c 22 9 5 Try.underlying22 Try.underlying5 Try.underlying9
  have k2 := run_str (P := Try.prog) h' d 22 9 5 Try.underlying22 Try.underlying5 Try.underlying9
  go_enter Try.func17, Try.ntmps17
  go_wp2
  go_ret
  exact ⟨rfl, rfl⟩
/-- A quotation mark and a length are returned; nothing that was there has changed. -/
def QRet (q n : Int) (w : World) (e : Ending) (w' : World) : Prop := e = .returned (.tuple #[.int .u8 q, .int .i64 n]) ∧ Below w.heap.size w w'
theorem BS.lit_at {w : World} {b o : Nat} {l : List UInt8} (h : BS w (some ⟨b, o, none⟩) l) {k : Nat} {c : UInt8} (hk : l[k]? = some c) : w.cell? ⟨b, o + k, none⟩ = some (.int .u8 (c.toNat : Int)) := by
  obtain ⟨b', o', e, hc⟩ := h.at_ hk
  simp only [Option.some.injEq, Addr.mk.injEq, and_true] at e
  obtain ⟨rfl, rfl⟩ := e
  exact hc
theorem qe_short (A : Option Addr) (l : List UInt8) (c : Nat) (w : World) (h1 : l.length < 5) :
    Calls Try.prog 15 #[.slice A l.length c] w (QRet 0 0 w) := by
  go_enter Try.func15, Try.ntmps15
  go_wp2
  go_ret2
  exact ⟨rfl, Below.refl _ _⟩
theorem qe_other (b o : Nat) (l : List UInt8) (c : Nat) (d : UInt8) (w : World) (hs : BS w (some ⟨b, o, none⟩) l) (h1 : 5 ≤ l.length) (h2 : l.length ≤ 2147483647) (hd : l[0]? = some d) (h38 : d ≠ 38) :
    Calls Try.prog 15 #[.slice (some ⟨b, o, none⟩) l.length c] w (QRet 0 0 w) := by
  have cell0 := hs.lit_at hd
  rw [Nat.add_zero] at cell0
  have e : ((d.toNat : Int) != 38) = true := by rw [bne_iff_ne]; intro e; exact h38 (UInt8.toNat_inj.1 (by simp; omega))
  clear hd h38
  go_enter Try.func15, Try.ntmps15
  go_wp2
  go_ret2
  exact ⟨rfl, Below.refl _ _⟩

set_option maxRecDepth 100000 in
set_option maxHeartbeats 1000000 in
theorem qe_0 (b o : Nat) (r : List UInt8) (n c : Nat) (w : World) (hn : 6 + r.length = n) (hs : BS w (some ⟨b, o, none⟩) ([38, 113, 117, 111, 116, 59] ++ r)) (h2 : n ≤ 2147483647) (hnc : n ≤ c) :
    Calls Try.prog 15 #[.slice (some ⟨b, o, none⟩) n c] w (QRet 34 6 w) := by
  have h1 : 6 ≤ n := by omega
  have cell0 : w.cell? ⟨b, o, none⟩ = some (.int .u8 38) := hs.lit_at (k := 0) (c := 38) rfl
  have cell1 : w.cell? ⟨b, o + 1, none⟩ = some (.int .u8 113) := hs.lit_at (k := 1) (c := 113) rfl
  have cell2 : w.cell? ⟨b, o + 2, none⟩ = some (.int .u8 117) := hs.lit_at (k := 2) (c := 117) rfl
  have cell3 : w.cell? ⟨b, o + 3, none⟩ = some (.int .u8 111) := hs.lit_at (k := 3) (c := 111) rfl
  have cell4 : w.cell? ⟨b, o + 4, none⟩ = some (.int .u8 116) := hs.lit_at (k := 4) (c := 116) rfl
  have cell5 : w.cell? ⟨b, o + 5, none⟩ = some (.int .u8 59) := hs.lit_at (k := 5) (c := 59) rfl
  have hl : ([38, 113, 117, 111, 116, 59] ++ r).length = n := by simp; omega
  obtain ⟨A', runC, bsC⟩ := run_cutA (P := Try.prog) 22 Try.underlying22 (by kernel_rfl) hs n c 1 5 1 5 rfl rfl hl (by omega) (by omega) hnc
  have RunC := hide runC
  have BsC := hide (show BS w A' [113, 117, 111, 116] from bsC)
  clear runC bsC hl hn
  go_enter Try.func15, Try.ntmps15
  go_wp2_with (refine wpList_slice_run (RunC.out .i64 .i64 _) rfl _ _ _ rfl rfl rfl rfl ?_)
  refine (equal_any _ _ [113, 117, 111, 116] [113, 117, 111, 116] _ _ _ _ true _ rfl rfl rfl (BsC.out.alloc _) (BS.lit rfl _ _ _ _ rfl)).mono ?_
  rintro e w' ⟨rfl, rfl⟩
  go_wp2
  go_ret2
  exact ⟨rfl, (Below.refl _ _).alloc (Nat.le_refl _) _⟩
set_option maxRecDepth 100000 in
set_option maxHeartbeats 1000000 in
theorem qe_1 (b o : Nat) (r : List UInt8) (n c : Nat) (w : World) (hn : 5 + r.length = n) (hs : BS w (some ⟨b, o, none⟩) ([38, 35, 51, 52, 59] ++ r)) (h2 : n ≤ 2147483647) (hnc : n ≤ c) :
    Calls Try.prog 15 #[.slice (some ⟨b, o, none⟩) n c] w (QRet 34 5 w) := by
  have h1 : 5 ≤ n := by omega
  have cell0 : w.cell? ⟨b, o, none⟩ = some (.int .u8 38) := hs.lit_at (k := 0) (c := 38) rfl
  have cell1 : w.cell? ⟨b, o + 1, none⟩ = some (.int .u8 35) := hs.lit_at (k := 1) (c := 35) rfl
  have cell2 : w.cell? ⟨b, o + 2, none⟩ = some (.int .u8 51) := hs.lit_at (k := 2) (c := 51) rfl
  have cell3 : w.cell? ⟨b, o + 3, none⟩ = some (.int .u8 52) := hs.lit_at (k := 3) (c := 52) rfl
  have cell4 : w.cell? ⟨b, o + 4, none⟩ = some (.int .u8 59) := hs.lit_at (k := 4) (c := 59) rfl
  clear hn
  go_enter Try.func15, Try.ntmps15
  go_wp2
  go_loop [5] (fun i => i = .int .i64 2) (fun i => 0)
  case atStart => rfl
  case round =>
    obtain rfl := hrel
    go_wp2
    go_ret2
    exact ⟨rfl, Below.refl _ _⟩
set_option maxRecDepth 100000 in
set_option maxHeartbeats 1000000 in
theorem qe_2 (b o : Nat) (r : List UInt8) (n c : Nat) (w : World) (hn : 6 + r.length = n) (hs : BS w (some ⟨b, o, none⟩) ([38, 35, 120, 50, 50, 59] ++ r)) (h2 : n ≤ 2147483647) (hnc : n ≤ c) :
    Calls Try.prog 15 #[.slice (some ⟨b, o, none⟩) n c] w (QRet 34 6 w) := by
  have h1 : 6 ≤ n := by omega
  have cell0 : w.cell? ⟨b, o, none⟩ = some (.int .u8 38) := hs.lit_at (k := 0) (c := 38) rfl
  have cell1 : w.cell? ⟨b, o + 1, none⟩ = some (.int .u8 35) := hs.lit_at (k := 1) (c := 35) rfl
  have cell2 : w.cell? ⟨b, o + 2, none⟩ = some (.int .u8 120) := hs.lit_at (k := 2) (c := 120) rfl
  have cell3 : w.cell? ⟨b, o + 3, none⟩ = some (.int .u8 50) := hs.lit_at (k := 3) (c := 50) rfl
  have cell4 : w.cell? ⟨b, o + 4, none⟩ = some (.int .u8 50) := hs.lit_at (k := 4) (c := 50) rfl
  have cell5 : w.cell? ⟨b, o + 5, none⟩ = some (.int .u8 59) := hs.lit_at (k := 5) (c := 59) rfl
  clear hn
  go_enter Try.func15, Try.ntmps15
  go_wp2
  go_loop [4] (fun i => i = .int .i64 3) (fun i => 0)
  case atStart => rfl
  case round =>
    obtain rfl := hrel
    go_wp2
    go_ret2
    exact ⟨rfl, Below.refl _ _⟩
set_option maxRecDepth 100000 in
set_option maxHeartbeats 1000000 in
theorem qe_3 (b o : Nat) (r : List UInt8) (n c : Nat) (w : World) (hn : 6 + r.length = n) (hs : BS w (some ⟨b, o, none⟩) ([38, 97, 112, 111, 115, 59] ++ r)) (h2 : n ≤ 2147483647) (hnc : n ≤ c) :
    Calls Try.prog 15 #[.slice (some ⟨b, o, none⟩) n c] w (QRet 39 6 w) := by
  have h1 : 6 ≤ n := by omega
  have cell0 : w.cell? ⟨b, o, none⟩ = some (.int .u8 38) := hs.lit_at (k := 0) (c := 38) rfl
  have cell1 : w.cell? ⟨b, o + 1, none⟩ = some (.int .u8 97) := hs.lit_at (k := 1) (c := 97) rfl
  have cell2 : w.cell? ⟨b, o + 2, none⟩ = some (.int .u8 112) := hs.lit_at (k := 2) (c := 112) rfl
  have cell3 : w.cell? ⟨b, o + 3, none⟩ = some (.int .u8 111) := hs.lit_at (k := 3) (c := 111) rfl
  have cell4 : w.cell? ⟨b, o + 4, none⟩ = some (.int .u8 115) := hs.lit_at (k := 4) (c := 115) rfl
  have cell5 : w.cell? ⟨b, o + 5, none⟩ = some (.int .u8 59) := hs.lit_at (k := 5) (c := 59) rfl
  have hl : ([38, 97, 112, 111, 115, 59] ++ r).length = n := by simp; omega
  obtain ⟨A', runC, bsC⟩ := run_cutA (P := Try.prog) 22 Try.underlying22 (by kernel_rfl) hs n c 1 5 1 5 rfl rfl hl (by omega) (by omega) hnc
  have RunC := hide runC
  have BsC := hide (show BS w A' [97, 112, 111, 115] from bsC)
  clear runC bsC hl hn
  go_enter Try.func15, Try.ntmps15
  go_wp2_with (refine wpList_slice_run (RunC.out .i64 .i64 _) rfl _ _ _ rfl rfl rfl rfl ?_)
  refine (equal_any _ _ [97, 112, 111, 115] [113, 117, 111, 116] _ _ _ _ false _ rfl rfl rfl (BsC.out.alloc _) (BS.lit rfl _ _ _ _ rfl)).mono ?_
  rintro e w' ⟨rfl, rfl⟩
  go_wp2_with (refine wpList_slice_run (RunC.out .i64 .i64 _) rfl _ _ _ rfl rfl rfl rfl ?_)
  refine (equal_any _ _ [97, 112, 111, 115] [97, 112, 111, 115] _ _ _ _ true _ rfl rfl rfl ((BsC.out.alloc _).alloc _) (BS.lit (by simp) _ _ _ _ rfl)).mono ?_
  rintro e w' ⟨rfl, rfl⟩
  go_wp2
  go_ret2
  exact ⟨rfl, ((Below.refl _ _).alloc (Nat.le_refl _) _).alloc (by simp) _⟩
set_option maxRecDepth 100000 in
set_option maxHeartbeats 1000000 in
theorem qe_4 (b o : Nat) (r : List UInt8) (n c : Nat) (w : World) (hn : 5 + r.length = n) (hs : BS w (some ⟨b, o, none⟩) ([38, 35, 51, 57, 59] ++ r)) (h2 : n ≤ 2147483647) (hnc : n ≤ c) :
    Calls Try.prog 15 #[.slice (some ⟨b, o, none⟩) n c] w (QRet 39 5 w) := by
  have h1 : 5 ≤ n := by omega
  have cell0 : w.cell? ⟨b, o, none⟩ = some (.int .u8 38) := hs.lit_at (k := 0) (c := 38) rfl
  have cell1 : w.cell? ⟨b, o + 1, none⟩ = some (.int .u8 35) := hs.lit_at (k := 1) (c := 35) rfl
  have cell2 : w.cell? ⟨b, o + 2, none⟩ = some (.int .u8 51) := hs.lit_at (k := 2) (c := 51) rfl
  have cell3 : w.cell? ⟨b, o + 3, none⟩ = some (.int .u8 57) := hs.lit_at (k := 3) (c := 57) rfl
  have cell4 : w.cell? ⟨b, o + 4, none⟩ = some (.int .u8 59) := hs.lit_at (k := 4) (c := 59) rfl
  clear hn
  go_enter Try.func15, Try.ntmps15
  go_wp2
  go_loop [5] (fun i => i = .int .i64 2) (fun i => 0)
  case atStart => rfl
  case round =>
    obtain rfl := hrel
    go_wp2
    go_ret2
    exact ⟨rfl, Below.refl _ _⟩
set_option maxRecDepth 100000 in
set_option maxHeartbeats 1000000 in
theorem qe_5 (b o : Nat) (r : List UInt8) (n c : Nat) (w : World) (hn : 6 + r.length = n) (hs : BS w (some ⟨b, o, none⟩) ([38, 35, 120, 50, 55, 59] ++ r)) (h2 : n ≤ 2147483647) (hnc : n ≤ c) :
    Calls Try.prog 15 #[.slice (some ⟨b, o, none⟩) n c] w (QRet 39 6 w) := by
  have h1 : 6 ≤ n := by omega
  have cell0 : w.cell? ⟨b, o, none⟩ = some (.int .u8 38) := hs.lit_at (k := 0) (c := 38) rfl
  have cell1 : w.cell? ⟨b, o + 1, none⟩ = some (.int .u8 35) := hs.lit_at (k := 1) (c := 35) rfl
  have cell2 : w.cell? ⟨b, o + 2, none⟩ = some (.int .u8 120) := hs.lit_at (k := 2) (c := 120) rfl
  have cell3 : w.cell? ⟨b, o + 3, none⟩ = some (.int .u8 50) := hs.lit_at (k := 3) (c := 50) rfl
  have cell4 : w.cell? ⟨b, o + 4, none⟩ = some (.int .u8 55) := hs.lit_at (k := 4) (c := 55) rfl
  have cell5 : w.cell? ⟨b, o + 5, none⟩ = some (.int .u8 59) := hs.lit_at (k := 5) (c := 59) rfl
  clear hn
  go_enter Try.func15, Try.ntmps15
  go_wp2
  go_loop [4] (fun i => i = .int .i64 3) (fun i => 0)
  case atStart => rfl
  case round =>
    obtain rfl := hrel
    go_wp2
    go_ret2
    exact ⟨rfl, Below.refl _ _⟩
end Go.Proofs.Yteinmabdkkddiaa
