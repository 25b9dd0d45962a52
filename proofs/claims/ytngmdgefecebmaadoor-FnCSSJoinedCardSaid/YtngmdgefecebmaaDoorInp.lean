/- The package's input over a text: what each of its steps does. Conditions: places within the text, lengths below 2^31. -/
import Derived.Test.YtngmdgefecebmaaDoorInpl
namespace Go.Proofs.YtngmdgefecebmaaDoor
open Go.RowKit
set_option linter.unusedVariables false

/-- The input at block g: its bytes with the zero behind them lie at A, its selection goes from start to pos. -/
structure Inp (w : World) (g : Nat) (A : Option Addr) (c : Nat) (l : List UInt8) (pos start : Nat) : Prop where
  row : w.heap[g]? = some (.cells #[.slice A (l.length + 1) c, .int .i64 (pos : Int), .int .i64 (start : Int), .nilIface, .nilFunc] 47 (0, 0))
  bs : BS w A (l ++ [0])
  apart : ∀ b o, A = some ⟨b, o, none⟩ → b ≠ g
  room : l.length + 1 ≤ c
section
variable {w w' : World} {g c pos start : Nat} {A : Option Addr} {l : List UInt8}
theorem Inp.lt (h : Inp w g A c l pos start) : g < w.heap.size := (Array.getElem?_eq_some_iff.1 h.row).1
theorem Inp.c0 (h : Inp w g A c l pos start) : w.cell? ⟨g, 0, none⟩ = some (.slice A (l.length + 1) c) := by simp [World.cell?, h.row]
theorem Inp.c1 (h : Inp w g A c l pos start) : w.cell? ⟨g, 1, none⟩ = some (.int .i64 (pos : Int)) := by simp [World.cell?, h.row]
theorem Inp.c2 (h : Inp w g A c l pos start) : w.cell? ⟨g, 2, none⟩ = some (.int .i64 (start : Int)) := by simp [World.cell?, h.row]
theorem Inp.c3 (h : Inp w g A c l pos start) : w.cell? ⟨g, 3, none⟩ = some .nilIface := by simp [World.cell?, h.row]
theorem Inp.fr (h : Inp w g A c l pos start) (i : Nat) : w.frozen? ⟨g, i, none⟩ = false := by simp [World.frozen?, h.row]
theorem Inp.below (h : Inp w g A c l pos start) (hb : Below w.heap.size w w') : Inp w' g A c l pos start := ⟨(hb.block g h.lt).trans h.row, h.bs.below hb, h.apart, h.room⟩
theorem Inp.drewN (h : Inp w g A c l pos start) (n : Nat) : Inp (w.drewN n) g A c l pos start := ⟨h.row, h.bs, h.apart, h.room⟩
theorem Inp.setPos (h : Inp w g A c l pos start) (p : Nat) : Inp (w.setCell ⟨g, 1, none⟩ (.int .i64 (p : Int))) g A c l p start := by
  refine ⟨?_, h.bs.far (fun b o e => h.apart b o e) _, h.apart, h.room⟩
  have := h.row
  simp [World.setCell, Array.getElem?_modify, this]
theorem Inp.setStart (h : Inp w g A c l pos start) (p : Nat) : Inp (w.setCell ⟨g, 2, none⟩ (.int .i64 (p : Int))) g A c l pos p := by
  refine ⟨?_, h.bs.far (fun b o e => h.apart b o e) _, h.apart, h.room⟩
  have := h.row
  simp [World.setCell, Array.getElem?_modify, this]
end
/-- What a step over the input leaves: the input at another place, and nothing else turned. -/
def InpRet (v : Value) (g : Nat) (A : Option Addr) (c : Nat) (l : List UInt8) (pos start : Nat) (w : World) (e : Ending) (w' : World) : Prop := e = .returned v ∧ Inp w' g A c l pos start ∧ w.grownBy w' (some g)
abbrev unit : Value := .tuple #[]
theorem grown_drewN (w : World) (n : Nat) (row : Option Nat) : w.grownBy (w.drewN n) row := ⟨rfl, rfl, rfl, Nat.le_refl _, fun _ _ _ => rfl⟩
section
variable (g c pos start : Nat) (A : Option Addr) (l : List UInt8) (w : World)
theorem peek_any (k : Nat) (x : UInt8) (h : Inp w g A c l pos start) (hl : l.length ≤ 2147483647) (hk : (l ++ [0])[pos + k]? = some x) :
    Calls Tryd.prog 16 #[.pointer (some ⟨g, 0, none⟩), .int .i64 (k : Int)] w fun e w' => e = .returned (.int .u8 (x.toNat : Int)) ∧ w = w' := by
  have hkl := (List.getElem?_eq_some_iff.1 hk).1
  simp only [List.length_append, List.length_cons, List.length_nil] at hkl
  obtain ⟨b, o, rfl, cell⟩ := h.bs.at_ hk
  have c0 := h.c0
  have c1 := h.c1
  have hsum : (pos : Int) + (k : Int) < (l.length : Int) + 1 := by omega
  have hsum2 : (k : Int) + (pos : Int) < (l.length : Int) + 1 := by omega
  have e1 : ((k : Int) + (pos : Int)).toNat = pos + k := by omega
  clear hk h
  go_enter Tryd.func16, Tryd.ntmps16
  go_wp2
  go_ret
  exact ⟨rfl, rfl⟩
theorem move_any (k : Nat) (h : Inp w g A c l pos start) (hl : l.length ≤ 2147483647) (hp : pos ≤ l.length) (hk : k ≤ 4 + l.length) :
    Calls Tryd.prog 17 #[.pointer (some ⟨g, 0, none⟩), .int .i64 (k : Int)] w (InpRet unit g A c l (pos + k) start w) := by
  have c1 := h.c1
  have f1 := h.fr 1
  have h2 := h.setPos (pos + k)
  have H2 := hide h2
  have HG := hide (grown_set (World.grownBy.refl w (some g)) (p := ⟨g, 1, none⟩) (.inl rfl) (.int .i64 ((pos + k : Nat) : Int)))
  clear h h2
  go_enter Tryd.func17, Tryd.ntmps17
  go_wp2
  go_end0
  exact ⟨rfl, H2.out, HG.out⟩
theorem pos_any (h : Inp w g A c l pos start) (hl : l.length ≤ 2147483647) (hp : pos ≤ l.length) (hs : start ≤ pos) :
    Calls Tryd.prog 34 #[.pointer (some ⟨g, 0, none⟩)] w fun e w' => e = .returned (.int .i64 ((pos : Int) - (start : Int))) ∧ ∃ n, w' = w.drewN n := by
  have c1 := h.c1
  have c2 := h.c2
  have t1 : IntKind.i64.wrap ((pos : Int) - (start : Int)) = (pos : Int) - (start : Int) := IntWalk.i64_in _ (by omega)
  clear h
  go_enter Tryd.func34, Tryd.ntmps34
  go_wp2
  go_quiet (fail)
  clear t1
  go_wp2
  go_ret
  exact ⟨rfl, _, rfl⟩
theorem rewind_any (k : Nat) (h : Inp w g A c l pos start) (hl : l.length ≤ 2147483647) (hk : start + k ≤ l.length) :
    Calls Tryd.prog 36 #[.pointer (some ⟨g, 0, none⟩), .int .i64 (k : Int)] w (InpRet unit g A c l (start + k) start w) := by
  have c1 := h.c1
  have c2 := h.c2
  have f1 := h.fr 1
  have H2 := hide (h.setPos (start + k))
  have HG := hide (grown_set (World.grownBy.refl w (some g)) (p := ⟨g, 1, none⟩) (.inl rfl) (.int .i64 ((start + k : Nat) : Int)))
  clear h
  go_enter Tryd.func36, Tryd.ntmps36
  go_wp2
  go_end0
  exact ⟨rfl, H2.out, HG.out⟩
end
end Go.Proofs.YtngmdgefecebmaaDoor
