/- More of rows of bytes of the call's own: an append of zeros ('append(b, make([]byte, n)...)') and of a string; a store in place. No condition. -/
import Derived.Test.YtgalfebplancdaaDecW
import Derived.Lib.AppendStr
namespace Go.Proofs.Ytgalfebplancdaa
open Go.RowKit
set_option linter.unusedVariables false

theorem OwnB.of_blk {w : World} {base g : Nat} {l : List UInt8} {n : Nat} (h : Blk8 w g l) (hb : base ≤ g) (hn : l.length = n) (hm : n ≤ 4294967296) : OwnB w base (some ⟨g, 0, none⟩) n n l := by
  subst hn
  refine ⟨rfl, by simp, .inr ⟨g, l.length, _, rfl, hb, h, Nat.le_refl _, by simp only [maxLen]; omega, by simp, by simp only [Nat.mul_one]; rw [List.take_of_length_le (by simp)]⟩⟩
theorem OwnB.mono {w : World} {base base' n c : Nat} {A : Option Addr} {l : List UInt8} (h : OwnB w base A n c l) (hb : base' ≤ base) : OwnB w base' A n c l := by
  refine ⟨h.1, h.2.1, ?_⟩
  rcases h.2.2 with h' | ⟨g, cap, cur, hv, hg, r⟩
  · exact .inl h'
  · exact .inr ⟨g, cap, cur, hv, by omega, r⟩
theorem OwnB.cell {w : World} {base n c g : Nat} {l : List UInt8} (h : OwnB w base (some ⟨g, 0, none⟩) n c l) {i : Nat} {d : UInt8} (hi : l[i]? = some d) : w.cell? ⟨g, i, none⟩ = some (.int .u8 (d.toNat : Int)) := by
  have hl := (List.getElem?_eq_some_iff.1 hi).1
  have := h.1
  rw [h.2.cellAt i (by omega)]
  simp [hi]
theorem OwnB.frozen {w : World} {base n c g : Nat} {l : List UInt8} (h : OwnB w base (some ⟨g, 0, none⟩) n c l) (i : Nat) : w.frozen? ⟨g, i, none⟩ = false := h.2.frozenAt i
theorem OwnB.set {w : World} {base n c g : Nat} {l : List UInt8} (h : OwnB w base (some ⟨g, 0, none⟩) n c l) (i : Nat) (d : UInt8) : OwnB (w.setCell ⟨g, i, none⟩ (.int .u8 (d.toNat : Int))) base (some ⟨g, 0, none⟩) n c (l.set i d) := by
  refine ⟨by simpa using h.1, ?_⟩
  have := h.2.stored i (.int .u8 (d.toNat : Int))
  rw [List.map_set]
  exact this.1
theorem OwnB.addr {w : World} {base n c : Nat} {A : Option Addr} {l : List UInt8} (h : OwnB w base A n c l) (hn : 0 < n) : ∃ g, A = some ⟨g, 0, none⟩ ∧ base ≤ g := by
  obtain ⟨g, cap, hv, hg, _⟩ := h.2.form hn
  injection hv with hA _ _
  exact ⟨g, hA, hg⟩

theorem zeroCells8 (n : Nat) : Builtin.zeroCells (Value.int .u8 0).cells n = ((List.replicate n (0 : UInt8)).map bv).toArray := by
  apply Array.ext
  · simp [Builtin.zeroCells, Value.cells]
  · intro i h1 h2
    simp [Builtin.zeroCells, Value.cells, bv, Nat.mod_one]

/-- An append of zeros where it must grow. -/
theorem run_append_zeros8 {P : Program} {w : World} {base n c g : Nat} {l : List UInt8} (T U ty : TypeId) (hu : P.underlying T = some (.slice 5)) (hU : P.underlying U = some (.int .i64))
    (hinfo : (P.info? 5).map (fun i => (i.zero, i.size, i.bytes)) = some (some (.int .u8 0), 1, 1)) (own : OwnB w base (some ⟨g, 0, none⟩) n c l) (k : Nat) (h0 : c < n + k) (hlen : n + k ≤ 4294967296) (hbase : base ≤ w.heap.size) :
    ∃ C w', (Builtin.append_ #[T, U] ty #[.slice (some ⟨g, 0, none⟩) n c, .int .i64 (k : Int)]).run P w = .ok (.slice (some ⟨w.heap.size, 0, none⟩) (n + k) C) w' ∧ OwnB w' base (some ⟨w.heap.size, 0, none⟩) (n + k) C (l ++ List.replicate k 0) ∧ Below w.heap.size w w' := by
  obtain ⟨i, hi, hz0, hz1, hz2⟩ := info_parts hinfo
  have hn : ¬ (n + k ≤ c) := by omega
  have hw : IntKind.i64.wrap (k : Int) = (k : Int) := by rw [IntKind.wrap_i64]; omega
  have h63' : ¬ (9223372036854775807 < ((n : Int) + (k : Int))) := by omega
  have hk48 : ¬ (281474976710656 < (k : Int)) := by omega
  have hfit := growslice_fits (need := n + k) (old := c) (bytes := 1) (by omega) (by omega)
  have h48' : ¬ (281474976710656 < Builtin.nextslicecap (n + k) c) := by omega
  have hl := own.len
  have hfo := run_firstCells_some (P := P) w.drew 1 n ⟨g, 0, none⟩ n c (l.map bv) (by simp [hl]) (fun j v hj => by
    obtain ⟨hj1, hj2⟩ := List.getElem?_eq_some_iff.1 hj
    have hj3 : j < l.length := by simpa using hj1
    have e : (⟨g, 0, none⟩ : Addr).add j = ⟨g, j, none⟩ := by
      unfold Addr.add
      split
      · rename_i h0; subst h0; rfl
      · simp
    rw [e, ← hj2]
    have := own.cell (List.getElem?_eq_getElem hj3)
    simpa using this)
  refine ⟨grownCap w (n + k) c 5, w.drew.alloc (.cells ((l.map bv).toArray ++ Builtin.zeroCells (Value.int .u8 0).cells k ++ Builtin.zeroCells (Value.int .u8 0).cells (grownCap w (n + k) c 5 - (n + k))) 5), ?_, ?_, ?_⟩
  · have hkz : ¬ (k = 0) := by
      intro e
      have := own.le.1
      omega
    simp [Builtin.append_, run_underlying hu, run_underlying hU, sizeOf, typeInfo, zeroValue, hi, hz0, hz1, hz2, asInt, asIntOf, hw, hk48, hn, h63', h48', Question.forced, hfo, newRow, grownCap, hkz]
    intro hneg
    omega
  · have hge := grownCap_ge w (n + k) c 5
    have hcm := grownCap_le_maxLen w (n + k) c 5 (by simp only [maxLen]; omega)
    refine ⟨by simp [hl], by simp [hl], .inr ⟨w.heap.size, _, _, rfl, hbase, heap_alloc_new w.drew _, hge, hcm, ?_, ?_⟩⟩
    · simp [Builtin.zeroCells, Value.cells, hl]
      omega
    · rw [zeroCells8]
      simp only [Array.toList_append, List.map_append]
      rw [List.take_append_of_le_length (by simp [hl]), List.take_of_length_le (by simp [hl])]
  · exact ⟨rfl, rfl, rfl, by simp, fun j hj => heap_alloc_old w.drew _ hj⟩

/-- An append of a string. -/
theorem run_append_str8 {P : Program} {w : World} {base n c : Nat} {A : Option Addr} {l : List UInt8} (T U ty : TypeId) (hu : P.underlying T = some (.slice 5)) (hU : P.underlying U = some .string)
    (hinfo : (P.info? 5).map (fun i => (i.zero, i.size, i.bytes)) = some (some (.int .u8 0), 1, 1)) (own : OwnB w base A n c l) (s : ByteArray) (k : Nat) (hk : s.size = k) (hlen : n + k ≤ 4294967296) (hbase : base ≤ w.heap.size) :
    ∃ A' c' w', (Builtin.append_ #[T, U] ty #[.slice A n c, .string s]).run P w = .ok (.slice A' (n + k) c') w' ∧ OwnB w' base A' (n + k) c' (l ++ s.data.toList) ∧ w.grownBy w' (blk A) := by
  subst hk
  obtain ⟨i, hi, hz0, hz1, hz2⟩ := info_parts hinfo
  obtain ⟨v', w', hrun, hown, hg, _⟩ := Lib.run_append_own_string (P := P) w base T U ty 5 i hu hU hi hz0 hz1 hz2 (.slice A n c) n (l.map bv) own.2 s (by simp only [maxLen]; omega) (by omega) hbase
  have es : Lib.strCells s = s.data.toList.map bv := by simp [Lib.strCells]
  rw [es, ← List.map_append] at hown
  rw [ownBlock_blk] at hg
  have hl := own.len
  have hsz : s.data.toList.length = s.size := by rw [Array.length_toList]; rfl
  rcases hown.2 with ⟨e, hn⟩ | ⟨g, cap, cur, e, r⟩
  · exact ⟨none, 0, w', by rw [hrun, e, hn], ⟨by rw [List.length_append, hl, hsz], by rw [hn] at hown ⊢; rw [e] at hown; exact hown⟩, hg⟩
  · exact ⟨_, cap, w', by rw [hrun, e], ⟨by rw [List.length_append, hl, hsz], by rw [e] at hown; exact hown⟩, hg⟩

/-- An append whose run is known, in the walk: a source of another type. -/
theorem wpList_append_runU {P : Program} {ops : Array Oper} {rest : List Oper} {o : Oper} {a : Act} {w : World} {Q : Exit → Act → World → Prop} {vs vx v' : Value} {w' : World} {T U : TypeId}
    (hrun : (Builtin.append_ #[T, U] T #[vs, vx]).run P w = .ok v' w') (hgd : o.guard = none) (s x : Operand) (hty : o.type = T)
    (ho : o.op = .call { callee := .builtin .append, args := #[s, x], argTypes := #[T, U] }) (hs : a.eval s = vs) (hx : a.eval x = vx)
    (h : wpList P ops Q rest (a.put o.dst v') w') : wpList P ops Q (o :: rest) a w := by
  refine wpList_plain hgd fun K hK => ?_
  subst hty
  unfold Oper.wp execOp
  simp only [ho, resolve, invoke, builtin, Sem.run_bind, Sem.run_pure, Result.andThen_ok, List.map_toArray, List.map_cons, List.map_nil, hs, hx, hrun]
  exact hK _ _ h
end Go.Proofs.Ytgalfebplancdaa
