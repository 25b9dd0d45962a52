/- The texts that have numbers: a hash, two places of a table, a comparison. Plain lists, no program. -/
import Derived.Test.YtdmkoggjnfhgfaaDoorWords
import Derived.Laws.BitsLemmas
namespace Go.Proofs.YtdmkoggjnfhgfaaDoor
set_option linter.unusedVariables false

def hstep (h : Int) (c : UInt8) : Int := IntKind.u32.wrap (bits .xor .u32 h (c.toNat : Int) * 16777619)
def hashB (h0 : Int) (l : List UInt8) : Int := l.foldl hstep h0
theorem hstep_bd (h : Int) (c : UInt8) : 0 ≤ hstep h c ∧ hstep h c < 4294967296 := by
  unfold hstep
  rw [IntKind.wrap_u32]
  omega
theorem hashB_bd (l : List UInt8) : ∀ {h0 : Int}, 0 ≤ h0 ∧ h0 < 4294967296 → 0 ≤ hashB h0 l ∧ hashB h0 l < 4294967296 := by
  induction l with
  | nil => intro h0 h; exact h
  | cons c r ih => intro h0 h; exact ih (hstep_bd h0 c)
theorem hashB_take {l : List UInt8} {k : Nat} {c : UInt8} (h0 : Int) (h : l[k]? = some c) : hashB h0 (l.take (k + 1)) = hstep (hashB h0 (l.take k)) c := by
  obtain ⟨hk, e⟩ := List.getElem?_eq_some_iff.1 h
  rw [List.take_succ_eq_append_getElem hk, e]
  simp [hashB]
/-- The text of a number. -/
def ent (T : List UInt8) (e : Nat) : List UInt8 := (T.drop (e / 256)).take (e % 256)
def slot (tab : List Nat) (h : Nat) : Nat := tab.getD (h % tab.length) 0
/-- The number of a text. -/
def fnd (T : List UInt8) (tab : List Nat) (h0 : Int) (s : List UInt8) : Nat :=
  if s.length = 0 ∨ 9 < s.length then 0
  else if ent T (slot tab (hashB h0 s).toNat) = s then slot tab (hashB h0 s).toNat
  else if ent T (slot tab ((hashB h0 s).toNat / 65536)) = s then slot tab ((hashB h0 s).toNat / 65536)
  else 0
/-- A text if it is one of some. -/
def nameIn (s : List UInt8) (ns : List (List UInt8)) : List UInt8 := if s ∈ ns then s else []
theorem slot_mem (tab : List Nat) (h : Nat) : slot tab h = 0 ∨ slot tab h ∈ tab := by
  unfold slot
  rw [List.getD_eq_getElem?_getD]
  cases e : tab[h % tab.length]? with
  | none => left; rfl
  | some x => right; exact List.mem_of_getElem? e
/-- Each number of the table is that of a name, or of none. -/
def tabOk (T : List UInt8) (tab : List Nat) (ns : List (List UInt8)) : Bool := tab.all fun e => (ent T e).isEmpty || ns.contains (ent T e)
def namesOk (T : List UInt8) (tab : List Nat) (h0 : Int) (ns : List (List UInt8)) : Bool := ns.all fun s => ent T (fnd T tab h0 s) == s
theorem fnd_name {T : List UInt8} {tab : List Nat} {h0 : Int} {ns : List (List UInt8)} (h1 : tabOk T tab ns = true) (h2 : namesOk T tab h0 ns = true) (s : List UInt8) : ent T (fnd T tab h0 s) = nameIn s ns := by
  unfold nameIn
  split
  · rename_i hs
    have := List.all_eq_true.1 h2 s hs
    simpa using this
  · rename_i hs
    have e0 : ent T 0 = [] := by simp [ent]
    have key : ∀ h, ent T (slot tab h) = s → s = [] := by
      intro h e
      rcases slot_mem tab h with h0 | hm
      · rw [h0, e0] at e; exact e.symm
      · have := List.all_eq_true.1 h1 _ hm
        rw [e] at this
        simp only [Bool.or_eq_true, List.isEmpty_iff, List.contains_iff_mem] at this
        rcases this with h | h
        · exact h
        · exact absurd h hs
    unfold fnd
    split
    · exact e0
    · rename_i hl
      have hne : s ≠ [] := by rintro rfl; exact hl (.inl rfl)
      rw [if_neg (fun e => hne (key _ e)), if_neg (fun e => hne (key _ e)), e0]

def cssT : List UInt8 := "documentfont-facekeyframesupportslayermediapage".toUTF8.data.toList
def cssTab : List Nat := [0x1109, 0x2b04, 0x2605, 0x809, 0x8, 0, 0x1908, 0x2105]
def cssN : List (List UInt8) := ["document", "font-face", "keyframes", "layer", "media", "page", "supports"].map fun s => s.toUTF8.data.toList
theorem css_tab : tabOk cssT cssTab cssN = true := by decide +kernel
theorem css_names : namesOk cssT cssTab 0x5aebcbca cssN = true := by decide +kernel
def htmlT : List UInt8 := "iframemathscriptitlestylesvgxmlxmplaintextarea".toUTF8.data.toList
def htmlTab : List Nat := [0, 0, 0xa06, 0xf05, 0x1405, 0x604, 0x6, 0, 0x1c03, 0x2608, 0, 0, 0x1f03, 0, 0x2109, 0x1903]
def htmlN : List (List UInt8) := ["iframe", "math", "plaintext", "script", "style", "svg", "textarea", "title", "xml", "xmp"].map fun s => s.toUTF8.data.toList
theorem html_tab : tabOk htmlT htmlTab htmlN = true := by decide +kernel
theorem html_names : namesOk htmlT htmlTab 0xb4b790b3 htmlN = true := by decide +kernel
theorem fnd_css (s : List UInt8) : ent cssT (fnd cssT cssTab 0x5aebcbca s) = nameIn s cssN := fnd_name css_tab css_names s
theorem fnd_html (s : List UInt8) : ent htmlT (fnd htmlT htmlTab 0xb4b790b3 s) = nameIn s htmlN := fnd_name html_tab html_names s
end Go.Proofs.YtdmkoggjnfhgfaaDoor
