import Derived.Test.Qxb6630006aFmtRows
import Derived.WalkKit
import Derived.WalkSpells
import Derived.WalkLawsBesides
import Derived.Deep.QuietTactic
import Derived.BigQuiet
namespace Go.Proofs.Qxb6630006aFmt
open Go.RowKit

theorem hid {p : Prop} (h : p) : Hid p := h

/-! ### WHAT LIES IN MEMORY -/
/-- A server: its name and its address (Listen is empty, PublicKey nil: so b1Build makes them). -/
abbrev Srv := ByteArray × ByteArray
/-- The four cells of a server lie at (b, o). -/
structure Srv4 (w : World) (b o : Nat) (s : Srv) : Prop where
  c0 : w.cell? ⟨b, o, none⟩ = some (.string s.1)
  c1 : w.cell? ⟨b, o + 1, none⟩ = some (.string s.2)
  c2 : w.cell? ⟨b, o + 2, none⟩ = some (.string ⟨#[]⟩)
  c3 : w.cell? ⟨b, o + 3, none⟩ = some (.slice none 0 0)
/-- A slice of servers that begins at 'ao' holds 'ss'. -/
def SrvRow (w : World) (ao : Option Addr) (ss : List Srv) : Prop := ∀ i (h : i < ss.length), ∃ b o, ao = some ⟨b, o, none⟩ ∧ Srv4 w b (o + i * 4) ss[i]
/-- A site: its fields; the servers' slice as a value, and what it holds. -/
structure SiteV where
  name : ByteArray
  region : ByteArray
  ao : Option Addr
  cap : Nat
  ss : List Srv
/-- The servers' slice. -/
abbrev SiteV.sv (x : SiteV) : Value := .slice x.ao x.ss.length x.cap
/-- The site as a value. -/
abbrev SiteV.val (x : SiteV) : Value := .agg #[.string x.name, .string x.region, .slice x.ao x.ss.length x.cap, .pointer none]
/-- A site that can be used: its servers lie where its slice says; no more than 2^20 (and one) of them. -/
structure SiteOk (w : World) (x : SiteV) : Prop where
  row : SrvRow w x.ao x.ss
  len : x.ss.length ≤ 1048577
  nilA : x.ao = none → x.ss = [] ∧ x.cap = 0
/-- The four cells of a site lie at (b, o). -/
structure Site4 (w : World) (b o : Nat) (x : SiteV) : Prop where
  c0 : w.cell? ⟨b, o, none⟩ = some (.string x.name)
  c1 : w.cell? ⟨b, o + 1, none⟩ = some (.string x.region)
  c2 : w.cell? ⟨b, o + 2, none⟩ = some (.slice x.ao x.ss.length x.cap)
  c3 : w.cell? ⟨b, o + 3, none⟩ = some (.pointer none)
/-- A slice of sites that begins at 'ao' holds 'xs'. -/
structure SiteRow (w : World) (ao : Option Addr) (xs : List SiteV) : Prop where
  cells : ∀ i (h : i < xs.length), ∃ b o, ao = some ⟨b, o, none⟩ ∧ Site4 w b (o + i * 4) xs[i]
  ok : ∀ x ∈ xs, SiteOk w x

theorem Srv4.below {w w' : World} {b o : Nat} {s : Srv} (h : Srv4 w b o s) (hb : Below w.heap.size w w') : Srv4 w' b o s :=
  ⟨cell_later hb h.c0, cell_later hb h.c1, cell_later hb h.c2, cell_later hb h.c3⟩
theorem SrvRow.below {w w' : World} {ao : Option Addr} {ss : List Srv} (h : SrvRow w ao ss) (hb : Below w.heap.size w w') : SrvRow w' ao ss := fun i hi => by
  obtain ⟨b, o, e, k⟩ := h i hi
  exact ⟨b, o, e, k.below hb⟩
theorem SiteOk.below {w w' : World} {x : SiteV} (h : SiteOk w x) (hb : Below w.heap.size w w') : SiteOk w' x := ⟨h.row.below hb, h.len, h.nilA⟩
theorem Site4.below {w w' : World} {b o : Nat} {s : SiteV} (h : Site4 w b o s) (hb : Below w.heap.size w w') : Site4 w' b o s :=
  ⟨cell_later hb h.c0, cell_later hb h.c1, cell_later hb h.c2, cell_later hb h.c3⟩
theorem SiteRow.below {w w' : World} {ao : Option Addr} {xs : List SiteV} (h : SiteRow w ao xs) (hb : Below w.heap.size w w') : SiteRow w' ao xs :=
  ⟨fun i hi => by obtain ⟨b, o, e, k⟩ := h.cells i hi; exact ⟨b, o, e, k.below hb⟩, fun x hx => (h.ok x hx).below hb⟩

/-- 'Below' from a world that has grown. -/
theorem Below.from {B : Nat} {w w1 w2 : World} (h : Below B w w1) (h2 : Below w1.heap.size w1 w2) (hB : B ≤ w1.heap.size) : Below B w w2 := h.trans (h2.mono hB)

/-! ### THE PLAIN FUNCTIONS -/
/-- The server is called 'name' (as the walk writes the test). -/
def hit (name : ByteArray) (s : Srv) : Bool := s.1.toList == name.toList
/-- Index: the first place that holds name, or -1. -/
def idx (ss : List Srv) (name : ByteArray) : Int := match ss.findIdx? (hit name) with | some i => i | none => -1

theorem idx_hit {ss : List Srv} {name : ByteArray} {k : Nat} (hk : k < ss.length) (hb : ∀ i (h : i < ss.length), i < k → hit name ss[i] = false) (hh : hit name ss[k] = true) : idx ss name = k := by
  have : ss.findIdx? (hit name) = some k := by
    rw [List.findIdx?_eq_some_iff_getElem]
    exact ⟨hk, hh, fun j hj => by simp [hb j (by omega) hj]⟩
  simp [idx, this]
theorem idx_none {ss : List Srv} {name : ByteArray} (hb : ∀ i (h : i < ss.length), hit name ss[i] = false) : idx ss name = -1 := by
  have : ss.findIdx? (hit name) = none := by
    rw [List.findIdx?_eq_none_iff]
    intro x hx
    obtain ⟨i, hi, rfl⟩ := List.getElem_of_mem hx
    exact hb i hi
  simp [idx, this]
theorem idx_cases (ss : List Srv) (name : ByteArray) :
    (ss.any (hit name) = false ∧ idx ss name = -1 ∧ ∀ i (h : i < ss.length), hit name ss[i] = false) ∨
    (ss.any (hit name) = true ∧ ∃ k : Nat, ∃ hk : k < ss.length, idx ss name = k ∧ hit name ss[k] = true ∧ ∀ i (h : i < ss.length), i < k → hit name ss[i] = false) := by
  cases e : ss.findIdx? (hit name) with
  | none =>
    rw [List.findIdx?_eq_none_iff] at e
    refine .inl ⟨?_, by simp [idx, List.findIdx?_eq_none_iff.2 e], fun i h => e _ (List.getElem_mem h)⟩
    rw [List.any_eq_false]; intro x hx; simp [e x hx]
  | some k =>
    have e' := e
    rw [List.findIdx?_eq_some_iff_getElem] at e
    obtain ⟨hk, hh, hb⟩ := e
    refine .inr ⟨List.any_eq_true.2 ⟨_, List.getElem_mem hk, hh⟩, k, hk, by simp [idx, e'], hh, fun i h hi => by simpa using hb i hi⟩

theorem ret_bool {a b : Bool} (h : a = b) : Ending.returned (.bool a) = .returned (.bool b) := by rw [h]
theorem ret_int {k : IntKind} {a b : Int} (h : a = b) : Ending.returned (.int k a) = .returned (.int k b) := by rw [h]

end Go.Proofs.Qxb6630006aFmt
