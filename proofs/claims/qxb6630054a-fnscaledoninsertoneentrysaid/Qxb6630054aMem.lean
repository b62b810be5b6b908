import Derived.Test.Qxb6630054aRows
import Derived.WalkKit
import Derived.WalkSpells
import Derived.WalkLawsBesides
import Derived.Deep.QuietTactic
import Derived.BigQuiet
import Derived.Deep.OwnRows
import Derived.Deep.RegionHeld3
namespace Go.Proofs.Qxb6630054a
open Go.RowKit

theorem hid {p : Prop} (h : p) : Hid p := h
theorem ret_bool {a b : Bool} (h : a = b) : Ending.returned (.bool a) = .returned (.bool b) := by rw [h]

/-! ### WHAT LIES IN MEMORY -/
/-- An entry: its metric and its target. -/
abbrev Ent := ByteArray × Int
/-- A slice of entries that begins at 'ao' holds 'es'. -/
def EntRow (w : World) (ao : Option Addr) (es : List Ent) : Prop :=
  ∀ i (h : i < es.length), ∃ b o, ao = some ⟨b, o, none⟩ ∧ w.cell? ⟨b, o + i * 2, none⟩ = some (.string es[i].1) ∧ w.cell? ⟨b, o + i * 2 + 1, none⟩ = some (.int .i64 es[i].2)
/-- A slice of strings that begins at 'ao' holds 'ss'. -/
def StrRow (w : World) (ao : Option Addr) (ss : List ByteArray) : Prop :=
  ∀ i (h : i < ss.length), ∃ b o, ao = some ⟨b, o, none⟩ ∧ w.cell? ⟨b, o + i, none⟩ = some (.string ss[i])
theorem EntRow.below {w w' : World} {ao : Option Addr} {es : List Ent} (h : EntRow w ao es) (hb : Below w.heap.size w w') : EntRow w' ao es := fun i hi => by
  obtain ⟨b, o, e, c0, c1⟩ := h i hi
  exact ⟨b, o, e, cell_later hb c0, cell_later hb c1⟩
theorem StrRow.below {w w' : World} {ao : Option Addr} {ss : List ByteArray} (h : StrRow w ao ss) (hb : Below w.heap.size w w') : StrRow w' ao ss := fun i hi => by
  obtain ⟨b, o, e, c0⟩ := h i hi
  exact ⟨b, o, e, cell_later hb c0⟩
theorem Below.from {a b c : World} {B C : Nat} (h : Below B a b) (k : Below C b c) (hB : B ≤ C) : Below B a c := h.trans (k.mono hB)

/-- An owned row that is full is a row. -/
theorem rowIs_of_owns {w : World} {base e size g n cap k : Nat} {xs : List Value} (h : w.ownsRow base e size (.slice (some ⟨g, 0, none⟩) n cap) k xs) : ∃ f, w.rowIs g e (cap * size) f := by
  obtain ⟨hl, h | ⟨g', cap', cur, hv', h1, hh, h2, h3, hs, ht⟩⟩ := h
  · simp at h
  · simp only [Value.slice.injEq, Option.some.injEq, Addr.mk.injEq] at hv'
    obtain ⟨⟨rfl, -, -⟩, rfl, rfl⟩ := hv'
    exact ⟨fun i => cur[i]?.getD default, cur, hh, hs, fun i hi => by
      have : i < cur.size := by omega
      simp [this]⟩

/-- Block G: m entries, of which the first k are those of es. -/
def Fill2 (w : World) (G m k : Nat) (es : List Ent) : Prop :=
  ∃ f, w.rowIs G 30 (m * 2) f ∧ ∀ i (h : i < es.length), i < k → f (i * 2) = .string es[i].1 ∧ f (i * 2 + 1) = .int .i64 es[i].2
theorem Fill2.lt {w : World} {G m k : Nat} {es : List Ent} (h : Fill2 w G m k es) : G < w.heap.size := by obtain ⟨f, h, -⟩ := h; exact h.lt
theorem Fill2.spot {w : World} {G m k : Nat} {es : List Ent} (h : Fill2 w G m k es) (j : Nat) (hj : j < m * 2) : ∃ v, w.cell? ⟨G, j, none⟩ = some v := by
  obtain ⟨f, h, -⟩ := h; exact ⟨_, h.cell hj⟩
theorem Fill2.frozen {w : World} {G m k : Nat} {es : List Ent} (h : Fill2 w G m k es) (j : Nat) : w.frozen? ⟨G, j, none⟩ = false := by
  obtain ⟨f, h, -⟩ := h; exact h.frozen j
theorem Fill2.row {w : World} {G m : Nat} {es : List Ent} (h : Fill2 w G m es.length es) (hm : es.length ≤ m) : EntRow w (some ⟨G, 0, none⟩) es := fun i hi => by
  obtain ⟨f, hr, hf⟩ := h
  obtain ⟨e0, e1⟩ := hf i hi hi
  refine ⟨G, 0, rfl, ?_, ?_⟩
  · rw [Nat.zero_add, hr.cell (by omega), e0]
  · rw [Nat.zero_add, hr.cell (by omega), e1]
theorem Fill2.block {w w' : World} {G m k : Nat} {es : List Ent} (h : Fill2 w G m k es) (e : w'.heap[G]? = w.heap[G]?) : Fill2 w' G m k es := by
  obtain ⟨f, h, q⟩ := h; exact ⟨f, h.of_block e, q⟩
/-- One entry more. -/
theorem Fill2.step {w : World} {G m k : Nat} {es : List Ent} (h : Fill2 w G m k es) (hk : k < es.length) (x : Ent) (hx : x = es[k]) :
    Fill2 ((w.setCell ⟨G, k * 2, none⟩ (.string x.1)).setCell ⟨G, k * 2 + 1, none⟩ (.int .i64 x.2)) G m (k + 1) es := by
  obtain ⟨f, h, q⟩ := h
  refine ⟨_, (h.set _ _).set _ _, fun i hi hik => ?_⟩
  subst hx
  by_cases e : i = k
  · subst e; simp
  · obtain ⟨q0, q1⟩ := q i hi (by omega)
    have h1 : ¬ i * 2 = k * 2 + 1 := by omega
    have h2 : ¬ i * 2 = k * 2 := by omega
    have h3 : ¬ i * 2 + 1 = k * 2 + 1 := by omega
    have h4 : ¬ i * 2 + 1 = k * 2 := by omega
    exact ⟨by rw [if_neg h1, if_neg h2]; exact q0, by rw [if_neg h3, if_neg h4]; exact q1⟩

/-- Block G: n strings, of which the first k are those of ss. -/
def Fill1 (w : World) (G n k : Nat) (ss : List ByteArray) : Prop :=
  ∃ f, w.rowIs G 9 n f ∧ ∀ i (h : i < ss.length), i < k → f i = .string ss[i]
theorem Fill1.lt {w : World} {G m k : Nat} {es : List ByteArray} (h : Fill1 w G m k es) : G < w.heap.size := by obtain ⟨f, h, -⟩ := h; exact h.lt
theorem Fill1.spot {w : World} {G m k : Nat} {es : List ByteArray} (h : Fill1 w G m k es) (j : Nat) (hj : j < m) : ∃ v, w.cell? ⟨G, j, none⟩ = some v := by
  obtain ⟨f, h, -⟩ := h; exact ⟨_, h.cell hj⟩
theorem Fill1.frozen {w : World} {G m k : Nat} {es : List ByteArray} (h : Fill1 w G m k es) (j : Nat) : w.frozen? ⟨G, j, none⟩ = false := by
  obtain ⟨f, h, -⟩ := h; exact h.frozen j
theorem Fill1.row {w : World} {G n : Nat} {ss : List ByteArray} (h : Fill1 w G n n ss) (hn : ss.length = n) : StrRow w (some ⟨G, 0, none⟩) ss := fun i hi => by
  obtain ⟨f, hr, hf⟩ := h
  refine ⟨G, 0, rfl, ?_⟩
  rw [Nat.zero_add, hr.cell (by omega), hf i hi (by omega)]
theorem Fill1.block {w w' : World} {G m k : Nat} {es : List ByteArray} (h : Fill1 w G m k es) (e : w'.heap[G]? = w.heap[G]?) : Fill1 w' G m k es := by
  obtain ⟨f, h, q⟩ := h; exact ⟨f, h.of_block e, q⟩
theorem Fill1.alloc {w : World} {G m k : Nat} {es : List ByteArray} (h : Fill1 w G m k es) (o : Obj) : Fill1 (w.alloc o) G m k es := by
  obtain ⟨f, h, q⟩ := h; exact ⟨f, h.alloc o, q⟩
theorem Fill1.step {w : World} {G m k : Nat} {ss : List ByteArray} (h : Fill1 w G m k ss) (hk : k < ss.length) (x : ByteArray) (hx : x = ss[k]) :
    Fill1 (w.setCell ⟨G, k, none⟩ (.string x)) G m (k + 1) ss := by
  obtain ⟨f, h, q⟩ := h
  refine ⟨_, h.set _ _, fun i hi hik => ?_⟩
  subst hx
  by_cases e : i = k
  · subst e; simp
  · rw [if_neg e]; exact q i hi (by omega)

theorem Try.own : ownKnob Try.prog.godebug = none := by kernel_rfl
theorem Try.info9 : (Try.prog.info? 9).map (fun i => (i.zero, i.size, i.bytes)) = some (some (.string ⟨#[]⟩), 1, 16) := by kernel_rfl
theorem Try.info30 : (Try.prog.info? 30).map (fun i => (i.zero, i.size, i.bytes)) = some (some (.agg #[.string ⟨#[]⟩, .int .i64 0]), 2, 24) := by kernel_rfl
end Go.Proofs.Qxb6630054a
