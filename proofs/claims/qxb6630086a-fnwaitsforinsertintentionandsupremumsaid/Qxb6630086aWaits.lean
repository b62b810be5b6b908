import Derived.Test.Qxb6630086aRows
import Derived.WalkKit
import Derived.WalkSpells
import Derived.WalkLawsBesides
namespace Go.Proofs.Qxb6630086a
open Go.RowKit

/-! ### THE PLAIN FUNCTIONS -/
/-- (Span).HasRecord. -/
def recB (s : Int) : Bool := decide (s = 0) || decide (s = 1)
/-- (Span).HasGap. -/
def gapB (s : Int) : Bool := decide (s = 0) || decide (s = 2)
/-- (Mode).WaitsFor. -/
def waits (a b c d : Int) (sup : Bool) : Bool :=
  if b = 3 then gapB d else if sup then false else recB b && recB d && !(decide (a = 2) && decide (c = 2))

/-- A mode as a value. -/
abbrev mode (a b : Int) : Value := .agg #[.int .u8 a, .int .u8 b]

theorem ret_bool {a b : Bool} (h : a = b) : Ending.returned (.bool a) = .returned (.bool b) := by rw [h]

theorem rec_any (s : Int) (w : World) : Calls Try.prog 6 #[.int .u8 s] w fun e w' => e = .returned (.bool (recB s)) ∧ w' = w := by
  by_cases h0 : s = 0
  · subst h0
    go_enter Try.func6, Try.ntmps6
    go_wp2
    go_ret
    exact ⟨rfl, rfl⟩
  by_cases h1 : s = 1
  · subst h1
    go_enter Try.func6, Try.ntmps6
    go_wp2
    go_ret
    exact ⟨rfl, rfl⟩
  go_enter Try.func6, Try.ntmps6
  go_wp2
  go_ret
  exact ⟨ret_bool (by simp [recB, h0, h1]), rfl⟩

theorem gap_any (s : Int) (w : World) : Calls Try.prog 7 #[.int .u8 s] w fun e w' => e = .returned (.bool (gapB s)) ∧ w' = w := by
  by_cases h0 : s = 0
  · subst h0
    go_enter Try.func7, Try.ntmps7
    go_wp2
    go_ret
    exact ⟨rfl, rfl⟩
  by_cases h1 : s = 2
  · subst h1
    go_enter Try.func7, Try.ntmps7
    go_wp2
    go_ret
    exact ⟨rfl, rfl⟩
  go_enter Try.func7, Try.ntmps7
  go_wp2
  go_ret
  exact ⟨ret_bool (by simp [gapB, h0, h1]), rfl⟩

theorem below2 (w : World) (c d : Array Value) (t u : TypeId) : Below w.heap.size w ((w.alloc (.cells c t)).alloc (.cells d u)) :=
  ((Below.refl _ _).alloc (Nat.le_refl _) _).alloc (by simp) _

theorem waits_any (a b c d : Int) (sup : Bool) (w : World) :
    Calls Try.prog 5 #[mode a b, mode c d, .bool sup] w fun e w' => e = .returned (.bool (waits a b c d sup)) ∧ Below w.heap.size w w' := by
  by_cases hb : b = 3
  · subst hb
    go_enter Try.func5, Try.ntmps5
    go_wp2_with fail
    refine (gap_any d _).mono ?_
    rintro e w' ⟨rfl, rfl⟩
    go_wp2
    go_ret
    exact ⟨ret_bool (by simp [waits]), below2 ..⟩
  cases sup
  · obtain ⟨r1, hr1⟩ : ∃ r, recB b = r := ⟨_, rfl⟩
    obtain ⟨r2, hr2⟩ : ∃ r, recB d = r := ⟨_, rfl⟩
    by_cases ha : a = 2 <;> by_cases hc : c = 2 <;> cases r1 <;> cases r2 <;> (
      go_enter Try.func5, Try.ntmps5
      go_wp2_with fail
      refine (rec_any b _).mono ?_
      rintro e w' ⟨rfl, rfl⟩
      rw [hr1]
      go_wp2_with fail
      first
      | (refine (rec_any d _).mono ?_
         rintro e w' ⟨rfl, rfl⟩
         rw [hr2]
         go_wp2
         go_ret)
      | go_ret
      exact ⟨ret_bool (by simp [waits, hb, hr1, hr2, ha, hc]), below2 ..⟩)
  · go_enter Try.func5, Try.ntmps5
    go_wp2
    go_ret
    exact ⟨ret_bool (by simp [waits, hb]), below2 ..⟩
end Go.Proofs.Qxb6630086a
