import Derived.Test.Qxb6630054aMem
namespace Go.Proofs.Qxb6630054a
open Go.RowKit

/-- It answers; and 'true' only where C holds; the world is as it was. -/
def ZzAns (w : World) (C : Prop) (e : Ending) (w' : World) : Prop := ∃ v : Bool, e = .returned (.bool v) ∧ w = w' ∧ (v = true → C)
/-- It answers with some number; the world is as it was. -/
def SomeInt (w : World) (e : Ending) (w' : World) : Prop := ∃ z : Int, e = .returned (.int .i64 z) ∧ w = w'

set_option maxHeartbeats 1000000 in
theorem zz10 (m p : ByteArray) (i1 i2 i3 i4 i5 i6 : Int) (ao : Option Addr) (n cap : Nat) (c : Int) (es : List Ent) (w : World) (hm : m.size ≤ maxLen) (hp : p.size ≤ maxLen) (hs : ∀ i (h : i < es.length), es[i].1.size ≤ maxLen) (hl : es.length = n) (hn : n ≤ maxLen) (hr : EntRow w ao es) :
    Calls Try.prog 10 #[.string m, .int .i64 i1, .int .i64 i2, .int .i64 i3, .int .i64 i4, .int .i64 i5, .int .i64 i6, .string p, .slice ao n cap, .int .i64 c] w (ZzAns w (n ≤ 1048576)) := by
  have HS := hid hs
  have HL := hid hl
  have HR := hid hr
  clear hs hl hr
  unfold maxLen at hm hp hn
  go_enter Try.func10, Try.ntmps10
  go_wp2
  all_goals try (go_ret; exact ⟨false, rfl, rfl, fun h => by cases h⟩)
  go_loop [21, 22] (fun vz vi => ∃ (z : Int) (k : Nat), 0 ≤ z ∧ z ≤ 1048576 ∧ k ≤ n ∧ vz = .int .i64 z ∧ vi = .int .i64 k) (fun _ vi => n - (intOf vi).toNat)
  case atStart => exact ⟨_, 0, by omega, by omega, by omega, rfl, rfl⟩
  case round =>
    obtain ⟨z, k, hz0, hz1, hk, rfl, rfl⟩ := hrel
    by_cases h : k < n
    · have hke : k < es.length := by have := HL.out; omega
      obtain ⟨b, o, rfl, c0, -⟩ := HR.out k hke
      have hsk := HS.out k hke
      obtain ⟨x, hx⟩ : ∃ x, x = es[k] := ⟨_, rfl⟩
      rw [← hx] at c0 hsk
      unfold maxLen at hsk
      clear hx
      go_wp2
      all_goals first
        | (go_ret; exact ⟨false, rfl, rfl, fun h => by cases h⟩)
        | (go_round
           case rel => exact ⟨_, k + 1, by omega, by omega, by omega, rfl, by go_num⟩
           case measure => simp [intOf]; omega)
    · go_wp2
      go_ret
      exact ⟨true, rfl, rfl, fun _ => by omega⟩
set_option maxHeartbeats 1000000 in
theorem zz5 (m p q : ByteArray) (i1 i2 i3 i4 i5 i6 : Int) (ao : Option Addr) (n cap : Nat) (c d : Int) (es : List Ent) (w : World) (hm : m.size ≤ maxLen) (hp : p.size ≤ maxLen) (hq : q.size ≤ maxLen) (hs : ∀ i (h : i < es.length), es[i].1.size ≤ maxLen) (hl : es.length = n) (hn : n ≤ maxLen) (hr : EntRow w ao es) :
    Calls Try.prog 5 #[.string m, .int .i64 i1, .int .i64 i2, .int .i64 i3, .int .i64 i4, .int .i64 i5, .int .i64 i6, .string p, .slice ao n cap, .int .i64 c, .string q, .int .i64 d] w (ZzAns w (n ≤ 1048576)) := by
  have HS := hid hs
  have HL := hid hl
  have HR := hid hr
  clear hs hl hr
  unfold maxLen at hm hp hq hn
  go_enter Try.func5, Try.ntmps5
  go_wp2
  all_goals try (go_ret; exact ⟨false, rfl, rfl, fun h => by cases h⟩)
  go_loop [25, 26] (fun vz vi => ∃ (z : Int) (k : Nat), 0 ≤ z ∧ z ≤ 1048576 ∧ k ≤ n ∧ vz = .int .i64 z ∧ vi = .int .i64 k) (fun _ vi => n - (intOf vi).toNat)
  case atStart => exact ⟨_, 0, by omega, by omega, by omega, rfl, rfl⟩
  case round =>
    obtain ⟨z, k, hz0, hz1, hk, rfl, rfl⟩ := hrel
    by_cases h : k < n
    · have hke : k < es.length := by have := HL.out; omega
      obtain ⟨b, o, rfl, c0, -⟩ := HR.out k hke
      have hsk := HS.out k hke
      obtain ⟨x, hx⟩ : ∃ x, x = es[k] := ⟨_, rfl⟩
      rw [← hx] at c0 hsk
      unfold maxLen at hsk
      clear hx
      go_wp2
      all_goals first
        | (go_ret; exact ⟨false, rfl, rfl, fun h => by cases h⟩)
        | (go_round
           case rel => exact ⟨_, k + 1, by omega, by omega, by omega, rfl, by go_num⟩
           case measure => simp [intOf]; omega)
    · go_wp2
      all_goals (go_ret; first | exact ⟨false, rfl, rfl, fun h => by cases h⟩ | exact ⟨true, rfl, rfl, fun _ => by omega⟩)

set_option maxHeartbeats 1000000 in
theorem bytes6 (m p q : ByteArray) (ao : Option Addr) (n cap : Nat) (es : List Ent) (w : World) (hm : m.size ≤ maxLen) (hp : p.size ≤ maxLen) (hq : q.size ≤ maxLen) (hs : ∀ i (h : i < es.length), es[i].1.size ≤ maxLen) (hl : es.length = n) (hn : n ≤ maxLen) (hr : EntRow w ao es) :
    Calls Try.prog 6 #[.string m, .string p, .slice ao n cap, .string q] w (SomeInt w) := by
  have HS := hid hs
  have HL := hid hl
  have HR := hid hr
  clear hs hl hr
  unfold maxLen at hm hp hq hn
  go_enter Try.func6, Try.ntmps6
  go_wp2
  all_goals try (go_ret; exact ⟨_, rfl, rfl⟩)
  go_loop [10, 11] (fun vz vi => ∃ (z : Int) (k : Nat), 0 ≤ z ∧ z ≤ 1048576 ∧ k ≤ n ∧ vz = .int .i64 z ∧ vi = .int .i64 k) (fun _ vi => n - (intOf vi).toNat)
  case atStart => exact ⟨_, 0, by omega, by omega, by omega, rfl, rfl⟩
  case round =>
    obtain ⟨z, k, hz0, hz1, hk, rfl, rfl⟩ := hrel
    by_cases h : k < n
    · have hke : k < es.length := by have := HL.out; omega
      obtain ⟨b, o, rfl, c0, -⟩ := HR.out k hke
      have hsk := HS.out k hke
      obtain ⟨x, hx⟩ : ∃ x, x = es[k] := ⟨_, rfl⟩
      rw [← hx] at c0 hsk
      unfold maxLen at hsk
      clear hx
      go_wp2
      all_goals first
        | (go_ret; exact ⟨_, rfl, rfl⟩)
        | (go_round
           case rel => exact ⟨_, k + 1, by omega, by omega, by omega, rfl, by go_num⟩
           case measure => simp [intOf]; omega)
    · go_wp2
      go_ret
      exact ⟨_, rfl, rfl⟩
end Go.Proofs.Qxb6630054a
