import Derived.Test.Qxb6630086aLawA
namespace Go.Proofs.Qxb6630086a
open Go.RowKit

theorem waits_intention (a c d : Int) (sup : Bool) : waits a 3 c d sup = gapB d := by simp [waits]
theorem waits_held (a b c : Int) (sup : Bool) : waits a b c 3 sup = false := by
  unfold waits; split
  · rfl
  · cases sup <;> simp [recB]
theorem waits_sup (a b c d : Int) : waits a b c d true = (decide (b = 3) && gapB d) := by
  by_cases h : b = 3 <;> simp [waits, h]

set_option maxHeartbeats 1000000 in
theorem walkB (a0 a1 a2 a3 : Int) (a4 : Bool) (w : World) :
    Calls Try.prog 4 #[.int .u8 a0, .int .u8 a1, .int .u8 a2, .int .u8 a3, .bool a4] w fun e w' => e = .returned (.bool true) ∧ Below w.heap.size w w' := by
  obtain ⟨g, hg⟩ : ∃ r, gapB a3 = r := ⟨_, rfl⟩
  have HG := hid hg
  clear hg
  go_enter Try.func4, Try.ntmps4
  go_wp2_with fail
  refine (waits_b (r := g) (by rw [waits_intention]; exact HG.out) _).mono ?_
  rintro e w1 ⟨rfl, hb1⟩
  have t1 := (Two.made w a0 a1 a2 a3).later ((below2 _ _ _ _ _).trans (hb1.mono (by simp)))
  have u1 := (Two.made ((w.alloc (.cells #[.int .u8 a0, .int .u8 a1] 25)).alloc (.cells #[.int .u8 a2, .int .u8 a3] 25)) a0 3 a2 3).later hb1
  rw [show ((w.alloc (.cells #[.int .u8 a0, .int .u8 a1] 25)).alloc (.cells #[.int .u8 a2, .int .u8 a3] 25)).heap.size = w.heap.size + 2 from by simp] at u1
  clear hb1
  have T1 := hid t1
  have U1 := hid u1
  obtain ⟨c0, c1, d0, d1, sz1, -⟩ := t1
  obtain ⟨e0, e1, f0, f1, sz2, -⟩ := u1
  go_wp2_with fail
  refine (waits_b (r := g) (by rw [waits_intention]; exact HG.out) _).mono ?_
  rintro e w2 ⟨rfl, hb2⟩
  have T2 := hid (T1.out.later hb2)
  have U2 := hid (U1.out.later hb2)
  clear hb2 T1 c0 c1 d0 d1 sz1 U1 e0 e1 f0 f1 sz2
  obtain ⟨c0, c1, d0, d1, sz1, -⟩ := T2.out
  obtain ⟨e0, e1, f0, f1, sz2, -⟩ := U2.out
  go_wp2_with fail
  refine (waits_b (waits_held _ _ _ _) _).mono ?_
  rintro e w3 ⟨rfl, hb3⟩
  have T3 := hid (T2.out.later hb3)
  clear hb3 T2 U2 c0 c1 d0 d1 sz1 e0 e1 f0 f1 sz2
  obtain ⟨c0, c1, d0, d1, sz1, -⟩ := T3.out
  go_wp2_with fail
  refine (waits_b (r := decide (a1 = 3) && g) (by rw [waits_sup, HG.out]) _).mono ?_
  rintro e w4 ⟨rfl, hb4⟩
  have T4 := hid (T3.out.later hb4)
  clear hb4 T3 c0 c1 d0 d1 sz1
  obtain ⟨c0, c1, d0, d1, sz1, -⟩ := T4.out
  go_wp2_with fail
  refine (gap_b HG.out _).mono ?_
  rintro e w' ⟨rfl, rfl⟩
  by_cases h1 : a1 = 3 <;> cases g <;> (
    simp only [h1, decide_true, decide_false, Bool.true_and, Bool.false_and]
    go_wp2
    go_ret
    exact ⟨rfl, T4.out.below⟩)
end Go.Proofs.Qxb6630086a
