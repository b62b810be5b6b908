import Derived.Test.Qxb6630086aWaits
namespace Go.Proofs.Qxb6630086a
open Go.RowKit

theorem hid {p : Prop} (h : p) : Hid p := h
theorem waits_b {a b c d : Int} {sup r : Bool} (h : waits a b c d sup = r) (w : World) :
    Calls Try.prog 5 #[mode a b, mode c d, .bool sup] w fun e w' => e = .returned (.bool r) ∧ Below w.heap.size w w' := h ▸ waits_any a b c d sup w
theorem rec_b {s : Int} {r : Bool} (h : recB s = r) (w : World) : Calls Try.prog 6 #[.int .u8 s] w fun e w' => e = .returned (.bool r) ∧ w' = w := h ▸ rec_any s w
theorem gap_b {s : Int} {r : Bool} (h : gapB s = r) (w : World) : Calls Try.prog 7 #[.int .u8 s] w fun e w' => e = .returned (.bool r) ∧ w' = w := h ▸ gap_any s w

theorem waits_comm (a b c d : Int) (sup : Bool) (hb : b ≠ 3) (hd : d ≠ 3) : waits c d a b sup = waits a b c d sup := by
  cases sup <;> simp [waits, hb, hd]
  cases recB b <;> cases recB d <;> cases decide (a = 2) <;> cases decide (c = 2) <;> rfl
theorem waits_rec (a c : Int) : waits a 1 c 1 false = !(decide (a = 2) && decide (c = 2)) := by
  simp [waits, recB]
theorem waits_rec' (a b c d : Int) (sup : Bool) (hb : b ≠ 3) : waits a b c d sup = (!sup && recB b && recB d && !(decide (a = 2) && decide (c = 2))) := by
  cases sup <;> simp [waits, hb]

/-- Two modes lie in two blocks of their own, one behind the other. -/
structure Two (w w' : World) (n : Nat) (a b c d : Int) : Prop where
  c0 : w'.cell? ⟨n, 0, none⟩ = some (.int .u8 a)
  c1 : w'.cell? ⟨n, 1, none⟩ = some (.int .u8 b)
  d0 : w'.cell? ⟨n + 1, 0, none⟩ = some (.int .u8 c)
  d1 : w'.cell? ⟨n + 1, 1, none⟩ = some (.int .u8 d)
  sz : n + 1 < w'.heap.size
  below : Below w.heap.size w w'
theorem Two.later {w w' w'' : World} {n : Nat} {a b c d : Int} (h : Two w w' n a b c d) (k : Below w'.heap.size w' w'') : Two w w'' n a b c d :=
  ⟨cell_later k h.c0, cell_later k h.c1, cell_later k h.d0, cell_later k h.d1, Nat.lt_of_lt_of_le h.sz k.size, h.below.trans (k.mono h.below.size)⟩
theorem Two.made (w : World) (a b c d : Int) : Two w ((w.alloc (.cells #[.int .u8 a, .int .u8 b] 25)).alloc (.cells #[.int .u8 c, .int .u8 d] 25)) w.heap.size a b c d :=
  ⟨by simp, by simp, by simp, by simp, by simp, below2 ..⟩

set_option maxHeartbeats 1000000 in
theorem walkA (a0 a1 a2 a3 : Int) (a4 : Bool) (w : World) :
    Calls Try.prog 3 #[.int .u8 a0, .int .u8 a1, .int .u8 a2, .int .u8 a3, .bool a4] w fun e w' => e = .returned (.bool true) ∧ Below w.heap.size w w' := by
  by_cases h1 : a1 = 3
  · go_enter Try.func3, Try.ntmps3
    go_wp2
    go_ret
    exact ⟨rfl, Below.refl _ _⟩
  by_cases h3 : a3 = 3
  · go_enter Try.func3, Try.ntmps3
    go_wp2
    go_ret
    exact ⟨rfl, Below.refl _ _⟩
  obtain ⟨f, hf⟩ : ∃ r, waits a0 a1 a2 a3 a4 = r := ⟨_, rfl⟩
  have hf' : waits a2 a3 a0 a1 a4 = f := by rw [waits_comm _ _ _ _ _ h1 h3]; exact hf
  obtain ⟨g, hg⟩ : ∃ r, waits a0 1 a2 1 false = r := ⟨_, rfl⟩
  have HF := hid hf
  have HF' := hid hf'
  have HG := hid hg
  clear hf hf' hg
  go_enter Try.func3, Try.ntmps3
  go_wp2_with fail
  refine (waits_b HF.out _).mono ?_
  rintro e w1 ⟨rfl, hb1⟩
  have t1 := (Two.made w a0 a1 a2 a3).later hb1
  clear hb1
  have T1 := hid t1
  obtain ⟨c0, c1, d0, d1, sz1, -⟩ := t1
  go_wp2_with fail
  refine (waits_b HF'.out _).mono ?_
  rintro e w2 ⟨rfl, hb2⟩
  have T2 := hid (T1.out.later hb2)
  have U2 := hid (Two.made w2 a0 1 a2 1)
  clear hb2 T1 c0 c1 d0 d1 sz1
  go_wp2_with fail
  refine (waits_b HG.out _).mono ?_
  rintro e w3 ⟨rfl, hb3⟩
  have t3 := T2.out.later ((below2 w2 _ _ _ _).trans (hb3.mono (by simp; omega)))
  clear hb3
  obtain ⟨c0, c1, d0, d1, sz3, hb⟩ := t3
  have HB := hid hb
  have hg := HG.out
  have hf := HF.out
  rw [waits_rec] at hg
  rw [waits_rec' _ _ _ _ _ h1] at hf
  clear HF HF' HG T2 U2 hb
  obtain ⟨r1, hr1⟩ : ∃ r, recB a1 = r := ⟨_, rfl⟩
  obtain ⟨r3, hr3⟩ : ∃ r, recB a3 = r := ⟨_, rfl⟩
  rw [hr1, hr3] at hf
  by_cases ha : a0 = 2 <;> by_cases hc : a2 = 2 <;> cases a4 <;> (
    simp [ha, hc] at hg
    subst hg
    cases r1 <;> cases r3 <;> (
      simp [ha, hc] at hf
      subst hf
      go_wp2_with fail
      first
      | (refine (rec_b hr1 _).mono ?_
         rintro e w' ⟨rfl, rfl⟩
         go_wp2_with fail
         first
         | (refine (rec_b hr3 _).mono ?_
            rintro e w' ⟨rfl, rfl⟩
            go_wp2
            go_ret)
         | go_ret)
      | go_ret
      exact ⟨rfl, HB.out⟩))
end Go.Proofs.Qxb6630086a
