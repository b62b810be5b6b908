import Derived.Test.Qxb6628958aWalksA
namespace Go.Proofs.Qxb6628958a
open Go.RowKit Plain

theorem ret_bool {a b : Bool} (h : a = b) : Ending.returned (.bool a) = .returned (.bool b) := by rw [h]

set_option maxHeartbeats 400000 in
/-- nodeLessBE. -/
theorem less_any (a b : List Int) (w : World) (ha : Bytes a) (hb : Bytes b) :
    Calls Try.prog 8 #[.agg (cel a), .agg (cel b)] w fun e w' => e = .returned (.bool (decide (val a < val b))) ∧ Below w.heap.size w w' := by
  go_enter Try.func8, Try.ntmps8
  go_wp2
  go_loopw [5] (fun vi wr => ∃ n : Nat, n ≤ 32 ∧ vi = .int .i64 n ∧ 
      wr.heap[w.heap.size]? = some (.cells (cel a) 22 (0, 0)) ∧ wr.heap[w.heap.size + 1]? = some (.cells (cel b) 22 (0, 0)) ∧ 
      Hid (∀ t, t < n → a.getD t 0 = b.getD t 0) ∧ Below w.heap.size w wr)
    (fun vi _ => 32 - (intOf vi).toNat)
  case atStart => exact ⟨0, by omega, rfl, heap_alloc2_old _ _ _, heap_alloc2_new _ _ _, fun t ht => by omega, ((Below.refl _ _).alloc (Nat.le_refl _) _).alloc (by simp) _⟩
  case round =>
    obtain ⟨n, hn, rfl, hA, hB, HV, hbel⟩ := hrel
    by_cases h0 : n < 32
    · obtain ⟨x, HX⟩ : ∃ x, Hid (x = a.getD n 0) := ⟨_, rfl⟩
      obtain ⟨y, HY⟩ : ∃ y, Hid (y = b.getD n 0) := ⟨_, rfl⟩
      have hca : wr.cell? ⟨w.heap.size, n, none⟩ = some (.int .u8 x) := by
        rw [cell_of_row wr _ n _ _ _ hA, cel_get a n (by rw [ha.1]; omega), HX.out]
      have hcb : wr.cell? ⟨w.heap.size + 1, n, none⟩ = some (.int .u8 y) := by
        rw [cell_of_row wr _ n _ _ _ hB, cel_get b n (by rw [hb.1]; omega), HY.out]
      have H1 : Hid _ := hA
      have H2 : Hid _ := hB
      clear hA hB
      by_cases he : x = y
      · subst he
        have HE : Hid (a.getD n 0 = b.getD n 0) := HX.out.symm.trans HY.out
        go_wp2
        go_quiet (fail)
        go_wp2
        go_roundw
        case rel => 
          refine ⟨n + 1, by omega, by go_num, H1.out, H2.out, fun t ht => ?_, below_drewN hbel _⟩
          by_cases e : t = n
          · subst e; exact HE.out
          · exact HV.out t (by omega)
        case measure => simp [intOf]; omega
      · have hne : (x != y) = true := by simpa using he
        have HE : Hid (decide (x < y) = decide (val a < val b)) := by
          have := less_at ha hb n h0 HV.out (by rw [← HX.out, ← HY.out]; exact he)
          rw [← HX.out, ← HY.out] at this
          exact decide_eq_decide.2 this
        clear he
        go_wp2
        go_quiet (fail)
        go_wp2
        go_quiet (fail)
        go_wp2
        go_ret
        exact ⟨ret_bool HE.out, below_drewN (below_drewN hbel _) _⟩
    · have h32 : n = 32 := by omega
      subst h32
      have HE : Hid (decide (val a < val b) = false) := decide_eq_false (less_same HV.out)
      go_wp2
      go_ret
      exact ⟨ret_bool HE.out.symm, hbel⟩

theorem u8_and_one (y : Int) (h0 : 0 ≤ y) (h1 : y ≤ 255) : bits BinOp.and IntKind.u8 y 1 = y % 2 := by
  rw [u8_and y 1 h0 (by omega) (by decide) (by decide)]
  show ((y.toNat &&& 1 : Nat) : Int) = _
  rw [Nat.and_one_is_mod]; omega

set_option maxHeartbeats 400000 in
/-- nodeOnesFrom. -/
theorem ones_any (a : List Int) (k : Nat) (w : World) (ha : Bytes a) (hk : k ≤ 255) :
    Calls Try.prog 9 #[.agg (cel a), .int .i64 k] w fun e w' => e = .returned (.bool (decide (top ≤ val a + 2 ^ k))) ∧ Below w.heap.size w w' := by
  go_enter Try.func9, Try.ntmps9
  go_wp2
  go_loop [5] (fun vi => ∃ p : Nat, k ≤ p ∧ p ≤ 256 ∧ vi = .int .i64 p ∧ Hid (Ones (val a) k p)) (fun vi => 256 - (intOf vi).toNat)
  case atStart => exact ⟨k, by omega, by omega, rfl, ones_start _ _⟩
  case round =>
    obtain ⟨p, hkp, hp, rfl, HV⟩ := hrel
    by_cases h0 : p ≤ 255
    · obtain ⟨x, HX⟩ : ∃ x, Hid (x = a.getD (31 - p / 8) 0) := ⟨_, rfl⟩
      have hca : (cel a)[31 - p / 8]? = some (.int .u8 x) := by
        rw [cel_get a _ (by rw [ha.1]; omega), HX.out]
      have hx0 : 0 ≤ x := by rw [HX.out]; exact (ha.2 _).1
      have hx1 : x ≤ 255 := by rw [HX.out]; exact (ha.2 _).2
      have hq0 : 0 ≤ x / 2 ^ (p % 8) := Int.ediv_nonneg hx0 (by have := two_pos (p % 8); omega)
      have hq1 : x / 2 ^ (p % 8) ≤ 255 := Int.le_trans (Int.ediv_le_self _ hx0) hx1
      have hand := u8_and_one _ hq0 hq1
      have HB : Hid (x / 2 ^ (p % 8) % 2 = val a / 2 ^ p % 2) := by
        have := bit_of ha p h0
        rwa [← HX.out] at this
      by_cases hbit : x / 2 ^ (p % 8) % 2 = 0
      · have htest : (bits BinOp.and IntKind.u8 (x / 2 ^ (p % 8)) 1 == 0) = true := by rw [hand, hbit]; rfl
        have HE : Hid (decide (top ≤ val a + 2 ^ k) = false) := by
          have := ones_stop (val_bound ha).2 hkp h0 (HB.out.symm.trans hbit)
          exact decide_eq_false (by omega)
        clear hand hbit
        go_wp2
        go_ret
        exact ⟨ret_bool HE.out.symm, (Below.refl _ _).alloc (Nat.le_refl _) _⟩
      · have h1 : x / 2 ^ (p % 8) % 2 = 1 := by omega
        have htest : (bits BinOp.and IntKind.u8 (x / 2 ^ (p % 8)) 1 == 0) = false := by rw [hand, h1]; rfl
        have HE : Hid (Ones (val a) k (p + 1)) := ones_step HV.out (HB.out.symm.trans h1)
        clear hand hbit h1
        go_wp2
        go_round
        case rel => exact ⟨p + 1, by omega, by omega, by go_num, HE.out⟩
        case measure => simp [intOf]; omega
    · have h256 : p = 256 := by omega
      subst h256
      have HE : Hid (decide (top ≤ val a + 2 ^ k) = true) := decide_eq_true (ones_done (val_bound ha).1 (val_bound ha).2 HV.out)
      go_wp2
      go_ret
      exact ⟨ret_bool HE.out.symm, (Below.refl _ _).alloc (Nat.le_refl _) _⟩

theorem zero_cells : ([.int .u8 0, .int .u8 0, .int .u8 0, .int .u8 0, .int .u8 0, .int .u8 0, .int .u8 0, .int .u8 0, .int .u8 0, .int .u8 0, .int .u8 0, .int .u8 0, .int .u8 0, .int .u8 0, .int .u8 0, .int .u8 0, .int .u8 0, .int .u8 0, .int .u8 0, .int .u8 0, .int .u8 0, .int .u8 0, .int .u8 0, .int .u8 0, .int .u8 0, .int .u8 0, .int .u8 0, .int .u8 0, .int .u8 0, .int .u8 0, .int .u8 0, .int .u8 0] : List Value) = zeros.map (Value.int .u8) := rfl
set_option maxHeartbeats 400000 in
/-- nodePow2BE. -/
theorem pow2_any (k : Nat) (w : World) (hk : k ≤ 255) :
    Calls Try.prog 7 #[.int .i64 k] w fun e w' => e = .returned (.agg (cel (zeros.set (31 - k / 8) (2 ^ (k % 8))))) ∧ Below w.heap.size w w' := by
  have hp := two_le (k % 8) (by omega)
  obtain ⟨Z, HZ⟩ : ∃ Z, Hid (Z = zeros.set (31 - k / 8) (2 ^ (k % 8))) := ⟨_, rfl⟩
  have HM : Hid (Bytes Z) := by rw [HZ.out]; exact pow2_bytes k
  have hz : ([.int .u8 0, .int .u8 0, .int .u8 0, .int .u8 0, .int .u8 0, .int .u8 0, .int .u8 0, .int .u8 0, .int .u8 0, .int .u8 0, .int .u8 0, .int .u8 0, .int .u8 0, .int .u8 0, .int .u8 0, .int .u8 0, .int .u8 0, .int .u8 0, .int .u8 0, .int .u8 0, .int .u8 0, .int .u8 0, .int .u8 0, .int .u8 0, .int .u8 0, .int .u8 0, .int .u8 0, .int .u8 0, .int .u8 0, .int .u8 0, .int .u8 0, .int .u8 0] : List Value)[31 - k / 8]? = some (.int .u8 0) := by
    have e := cel_get zeros (31 - k / 8) (by rw [zeros_bytes.1]; omega)
    rw [zeros_getD] at e
    rw [zero_cells]; simpa [cel] using e
  have hE : (([.int .u8 0, .int .u8 0, .int .u8 0, .int .u8 0, .int .u8 0, .int .u8 0, .int .u8 0, .int .u8 0, .int .u8 0, .int .u8 0, .int .u8 0, .int .u8 0, .int .u8 0, .int .u8 0, .int .u8 0, .int .u8 0, .int .u8 0, .int .u8 0, .int .u8 0, .int .u8 0, .int .u8 0, .int .u8 0, .int .u8 0, .int .u8 0, .int .u8 0, .int .u8 0, .int .u8 0, .int .u8 0, .int .u8 0, .int .u8 0, .int .u8 0, .int .u8 0] : List Value).set (31 - k / 8) (.int .u8 (2 ^ (k % 8)))).toArray = cel Z := by
    rw [zero_cells, HZ.out, cel, List.map_set]
  have hs : (cel zeros).size = (cel Z).size := by rw [cel_size, cel_size, HM.out.1]; rfl
  rw [← HZ.out]
  go_enter Try.func7, Try.ntmps7
  go_wp2_with (first
    | (refine wpList_load_row rfl 22 _ rfl (w.heap.size + 1) rfl 22 (cel Z) (0, 0) _ (heap_alloc2_new _ _ _) Try.underlying22 rfl (size22 HM.out) ?_)
    | (refine wpList_store_row rfl 22 _ _ rfl w.heap.size (cel Z) rfl rfl 22 (cel zeros) (heap_alloc2_old _ _ _) (size22 HM.out) hs (cel_one Z) ?_))
  exact bodyPost_ret (v := .agg (cel Z)) (results_cell_row Try.results7 _ _ w.heap.size 22 (cel Z) (0, 0) _ rfl (setRow_heap _ _ _ _ _ _ (heap_alloc2_old _ _ _)) Try.underlying22 rfl (size22 HM.out)) rfl
    ⟨rfl, Below.setRow (((Below.refl _ _).alloc (Nat.le_refl _) _).alloc (by simp) _) (Nat.le_refl _) _⟩
end Go.Proofs.Qxb6628958a
