import Derived.Test.Qxb6628958aWalksA
namespace Go.Proofs.Qxb6628958a
open Go.RowKit Plain

theorem four_blocks (w : World) (A B C D : Obj) : ((((w.alloc A).alloc B).alloc C).alloc D).heap[w.heap.size]? = some A ∧ ((((w.alloc A).alloc B).alloc C).alloc D).heap[w.heap.size + 1]? = some B ∧
    ((((w.alloc A).alloc B).alloc C).alloc D).heap[w.heap.size + 2]? = some C ∧ ((((w.alloc A).alloc B).alloc C).alloc D).heap[w.heap.size + 3]? = some D := by
  show ((((w.heap.push A).push B).push C).push D)[w.heap.size]? = some A ∧ ((((w.heap.push A).push B).push C).push D)[w.heap.size + 1]? = some B ∧ ((((w.heap.push A).push B).push C).push D)[w.heap.size + 2]? = some C ∧ ((((w.heap.push A).push B).push C).push D)[w.heap.size + 3]? = some D
  simp only [Array.getElem?_push, Array.size_push]
  refine ⟨?_, ?_, ?_, ?_⟩ <;> simp
  rw [if_neg (by omega), if_neg (by omega)]
set_option maxHeartbeats 400000 in
/-- nodeSubBE. -/
theorem sub_any (a b : List Int) (w : World) (ha : Bytes a) (hb : Bytes b) :
    Calls Try.prog 6 #[.agg (cel a), .agg (cel b)] w fun e w' => ∃ d, e = .returned (.agg (cel d)) ∧ Bytes d ∧ val d = (val a - val b) % top ∧ Below w.heap.size w w' := by
  go_enter Try.func6, Try.ntmps6
  go_wp2
  go_loopw [6, 7] (fun vb vi wr => ∃ (ii c : Int) (m : List Int), -1 ≤ ii ∧ ii ≤ 31 ∧ vb = .int .i64 c ∧ vi = .int .i64 ii ∧ 0 ≤ c ∧ c ≤ 1 ∧ Bytes m ∧
      wr.heap[w.heap.size]? = some (.cells (cel a) 22 (0, 0)) ∧ wr.heap[w.heap.size + 1]? = some (.cells (cel b) 22 (0, 0)) ∧ wr.heap[w.heap.size + 2]? = some (.cells (cel zeros) 22 (0, 0)) ∧ wr.heap[w.heap.size + 3]? = some (.cells (cel m) 22 (0, 0)) ∧
      Hid (low m (31 - ii).toNat = low a (31 - ii).toNat - low b (31 - ii).toNat + c * 256 ^ (31 - ii).toNat) ∧ Below w.heap.size w wr)
    (fun _ vi _ => (intOf vi + 1).toNat)
  case atStart =>
    refine ⟨31, 0, zeros, by omega, by omega, rfl, rfl, by omega, by omega, zeros_bytes, ?_, ?_, ?_, ?_, ?_, ?_⟩
    · exact (four_blocks _ _ _ _ _).1
    · exact (four_blocks _ _ _ _ _).2.1
    · exact (four_blocks _ _ _ _ _).2.2.1
    · exact (four_blocks _ _ _ _ _).2.2.2
    · show _ = _
      simp [low]
    · exact ((((Below.refl _ _).alloc (Nat.le_refl _) _).alloc (by simp) _).alloc (by simp; omega) _).alloc (by simp; omega) _
  case round =>
    obtain ⟨ii, c, m, hi1, hi2, rfl, rfl, hc0, hc1, hm, hA, hB, hR, hD, HV, hbel⟩ := hrel
    by_cases h0 : 0 ≤ ii
    · obtain ⟨n, rfl⟩ := Int.eq_ofNat_of_zero_le h0
      obtain ⟨x, HX⟩ : ∃ x, Hid (x = a.getD n 0) := ⟨_, rfl⟩
      obtain ⟨y, HY⟩ : ∃ y, Hid (y = b.getD n 0) := ⟨_, rfl⟩
      obtain ⟨z, HZ⟩ : ∃ z, Hid (z = m.getD n 0) := ⟨_, rfl⟩
      have hca : wr.cell? ⟨w.heap.size, n, none⟩ = some (.int .u8 x) := by
        rw [cell_of_row wr _ n _ _ _ hA, cel_get a n (by rw [ha.1]; omega), HX.out]
      have hcb : wr.cell? ⟨w.heap.size + 1, n, none⟩ = some (.int .u8 y) := by
        rw [cell_of_row wr _ n _ _ _ hB, cel_get b n (by rw [hb.1]; omega), HY.out]
      have hcd : wr.cell? ⟨w.heap.size + 3, n, none⟩ = some (.int .u8 z) := by
        rw [cell_of_row wr _ n _ _ _ hD, cel_get m n (by rw [hm.1]; omega), HZ.out]
      have hfr : wr.frozen? ⟨w.heap.size + 3, n, none⟩ = false := frozen_of_row wr _ n _ _ hD
      have hx0 : 0 ≤ x := by rw [HX.out]; exact (ha.2 n).1
      have hx1 : x ≤ 255 := by rw [HX.out]; exact (ha.2 n).2
      have hy0 : 0 ≤ y := by rw [HY.out]; exact (hb.2 n).1
      have hy1 : y ≤ 255 := by rw [HY.out]; exact (hb.2 n).2
      have H1 : Hid _ := hA
      have H2 : Hid _ := hB
      have H3 : Hid _ := hR
      have H4 : Hid _ := hD
      have HM : Hid _ := hm
      clear hA hB hR hD hm
      have step : ∀ v c' : Int, v = x - y - c + 256 * c' → low (m.set n v) (31 - ((n : Int) - 1)).toNat = low a (31 - ((n : Int) - 1)).toNat - low b (31 - ((n : Int) - 1)).toNat + c' * 256 ^ (31 - ((n : Int) - 1)).toNat := by
        intro v c' hv
        have hlo := HV.out
        rw [show (31 - (n : Int)).toNat = 31 - n by omega] at hlo
        have e := sub_round a b m (31 - n) c HM.out.1 (by omega) hlo v c' (by rw [show 31 - (31 - n) = n by omega, ← HX.out, ← HY.out]; exact hv)
        rw [show 31 - (31 - n) = n by omega] at e
        rw [show (31 - ((n : Int) - 1)).toNat = 31 - n + 1 by omega]
        exact e
      have HS : Hid _ := step
      clear step
      go_wp2
      go_quiet (fail)
      go_wp2
      · go_roundw
        case rel =>
          refine ⟨n - 1, 1, m.set n (x - y - c + 256), by omega, by omega, rfl, rfl, by omega, by omega, bytes_set HM.out _ _ (by omega) (by omega), ?_, ?_, ?_, ?_, HS.out _ _ (by omega), (below_drewN hbel _).setCell (by simp; omega) _⟩
          · rw [heap_setCell_other _ _ _ _ (by simp; omega)]; exact H1.out
          · rw [heap_setCell_other _ _ _ _ (by simp)]; exact H2.out
          · rw [heap_setCell_other _ _ _ _ (by simp)]; exact H3.out
          · rw [← cel_set]; exact heap_setCell_same _ _ _ _ _ _ H4.out
        case measure => simp [intOf]
      · go_roundw
        case rel =>
          refine ⟨n - 1, 0, m.set n (x - y - c), by omega, by omega, rfl, rfl, by omega, by omega, bytes_set HM.out _ _ (by omega) (by omega), ?_, ?_, ?_, ?_, HS.out _ _ (by omega), (below_drewN hbel _).setCell (by simp; omega) _⟩
          · rw [heap_setCell_other _ _ _ _ (by simp; omega)]; exact H1.out
          · rw [heap_setCell_other _ _ _ _ (by simp)]; exact H2.out
          · rw [heap_setCell_other _ _ _ _ (by simp)]; exact H3.out
          · rw [← cel_set]; exact heap_setCell_same _ _ _ _ _ _ H4.out
        case measure => simp [intOf]
    · have hii : ii < 0 := by omega
      have hs : (cel zeros).size = (cel m).size := by rw [cel_size, cel_size, hm.1]; rfl
      have H3 : Hid _ := hR
      have H4 : Hid _ := hD
      have HM : Hid _ := hm
      have HF : Hid (val m = (val a - val b) % top) := by
        have hlo := HV.out
        rw [show (31 - ii).toNat = 32 by omega] at hlo
        exact sub_done hm hlo
      clear hA hB hR hD hm h0
      go_wp2_with (first
        | (refine wpList_load_row rfl 22 _ rfl (w.heap.size + 3) rfl 22 (cel m) (0, 0) _ H4.out Try.underlying22 rfl (size22 HM.out) ?_)
        | (refine wpList_store_row rfl 22 _ _ rfl (w.heap.size + 2) (cel m) rfl rfl 22 (cel zeros) H3.out (size22 HM.out) hs (cel_one m) ?_))
      exact bodyPost_ret (v := .agg (cel m)) (results_cell_row Try.results6 _ _ (w.heap.size + 2) 22 (cel m) (0, 0) _ rfl (setRow_heap _ _ _ _ _ _ H3.out) Try.underlying22 rfl (size22 HM.out)) rfl
        ⟨m, rfl, HM.out, HF.out, Below.setRow hbel (by omega) _⟩
end Go.Proofs.Qxb6628958a
