import Derived.Test.Qxb6628958aWalksD
namespace Go.Proofs.Qxb6628958a
open Go.RowKit Plain

set_option maxHeartbeats 1000000 in
theorem law_sum_walk_top (l : List Int) (k : Nat) (w : World) (hl : Bytes l) (hk : k ≤ 255) (HK : Hid (k = 255)) :
    Calls Try.prog 3 #[.agg (cel l), .int .i64 k] w fun e w' => e = .returned (.bool true) ∧ Below w.heap.size w w' := by
  have HL : Hid (Bytes l) := hl
  have hs := size_cel hl
  have g22 := guard22
  have g23 := guard23
  have hk255 : ((k : Int) == 255) = true := by rw [HK.out]; rfl
  clear hl
  go_enter Try.func3, Try.ntmps3
  go_wp2_with (first
    | (refine wpList_load_row rfl 22 _ rfl w.heap.size rfl 22 (cel l) (0, 0) _ (heap_alloc_last w _) Try.underlying22 rfl (size22 HL.out) ?_)
    | (refine wpList_load_row rfl 23 _ rfl (w.heap.size + 1) rfl 23 (cel l) (0, 0) _ (heap_alloc2_new w _ _) Try.underlying23 rfl (size23 HL.out) ?_)
    | (refine wpList_store_new rfl 23 _ _ rfl (w.heap.size + 1) _ (cel l) 23 rfl rfl (by simp) (size23 HL.out) hs.symm (cel_one l) ?_))
  refine (add_any l k _ HL.out (by omega)).mono ?_
  rintro e w1 ⟨r, rfl, hr, hv, hb⟩
  have HR : Hid (Bytes r) := hr
  have HV : Hid (val r = (val l + 2 ^ k) % top) := hv
  have hsr := size_cel hr
  have hA : w1.heap[w.heap.size]? = some (.cells (cel l) 22 (0, 0)) := (hb.block _ (by simp; omega)).trans (heap_alloc2_old _ _ _)
  have hX : w1.heap[w.heap.size + 1]? = some (.cells (cel l) 23 (0, 0)) := (hb.block _ (by simp)).trans (heap_alloc2_new _ _ _)
  have hz1 : w.heap.size + 2 ≤ w1.heap.size := by have := hb.size; simp at this; omega
  have hA1 : (w1.alloc (.cells (cel r) 23)).heap[w.heap.size]? = some (.cells (cel l) 22 (0, 0)) := (Below.heap_alloc _ _ _ (by omega)).trans hA
  have hX1 : (w1.alloc (.cells (cel r) 23)).heap[w.heap.size + 1]? = some (.cells (cel l) 23 (0, 0)) := (Below.heap_alloc _ _ _ (by omega)).trans hX
  have HA1 : Hid _ := hA1
  have HX1 : Hid _ := hX1
  have HB : Hid (Below w.heap.size w w1) := (((Below.refl _ _).alloc (Nat.le_refl _) _).alloc (by simp) _).trans (hb.mono (by simp; omega))
  clear hA hX hA1 hX1 hb hr hv
  go_wp2_with (first
    | (refine wpList_load_row rfl 23 _ rfl w1.heap.size rfl 23 (cel r) (0, 0) _ (heap_alloc_last w1 _) Try.underlying23 rfl (size23 HR.out) ?_)
    | (refine wpList_load_row rfl 22 _ rfl w1.heap.size rfl 23 (cel r) (0, 0) _ (heap_alloc_last w1 _) Try.underlying22 rfl (size22 HR.out) ?_)
    | (refine wpList_load_row rfl 22 _ rfl w.heap.size rfl 22 (cel l) (0, 0) _ HA1.out Try.underlying22 rfl (size22 HL.out) ?_)
    | (refine wpList_store_new rfl 23 _ _ rfl w1.heap.size _ (cel r) 23 rfl rfl rfl (size23 HR.out) hsr.symm (cel_one r) ?_))
  refine (sub_any r l _ HR.out HL.out).mono ?_
  rintro e w2 ⟨d, rfl, hd, hdv, hb⟩
  have ed := law_sum (by omega) HV.out hdv hd
  subst ed
  have hA2 : w2.heap[w.heap.size + 1]? = some (.cells (cel l) 23 (0, 0)) := (hb.block _ (by simp; omega)).trans HX1.out
  have hR2 : w2.heap[w1.heap.size]? = some (.cells (cel r) 23 (0, 0)) := (hb.block _ (by simp)).trans (heap_alloc_last w1 _)
  have HA2 : Hid _ := hA2
  have HR2 : Hid _ := hR2
  have hz2 : w1.heap.size + 1 ≤ w2.heap.size := by have := hb.size; simpa using this
  have HB2 : Hid (Below w.heap.size w w2) := (HB.out.alloc (by omega) _).trans (hb.mono (by simp; omega))
  clear hA2 hR2 hb HB HA1 HX1 hd hdv
  go_wp2_with fail
  refine (pow2_any k _ (by omega)).mono ?_
  rintro e w3 ⟨rfl, hb⟩
  have hA2 : w3.heap[w.heap.size + 1]? = some (.cells (cel l) 23 (0, 0)) := (hb.block _ (by omega)).trans HA2.out
  have hR2 : w3.heap[w1.heap.size]? = some (.cells (cel r) 23 (0, 0)) := (hb.block _ (by omega)).trans HR2.out
  have HA3 : Hid _ := hA2
  have HR3 : Hid _ := hR2
  have hz3 : w2.heap.size ≤ w3.heap.size := hb.size
  have HB3 : Hid (Below w.heap.size w w3) := HB2.out.trans (hb.mono (by omega))
  have heq := eq22 (pow2_bytes k) (pow2_bytes k)
  simp only [BEq.rfl] at heq
  clear hA2 hR2 hb HB2 HA2 HR2
  go_wp2_with (first
    | (refine wpList_load_row rfl 23 _ rfl w1.heap.size rfl 23 (cel r) (0, 0) _ HR3.out Try.underlying23 rfl (size23 HR.out) ?_))
  refine (add_any r k _ HR.out (by omega)).mono ?_
  rintro e w4 ⟨t, rfl, ht, htv, hb⟩
  have hA2 : w4.heap[w.heap.size + 1]? = some (.cells (cel l) 23 (0, 0)) := (hb.block _ (by omega)).trans HA3.out
  have HT : Hid (Bytes t) := ht
  have hst := size_cel ht
  have HTV : Hid (val t = (val r + 2 ^ k) % top) := htv
  have HX : Hid ((w4.alloc (.cells (cel t) 23)).heap[w.heap.size + 1]? = some (.cells (cel l) 23 (0, 0))) := (Below.heap_alloc _ _ _ (by have := hb.size; omega)).trans hA2
  have hz4 : w3.heap.size ≤ w4.heap.size := hb.size
  have HB4 : Hid (Below w.heap.size w (w4.alloc (.cells (cel t) 23))) := (HB3.out.trans (hb.mono (by omega))).alloc (by omega) _
  clear hA2 hb HB3 HA3 HR3 ht htv
  have et : t = l := by
    have h1 := HV.out
    have h2 := HTV.out
    rw [HK.out] at h1 h2
    exact law_wrap HL.out HT.out h1 h2
  have HE : Hid (t = l) := et
  have heq' := eq23 HT.out HL.out
  have heq'' : (t == l) = true := by rw [et]; simp
  rw [heq''] at heq'
  clear et heq''
  go_wp2_with (first
    | (refine wpList_load_row rfl 23 _ rfl w4.heap.size rfl 23 (cel t) (0, 0) _ (heap_alloc_last w4 _) Try.underlying23 rfl (size23 HT.out) ?_)
    | (refine wpList_load_row rfl 23 _ rfl (w.heap.size + 1) rfl 23 (cel l) (0, 0) _ HX.out Try.underlying23 rfl (size23 HL.out) ?_)
    | (refine wpList_store_new rfl 23 _ _ rfl w4.heap.size _ (cel t) 23 rfl rfl rfl (size23 HT.out) hst.symm (cel_one t) ?_))
  go_ret
  exact ⟨rfl, HB4.out⟩

set_option maxHeartbeats 1000000 in
theorem law_sum_out (l : List Int) (k : Int) (w : World) (hk : k < 0 ∨ 255 < k) :
    Calls Try.prog 3 #[.agg (cel l), .int .i64 k] w fun e w' => e = .returned (.bool true) ∧ Below w.heap.size w w' := by
  by_cases h : k < 0
  · go_enter Try.func3, Try.ntmps3
    go_wp2
    go_ret
    exact ⟨rfl, (Below.refl _ _).alloc (Nat.le_refl _) _⟩
  · have h2 : 255 < k := by omega
    clear hk
    go_enter Try.func3, Try.ntmps3
    go_wp2
    go_ret
    exact ⟨rfl, (Below.refl _ _).alloc (Nat.le_refl _) _⟩

theorem law_sum_any (l : List Int) (k : Int) (w : World) (hl : Bytes l) :
    Calls Try.prog 3 #[.agg (cel l), .int .i64 k] w fun e w' => e = .returned (.bool true) ∧ Below w.heap.size w w' := by
  by_cases h : k < 0 ∨ 255 < k
  · exact law_sum_out l k w h
  · obtain ⟨n, rfl⟩ := Int.eq_ofNat_of_zero_le (show 0 ≤ k by omega)
    by_cases e : n < 255
    · exact law_sum_walk l n w hl e
    · exact law_sum_walk_top l n w hl (by omega) (show n = 255 by omega)
end Go.Proofs.Qxb6628958a
