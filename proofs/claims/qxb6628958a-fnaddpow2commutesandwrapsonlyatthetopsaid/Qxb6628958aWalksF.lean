import Derived.Test.Qxb6628958aWalksD
namespace Go.Proofs.Qxb6628958a
open Go.RowKit Plain

theorem below_new {B : Nat} {w w1 w2 : World} {o : Obj} (h : Below B w w1) (hB : B ≤ w1.heap.size) (hb : Below (w1.alloc o).heap.size (w1.alloc o) w2) : Below B w w2 :=
  (h.alloc hB o).trans (hb.mono (by simp; omega))
theorem less_at_Y (a b : List Int) (w : World) (ha : Bytes a) (hb : Bytes b) (Y : Bool) (HY : Hid (decide (val a < val b) = !Y)) :
    Calls Try.prog 8 #[.agg (cel a), .agg (cel b)] w fun e w' => e = .returned (.bool (!Y)) ∧ Below w.heap.size w w' := by
  have := less_any a b w ha hb
  rw [HY.out] at this; exact this
theorem ones_at_Y (a : List Int) (k : Nat) (w : World) (ha : Bytes a) (hk : k ≤ 255) (Y : Bool) (HY : Hid (decide (top ≤ val a + 2 ^ k) = Y)) :
    Calls Try.prog 9 #[.agg (cel a), .int .i64 k] w fun e w' => e = .returned (.bool Y) ∧ Below w.heap.size w w' := by
  have := ones_any a k w ha hk
  rw [HY.out] at this; exact this

set_option maxHeartbeats 1000000 in
theorem law_comm_walk (l : List Int) (j k : Nat) (w : World) (hl : Bytes l) (hj : j ≤ 255) (hk : k ≤ 255) :
    Calls Try.prog 4 #[.agg (cel l), .int .i64 j, .int .i64 k] w fun e w' => e = .returned (.bool true) ∧ Below w.heap.size w w' := by
  have HL : Hid (Bytes l) := hl
  have hs := size_cel hl
  have g22 := guard22
  have g23 := guard23
  clear hl
  go_enter Try.func4, Try.ntmps4
  go_wp2_with (first
    | (refine wpList_load_row rfl 22 _ rfl w.heap.size rfl 22 (cel l) (0, 0) _ (heap_alloc_last w _) Try.underlying22 rfl (size22 HL.out) ?_)
    | (refine wpList_load_row rfl 23 _ rfl (w.heap.size + 1) rfl 23 (cel l) (0, 0) _ (heap_alloc2_new w _ _) Try.underlying23 rfl (size23 HL.out) ?_)
    | (refine wpList_store_new rfl 23 _ _ rfl (w.heap.size + 1) _ (cel l) 23 rfl rfl (by simp) (size23 HL.out) hs.symm (cel_one l) ?_))
  refine (add_any l j _ HL.out hj).mono ?_
  rintro e w1 ⟨p, rfl, hp, hpv, hb1⟩
  have HP : Hid (Bytes p) := hp
  have HPV : Hid _ := hpv
  have hA1 : w1.heap[w.heap.size]? = some (.cells (cel l) 22 (0, 0)) := (hb1.block _ (by simp; omega)).trans (heap_alloc2_old _ _ _)
  have hX1 : w1.heap[w.heap.size + 1]? = some (.cells (cel l) 23 (0, 0)) := (hb1.block _ (by simp)).trans (heap_alloc2_new _ _ _)
  have hz1 : w.heap.size + 2 ≤ w1.heap.size := by have := hb1.size; simp at this; omega
  have HB1 : Hid (Below w.heap.size w w1) := (((Below.refl _ _).alloc (Nat.le_refl _) _).alloc (by simp) _).trans (hb1.mono (by simp; omega))
  have HA1 : Hid _ := hA1
  have HX1 : Hid _ := hX1
  clear hb1 hp hpv hA1 hX1
  go_wp2_with fail
  refine (add_any p k _ HP.out hk).mono ?_
  rintro e w2 ⟨a, rfl, ha, hav, hb2⟩
  have HA : Hid (Bytes a) := ha
  have hsa := size_cel ha
  have HAV : Hid _ := hav
  have hz2 : w1.heap.size ≤ w2.heap.size := hb2.size
  have HB2 : Hid (Below w.heap.size w w2) := HB1.out.trans (hb2.mono (by omega))
  have HA2 : Hid ((w2.alloc (.cells (cel a) 23)).heap[w.heap.size]? = some (.cells (cel l) 22 (0, 0))) := (Below.heap_alloc _ _ _ (by omega)).trans ((hb2.block _ (by omega)).trans HA1.out)
  have HX2 : Hid ((w2.alloc (.cells (cel a) 23)).heap[w.heap.size + 1]? = some (.cells (cel l) 23 (0, 0))) := (Below.heap_alloc _ _ _ (by omega)).trans ((hb2.block _ (by omega)).trans HX1.out)
  clear hb2 ha hav HA1 HX1 HB1
  go_wp2_with (first
    | (refine wpList_load_row rfl 23 _ rfl (w.heap.size + 1) rfl 23 (cel l) (0, 0) _ HX2.out Try.underlying23 rfl (size23 HL.out) ?_)
    | (refine wpList_store_new rfl 23 _ _ rfl w2.heap.size _ (cel a) 23 rfl rfl rfl (size23 HA.out) hsa.symm (cel_one a) ?_))
  refine (add_any l k _ HL.out hk).mono ?_
  rintro e w3 ⟨q, rfl, hq, hqv, hb3⟩
  have HQ : Hid (Bytes q) := hq
  have HQV : Hid _ := hqv
  have hz3 : w2.heap.size + 1 ≤ w3.heap.size := by have := hb3.size; simpa using this
  have HB3 : Hid (Below w.heap.size w w3) := below_new HB2.out (by omega) hb3
  have HA3 : Hid (w3.heap[w.heap.size]? = some (.cells (cel l) 22 (0, 0))) := (hb3.block _ (by simp; omega)).trans HA2.out
  have HX3 : Hid (w3.heap[w.heap.size + 1]? = some (.cells (cel l) 23 (0, 0))) := (hb3.block _ (by simp; omega)).trans HX2.out
  have HR3 : Hid (w3.heap[w2.heap.size]? = some (.cells (cel a) 23 (0, 0))) := (hb3.block _ (by simp)).trans (heap_alloc_last w2 _)
  clear hb3 hq hqv HA2 HX2 HB2
  go_wp2_with fail
  refine (add_any q j _ HQ.out hj).mono ?_
  rintro e w4 ⟨b, rfl, hb, hbv, hb4⟩
  have eb := law_comm HA.out hb HPV.out HAV.out HQV.out hbv
  subst eb
  have hz4 : w3.heap.size ≤ w4.heap.size := hb4.size
  have HB4 : Hid (Below w.heap.size w w4) := HB3.out.trans (hb4.mono (by omega))
  have HA4 : Hid ((w4.alloc (.cells (cel a) 23)).heap[w.heap.size]? = some (.cells (cel l) 22 (0, 0))) := (Below.heap_alloc _ _ _ (by omega)).trans ((hb4.block _ (by omega)).trans HA3.out)
  have HX4 : Hid ((w4.alloc (.cells (cel a) 23)).heap[w.heap.size + 1]? = some (.cells (cel l) 23 (0, 0))) := (Below.heap_alloc _ _ _ (by omega)).trans ((hb4.block _ (by omega)).trans HX3.out)
  have HR4 : Hid ((w4.alloc (.cells (cel a) 23)).heap[w2.heap.size]? = some (.cells (cel a) 23 (0, 0))) := (Below.heap_alloc _ _ _ (by omega)).trans ((hb4.block _ (by omega)).trans HR3.out)
  have heq := eq23 HA.out HA.out
  simp only [BEq.rfl] at heq
  clear hb4 hb hbv HA3 HX3 HR3 HB3
  go_wp2_with (first
    | (refine wpList_load_row rfl 23 _ rfl w4.heap.size rfl 23 (cel a) (0, 0) _ (heap_alloc_last w4 _) Try.underlying23 rfl (size23 HA.out) ?_)
    | (refine wpList_load_row rfl 23 _ rfl w2.heap.size rfl 23 (cel a) (0, 0) _ HR4.out Try.underlying23 rfl (size23 HA.out) ?_)
    | (refine wpList_load_row rfl 23 _ rfl (w.heap.size + 1) rfl 23 (cel l) (0, 0) _ HX4.out Try.underlying23 rfl (size23 HL.out) ?_)
    | (refine wpList_store_new rfl 23 _ _ rfl w4.heap.size _ (cel a) 23 rfl rfl rfl (size23 HA.out) hsa.symm (cel_one a) ?_))
  refine (add_any l k _ HL.out hk).mono ?_
  rintro e w5 ⟨r, rfl, hr, hrv, hb5⟩
  have HR : Hid (Bytes r) := hr
  have HRV : Hid _ := hrv
  have hsr := size_cel hr
  have hz5 : w4.heap.size + 1 ≤ w5.heap.size := by have := hb5.size; simpa using this
  have HB5 : Hid (Below w.heap.size w (w5.alloc (.cells (cel r) 23))) := (below_new HB4.out (by omega) hb5).alloc (by omega) _
  have HA5 : Hid ((w5.alloc (.cells (cel r) 23)).heap[w.heap.size]? = some (.cells (cel l) 22 (0, 0))) := (Below.heap_alloc _ _ _ (by omega)).trans ((hb5.block _ (by simp; omega)).trans HA4.out)
  have HX5 : Hid ((w5.alloc (.cells (cel r) 23)).heap[w.heap.size + 1]? = some (.cells (cel l) 23 (0, 0))) := (Below.heap_alloc _ _ _ (by omega)).trans ((hb5.block _ (by simp; omega)).trans HX4.out)
  have heq' := eq23 HR.out HL.out
  have hne : (r == l) = false := by simpa using law_ne HL.out hk HRV.out
  rw [hne] at heq'
  clear hb5 hr hrv HA4 HX4 HR4 HB4 hne
  go_wp2_with (first
    | (refine wpList_load_row rfl 23 _ rfl w5.heap.size rfl 23 (cel r) (0, 0) _ (heap_alloc_last w5 _) Try.underlying23 rfl (size23 HR.out) ?_)
    | (refine wpList_load_row rfl 23 _ rfl (w.heap.size + 1) rfl 23 (cel l) (0, 0) _ HX5.out Try.underlying23 rfl (size23 HL.out) ?_)
    | (refine wpList_store_new rfl 23 _ _ rfl w5.heap.size _ (cel r) 23 rfl rfl rfl (size23 HR.out) hsr.symm (cel_one r) ?_))
  obtain ⟨Y, HY⟩ : ∃ Y, Hid (decide (top ≤ val l + 2 ^ k) = Y) := ⟨_, rfl⟩
  have HY' : Hid (decide (val l < val r) = !Y) := (law_less HL.out hk HRV.out).trans (by rw [HY.out])
  have hr1 : (w5.alloc (.cells (cel r) 23)).rangeAt w5.heap.size 0 (cl r) := range_of_row (heap_alloc_last w5 _)
  have hr2 : (w5.alloc (.cells (cel r) 23)).rangeAt w.heap.size 0 (cl l) := range_of_row HA5.out
  have i1 : (Try.prog.info? 23).map (·.size) = some (cl r).length := by rw [List.length_map, HR.out.1]; exact Try.size23
  have i2 : (Try.prog.info? 22).map (·.size) = some (cl l).length := by rw [List.length_map, HL.out.1]; exact Try.size22
  refine wp_region_held_drew (S := fun w' => w'.rangeAt w5.heap.size 0 (cl r) ∧ w'.rangeAt w.heap.size 0 (cl l)) (by kernel_rfl) ⟨(World.rangeAt_drew _ _ _ _).2 hr1, (World.rangeAt_drew _ _ _ _).2 hr2⟩ (fun hHeld => ?_)
  refine take_dst (i := 0) (v := .agg (cel l)) 45 rfl rfl (by kernel_rfl) (by kernel_rfl) (by kernel_rfl) (fun _ _ _ h => h)
    (yieldsIf_load_mid (by rfl) 22 _ rfl w.heap.size 0 rfl (cl l) _ (fun _ h => h.2) Try.underlying22 rfl i2) hHeld ?_
  simp only [Act.put, List.setIfInBounds_toArray, List.set_cons_zero, List.set_cons_succ]
  refine take_dst (i := 1) (v := .agg (cel r)) 46 rfl rfl (by kernel_rfl) (by kernel_rfl) (by kernel_rfl) (fun _ _ _ h => h)
    (yieldsIf_load_mid (by rfl) 23 _ rfl w5.heap.size 0 rfl (cl r) _ (fun _ h => h.1) Try.underlying23 rfl i1) hHeld ?_
  simp only [Act.put, List.setIfInBounds_toArray, List.set_cons_zero, List.set_cons_succ]
  refine take_dst (i := 3) (v := .agg (cel l)) 48 rfl rfl (by kernel_rfl) (by kernel_rfl) (by kernel_rfl) (fun _ _ _ h => h)
    (yieldsIf_load_mid (by rfl) 22 _ rfl w.heap.size 0 rfl (cl l) _ (fun _ h => h.2) Try.underlying22 rfl i2) hHeld ?_
  simp only [Act.put, List.setIfInBounds_toArray, List.set_cons_zero, List.set_cons_succ]
  refine take_dst (i := 4) (v := ?_) 49 rfl rfl (by kernel_rfl) (by kernel_rfl) (by kernel_rfl) (fun _ _ _ h => h) (Or.inl ⟨by rfl, fun w _ => ?_⟩) hHeld ?_
  rotate_left
  · go_simp
    rfl
  simp only [Act.put, List.setIfInBounds_toArray, List.set_cons_zero, List.set_cons_succ]
  refine wpAnyH_ready (rs := [2]) (by kernel_rfl) (by simp) ?_
  refine AllReadyH.cons rfl (fun K hK => ?_) AllReadyH.nil
  go_simp
  refine (less_at_Y l r _ HL.out HR.out Y HY').mono ?_
  rintro e w6 ⟨rfl, hb6⟩
  refine hK.out _ _ (range2_below hHeld hb6) (fun hHeld => ?_)
  clear hK K
  refine wpAnyH_ready (rs := [5]) (by kernel_rfl) (by simp) ?_
  refine AllReadyH.cons rfl (fun K hK => ?_) AllReadyH.nil
  go_simp
  refine (ones_at_Y l k _ HL.out hk Y HY).mono ?_
  rintro e w7 ⟨rfl, hb7⟩
  refine hK.out _ _ (range2_below hHeld hb7) (fun hHeld => ?_)
  clear hK K
  refine take_dst (i := 6) (v := ?_) 51 rfl rfl (by kernel_rfl) (by kernel_rfl) (by kernel_rfl) (fun _ _ _ h => h) (Or.inl ⟨by rfl, fun w _ => ?_⟩) hHeld ?_
  rotate_left
  · go_simp
    rfl
  simp only [Act.put, List.setIfInBounds_toArray, List.set_cons_zero, List.set_cons_succ]
  refine take_dst (i := 7) (v := .bool true) 52 rfl rfl (by kernel_rfl) (by kernel_rfl) (by kernel_rfl) (fun _ _ _ h => h) (Or.inl ⟨by rfl, fun w _ => ?_⟩) hHeld ?_
  · go_simp
  simp only [Act.put, List.setIfInBounds_toArray, List.set_cons_zero, List.set_cons_succ]
  refine take_dst (i := 8) (v := ?_) 6 rfl rfl (by kernel_rfl) (by kernel_rfl) (by kernel_rfl) (fun _ _ _ h => h) (Or.inl ⟨by rfl, fun w _ => ?_⟩) hHeld ?_
  rotate_left
  · go_simp
    rfl
  simp only [Act.put, List.setIfInBounds_toArray, List.set_cons_zero, List.set_cons_succ]
  refine wpAnyH_done (by kernel_rfl) ?_ _
  go_wp2
  go_ret
  have hb6' : Below w.heap.size (w5.alloc (.cells (cel r) 23)).drew w6 := hb6.mono (by simp; omega)
  have hz6 : w.heap.size ≤ w6.heap.size := by have := hb6.size; simp at this; omega
  exact ⟨rfl, (HB5.out.drew.trans hb6').trans (hb7.mono hz6)⟩

theorem comm_out (l : List Int) (j k : Int) (w : World) (h : j < 0 ∨ 255 < j ∨ k < 0 ∨ 255 < k) :
    Calls Try.prog 4 #[.agg (cel l), .int .i64 j, .int .i64 k] w fun e w' => e = .returned (.bool true) ∧ Below w.heap.size w w' := by
  by_cases h1 : j < 0
  · clear h
    go_enter Try.func4, Try.ntmps4
    go_wp2
    go_ret
    exact ⟨rfl, (Below.refl _ _).alloc (Nat.le_refl _) _⟩
  by_cases h2 : 255 < j
  · clear h
    go_enter Try.func4, Try.ntmps4
    go_wp2
    go_ret
    exact ⟨rfl, (Below.refl _ _).alloc (Nat.le_refl _) _⟩
  by_cases h3 : k < 0
  · clear h
    go_enter Try.func4, Try.ntmps4
    go_wp2
    go_ret
    exact ⟨rfl, (Below.refl _ _).alloc (Nat.le_refl _) _⟩
  have h4 : 255 < k := by omega
  clear h
  go_enter Try.func4, Try.ntmps4
  go_wp2
  go_ret
  exact ⟨rfl, (Below.refl _ _).alloc (Nat.le_refl _) _⟩

theorem law_comm_any (l : List Int) (j k : Int) (w : World) (hl : Bytes l) :
    Calls Try.prog 4 #[.agg (cel l), .int .i64 j, .int .i64 k] w fun e w' => e = .returned (.bool true) ∧ Below w.heap.size w w' := by
  by_cases h : j < 0 ∨ 255 < j ∨ k < 0 ∨ 255 < k
  · exact comm_out l j k w h
  · obtain ⟨n, rfl⟩ := Int.eq_ofNat_of_zero_le (show 0 ≤ j by omega)
    obtain ⟨m, rfl⟩ := Int.eq_ofNat_of_zero_le (show 0 ≤ k by omega)
    exact law_comm_walk l n m w hl (by omega) (by omega)
end Go.Proofs.Qxb6628958a
