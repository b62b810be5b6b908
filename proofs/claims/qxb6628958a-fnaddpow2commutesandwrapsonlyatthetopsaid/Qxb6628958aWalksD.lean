import Derived.Test.Qxb6628958aWalksB
import Derived.Test.Qxb6628958aWalksC
import Derived.Deep.RegionWith
import Derived.Deep.RegionHeld3
import Derived.Stop.BytesEq
namespace Go.Proofs.Qxb6628958a
open Go.RowKit Plain

theorem all_range_int : ∀ (xs ys : List Int), xs.length = ys.length → ((List.range xs.length).all fun i => xs.getD i 0 == ys.getD i 0) = (xs == ys)
  | [], [], _ => rfl
  | x :: xs, y :: ys, h => by
    have ih := all_range_int xs ys (by simpa using h)
    rw [List.length_cons, List.range_succ_eq_map, List.all_cons, List.all_map]
    simp only [List.getD_cons_zero, Function.comp_def, List.getD_cons_succ, ih]
    simp [List.cons_beq_cons]
  | [], _ :: _, h => by simp at h
  | _ :: _, [], h => by simp at h

theorem Try.size5 (w : World) : (sizeOf 5).run Try.prog w = .ok 1 w := by
  have h : (Try.prog.info? 5).map (·.size) = some 1 := by kernel_rfl
  cases hq : Try.prog.info? 5 with
  | none => simp [hq] at h
  | some i => simp [hq] at h; simp [sizeOf, typeInfo, hq, h]

theorem eq_cel (d : Nat) (t n : Nat) (ht : Try.prog.underlying t = some (.array n 5)) (xs ys : List Int) (hx : xs.length = n) (hy : ys.length = n) (w : World) :
    (Op.equalIn (d + 2) t (.agg (cel xs)) (.agg (cel ys))).run Try.prog w = .ok (xs == ys) w := by
  rw [← all_range_int xs ys (hx.trans hy.symm), hx, List.range_eq_range', Op.equalIn]
  simp only [Sem.run_bind, run_underlying ht, Result.andThen_ok, Try.size5, Std.Legacy.Range.forIn_eq_forIn_range', Std.Legacy.Range.size, Nat.sub_zero, Nat.add_sub_cancel, Nat.div_one]
  have hl : ∀ i ∈ List.range' 0 n 1, i < n := fun i hi => by simpa using (List.mem_range'_1.1 hi).2
  generalize List.range' 0 n 1 = l at hl ⊢
  induction l with
  | nil => simp
  | cons i l ih =>
    have hi : i < n := hl i (by simp)
    have px : (part 5 (cel xs) (i * 1)).run Try.prog w = .ok (.int .u8 (xs.getD i 0)) w := by
      simp [part, isAgg, run_underlying Try.underlying5, cel, List.getD, List.getElem?_eq_getElem (show i < xs.length by omega)]
    have py : (part 5 (cel ys) (i * 1)).run Try.prog w = .ok (.int .u8 (ys.getD i 0)) w := by
      simp [part, isAgg, run_underlying Try.underlying5, cel, List.getD, List.getElem?_eq_getElem (show i < ys.length by omega)]
    have pe : (Op.equalIn (d + 1) 5 (.int .u8 (xs.getD i 0)) (.int .u8 (ys.getD i 0))).run Try.prog w = .ok (xs.getD i 0 == ys.getD i 0) w :=
      run_equalIn_int w d 5 .u8 .u8 _ _ Try.underlying5
    simp only [List.forIn_cons, Sem.run_bind, px, py, pe, Result.andThen_ok, List.all_cons]
    cases hb : (xs.getD i 0 == ys.getD i 0)
    · simp
    · simp only [Bool.not_true, Bool.false_eq_true, if_false, Sem.run_pure, Result.andThen_ok, Bool.true_and]
      exact ih fun j hj => hl j (by simp [hj])

theorem eq22 {a b : List Int} (ha : Bytes a) (hb : Bytes b) (w : World) : (Op.equalIn 10000 22 (.agg (cel a)) (.agg (cel b))).run Try.prog w = .ok (a == b) w := eq_cel 9998 22 32 Try.underlying22 a b ha.1 hb.1 w
theorem eq23 {a b : List Int} (ha : Bytes a) (hb : Bytes b) (w : World) : (Op.equalIn 10000 23 (.agg (cel a)) (.agg (cel b))).run Try.prog w = .ok (a == b) w := eq_cel 9998 23 32 Try.underlying23 a b ha.1 hb.1 w
theorem guard22 : Try.prog.eqGuardType Try.prog.depth 22 = false := by kernel_rfl
theorem guard23 : Try.prog.eqGuardType Try.prog.depth 23 = false := by kernel_rfl

/-- A whole array into the block that was made last. -/
theorem wpList_store_new {P : Program} {ops : Array Oper} {rest : List Oper} {o : Oper} {a : Act} {w : World} {Q : Exit → Act → World → Prop} (hgd : o.guard = none) (ty : TypeId) (x y : Operand) (ho : o.op = .store ty x y)
    (n : Nat) (c c' : Array Value) (t : TypeId) (hx : a.eval x = .pointer (some ⟨n, 0, none⟩)) (hy : a.eval y = .agg c') (hn : n = w.heap.size) (hi : (P.info? ty).map (·.size) = some c'.size)
    (hs : c.size = c'.size) (h1 : c'.all (·.oneCell') = true) (h : wpList P ops Q rest (a.put o.dst undef) (w.alloc (.cells c' t))) : wpList P ops Q (o :: rest) a (w.alloc (.cells c t)) := by
  subst hn
  refine wpList_store_row hgd ty x y ho w.heap.size c' hx hy t c (heap_alloc_last w _) hi hs h1 ?_
  rw [World.setRow_alloc_new]; exact h

theorem size_cel {l : List Int} (h : Bytes l) : (cel l).size = 32 := by rw [cel_size, h.1]


/-- AddPow2 at an index that is written otherwise. -/
theorem add_at (l : List Int) (j : Int) (k : Nat) (w : World) (hl : Bytes l) (hk : k ≤ 255) (hj : j = k) :
    Calls Try.prog 5 #[.agg (cel l), .int .i64 j] w fun e w' => ∃ m, e = .returned (.agg (cel m)) ∧ Bytes m ∧ val m = (val l + 2 ^ k) % top ∧ Below w.heap.size w w' := by
  subst hj; exact add_any l k w hl hk
theorem wrap_small (k : Nat) (h : k < 255) : IntKind.i64.wrap ((k : Int) + 1) = ((k + 1 : Nat) : Int) := by
  simp [IntKind.wrap, IntKind.signed, IntKind.bits]; omega
/-- 'wpAnyH_take', the slot written out. -/
theorem take_dst {P : Program} {ops : Array Oper} {Q : Exit → Act → World → Prop} {md : Region.Mode} {S : World → Prop} {i : Nat} {oi : Oper} {v : Value} {fuel : Nat} {listed : Array Bool} {a : Act} {w : World} (d : Nat) (hi : ops[i]? = some oi) (hd : oi.dst = some d)
    (hs : Region.noSelect ops = true) (hf : Region.free md ops listed i = true) (hr : (Region.ready md ops listed).contains i = true)
    (hQ : ∀ c a w, Q (.panic c) (a.put oi.dst v) w → Q (.panic c) a w) (hy : YieldsIf P ops S oi v a) (hS : S w)
    (h : wpAnyH P md ops Q S fuel (listed.setIfInBounds i true) (a.put (some d) v) w) : wpAnyH P md ops Q S (fuel + 1) listed a w :=
  wpAnyH_take hi hs hf hr hQ hy hS (by rw [hd]; exact h)
/-- The cells, as a list. -/
abbrev cl (l : List Int) : List Value := l.map (Value.int .u8)
theorem range_of_row {w : World} {b t : Nat} {l : List Int} (h : w.heap[b]? = some (.cells (cel l) t (0, 0))) : w.rangeAt b 0 (cl l) := fun j v hv => by
  rw [cell_of_row w b (0 + j) _ _ _ h]; simpa [cel] using hv
theorem range_below {w w' : World} {b : Nat} {cs : List Value} (h : w.rangeAt b 0 cs) (hb : Below w.heap.size w w') : w'.rangeAt b 0 cs := fun j v hv => by
  have := h j v hv
  rw [hb.cell (World.block_lt_of_cell? w _ this)]; exact this
theorem range2_below {w w' : World} {b b' : Nat} {cs cs' : List Value} (h : w.rangeAt b 0 cs ∧ w.rangeAt b' 0 cs') (hb : Below w.heap.size w w') : w'.rangeAt b 0 cs ∧ w'.rangeAt b' 0 cs' :=
  ⟨range_below h.1 hb, range_below h.2 hb⟩
theorem cl_one (l : List Int) : ∀ v ∈ cl l, v.oneCell' = true := by
  intro v hv; simp at hv; obtain ⟨x, _, rfl⟩ := hv; rfl

set_option maxHeartbeats 1000000 in
theorem law_sum_walk (l : List Int) (k : Nat) (w : World) (hl : Bytes l) (hk : k < 255) :
    Calls Try.prog 3 #[.agg (cel l), .int .i64 k] w fun e w' => e = .returned (.bool true) ∧ Below w.heap.size w w' := by
  have HL : Hid (Bytes l) := hl
  have hs := size_cel hl
  have g22 := guard22
  have g23 := guard23
  have hk255 : ((k : Int) == 255) = false := by simp; omega
  clear hl
  go_enter Try.func3, Try.ntmps3
  go_wp2_with (first
    | (refine wpList_load_row rfl 22 _ rfl w.heap.size rfl 22 (cel l) (0, 0) _ (heap_alloc_last w _) Try.underlying22 rfl (size22 HL.out) ?_)
    | (refine wpList_load_row rfl 23 _ rfl (w.heap.size + 1) rfl 23 (cel l) (0, 0) _ (heap_alloc2_new w _ _) Try.underlying23 rfl (size23 HL.out) ?_)
    | (refine wpList_store_new rfl 23 _ _ rfl (w.heap.size + 1) _ (cel l) 23 rfl rfl (by simp) (size23 HL.out) hs.symm (cel_one l) ?_))
  refine (add_any l k _ HL.out (by omega)).mono ?_
  rintro e w1 ⟨r, rfl, hr, hv, hb⟩
  have HR : Hid (Bytes r) := hr
  have HV : Hid (val r = (val l + 2 ^ k) % top) := hv
  have hsr := size_cel hr
  have hA : w1.heap[w.heap.size]? = some (.cells (cel l) 22 (0, 0)) := (hb.block _ (by simp; omega)).trans (heap_alloc2_old _ _ _)
  have hX : w1.heap[w.heap.size + 1]? = some (.cells (cel l) 23 (0, 0)) := (hb.block _ (by simp)).trans (heap_alloc2_new _ _ _)
  have hz1 : w.heap.size + 2 ≤ w1.heap.size := by have := hb.size; simp at this; omega
  have hA1 : (w1.alloc (.cells (cel r) 23)).heap[w.heap.size]? = some (.cells (cel l) 22 (0, 0)) := (Below.heap_alloc _ _ _ (by omega)).trans hA
  have hX1 : (w1.alloc (.cells (cel r) 23)).heap[w.heap.size + 1]? = some (.cells (cel l) 23 (0, 0)) := (Below.heap_alloc _ _ _ (by omega)).trans hX
  have HA1 : Hid _ := hA1
  have HX1 : Hid _ := hX1
  have HB : Hid (Below w.heap.size w w1) := (((Below.refl _ _).alloc (Nat.le_refl _) _).alloc (by simp) _).trans (hb.mono (by simp; omega))
  clear hA hX hA1 hX1 hb hr hv
  go_wp2_with (first
    | (refine wpList_load_row rfl 23 _ rfl w1.heap.size rfl 23 (cel r) (0, 0) _ (heap_alloc_last w1 _) Try.underlying23 rfl (size23 HR.out) ?_)
    | (refine wpList_load_row rfl 22 _ rfl w1.heap.size rfl 23 (cel r) (0, 0) _ (heap_alloc_last w1 _) Try.underlying22 rfl (size22 HR.out) ?_)
    | (refine wpList_load_row rfl 22 _ rfl w.heap.size rfl 22 (cel l) (0, 0) _ HA1.out Try.underlying22 rfl (size22 HL.out) ?_)
    | (refine wpList_store_new rfl 23 _ _ rfl w1.heap.size _ (cel r) 23 rfl rfl rfl (size23 HR.out) hsr.symm (cel_one r) ?_))
  refine (sub_any r l _ HR.out HL.out).mono ?_
  rintro e w2 ⟨d, rfl, hd, hdv, hb⟩
  have ed := law_sum (by omega) HV.out hdv hd
  subst ed
  have hA2 : w2.heap[w.heap.size + 1]? = some (.cells (cel l) 23 (0, 0)) := (hb.block _ (by simp; omega)).trans HX1.out
  have hR2 : w2.heap[w1.heap.size]? = some (.cells (cel r) 23 (0, 0)) := (hb.block _ (by simp)).trans (heap_alloc_last w1 _)
  have HA2 : Hid _ := hA2
  have HR2 : Hid _ := hR2
  have hz2 : w1.heap.size + 1 ≤ w2.heap.size := by have := hb.size; simpa using this
  have HB2 : Hid (Below w.heap.size w w2) := (HB.out.alloc (by omega) _).trans (hb.mono (by simp; omega))
  clear hA2 hR2 hb HB HA1 HX1 hd hdv
  go_wp2_with fail
  refine (pow2_any k _ (by omega)).mono ?_
  rintro e w3 ⟨rfl, hb⟩
  have hA2 : w3.heap[w.heap.size + 1]? = some (.cells (cel l) 23 (0, 0)) := (hb.block _ (by omega)).trans HA2.out
  have hR2 : w3.heap[w1.heap.size]? = some (.cells (cel r) 23 (0, 0)) := (hb.block _ (by omega)).trans HR2.out
  have HA3 : Hid _ := hA2
  have HR3 : Hid _ := hR2
  have hz3 : w2.heap.size ≤ w3.heap.size := hb.size
  have HB3 : Hid (Below w.heap.size w w3) := HB2.out.trans (hb.mono (by omega))
  have heq := eq22 (pow2_bytes k) (pow2_bytes k)
  simp only [BEq.rfl] at heq
  clear hA2 hR2 hb HB2 HA2 HR2
  go_wp2_with (first
    | (refine wpList_load_row rfl 23 _ rfl w1.heap.size rfl 23 (cel r) (0, 0) _ HR3.out Try.underlying23 rfl (size23 HR.out) ?_))
  refine (add_any r k _ HR.out (by omega)).mono ?_
  rintro e w4 ⟨t, rfl, ht, htv, hb⟩
  have hA2 : w4.heap[w.heap.size + 1]? = some (.cells (cel l) 23 (0, 0)) := (hb.block _ (by omega)).trans HA3.out
  have HT : Hid (Bytes t) := ht
  have hst := size_cel ht
  have HTV : Hid (val t = (val r + 2 ^ k) % top) := htv
  have HX : Hid ((w4.alloc (.cells (cel t) 23)).heap[w.heap.size + 1]? = some (.cells (cel l) 23 (0, 0))) := (Below.heap_alloc _ _ _ (by have := hb.size; omega)).trans hA2
  have hz4 : w3.heap.size ≤ w4.heap.size := hb.size
  have HB4 : Hid (Below w.heap.size w (w4.alloc (.cells (cel t) 23))) := (HB3.out.trans (hb.mono (by omega))).alloc (by omega) _
  clear hA2 hb HB3 HA3 HR3 ht htv
  go_wp2_with (first
    | (refine wpList_store_new rfl 23 _ _ rfl w4.heap.size _ (cel t) 23 rfl rfl rfl (size23 HT.out) hst.symm (cel_one t) ?_))
  have hr1 : (w4.alloc (.cells (cel t) 23)).rangeAt w4.heap.size 0 (cl t) := range_of_row (heap_alloc_last w4 _)
  have hr2 : (w4.alloc (.cells (cel t) 23)).rangeAt (w.heap.size + 1) 0 (cl l) := range_of_row HX.out
  have hu := Try.underlying23
  have i1 : (Try.prog.info? 23).map (·.size) = some (cl t).length := by rw [List.length_map, HT.out.1]; exact Try.size23
  have i2 : (Try.prog.info? 23).map (·.size) = some (cl l).length := by rw [List.length_map, HL.out.1]; exact Try.size23
  have l1 : (cl t).length = 32 := by rw [List.length_map, HT.out.1]
  have l2 : (cl l).length = 32 := by rw [List.length_map, HL.out.1]
  have o1 := cl_one t
  have o2 := cl_one l
  have heq' := eq23 HT.out HT.out
  simp only [BEq.rfl] at heq'
  refine wp_region_held_drew (S := fun w' => w'.rangeAt w4.heap.size 0 (cl t) ∧ w'.rangeAt (w.heap.size + 1) 0 (cl l)) (by kernel_rfl) ⟨(World.rangeAt_drew _ _ _ _).2 hr1, (World.rangeAt_drew _ _ _ _).2 hr2⟩ (fun hHeld => ?_)
  refine take_dst (i := 0) (v := .agg (cel t)) 32 rfl rfl (by kernel_rfl) (by kernel_rfl) (by kernel_rfl) (fun _ _ _ h => h)
    (yieldsIf_load_mid (by rfl) 23 _ rfl w4.heap.size 0 rfl (cl t) _ (fun _ h => h.1) Try.underlying23 rfl i1) hHeld ?_
  simp only [Act.put, List.setIfInBounds_toArray, List.set_cons_zero, List.set_cons_succ]
  refine take_dst (i := 1) (v := .agg (cel l)) 33 rfl rfl (by kernel_rfl) (by kernel_rfl) (by kernel_rfl) (fun _ _ _ h => h)
    (yieldsIf_load_mid (by rfl) 23 _ rfl (w.heap.size + 1) 0 rfl (cl l) _ (fun _ h => h.2) Try.underlying23 rfl i2) hHeld ?_
  simp only [Act.put, List.setIfInBounds_toArray, List.set_cons_zero, List.set_cons_succ]
  refine take_dst (i := 2) (v := ?_) 34 rfl rfl (by kernel_rfl) (by kernel_rfl) (by kernel_rfl) (fun _ _ _ h => h) (Or.inl ⟨by rfl, fun w _ => ?_⟩) hHeld ?_
  rotate_left
  · go_simp
    rfl
  simp only [Act.put, List.setIfInBounds_toArray, List.set_cons_zero, List.set_cons_succ]
  refine take_dst (i := 3) (v := ?_) 35 rfl rfl (by kernel_rfl) (by kernel_rfl) (by kernel_rfl) (fun _ _ _ h => h) (Or.inl ⟨by rfl, fun w _ => ?_⟩) hHeld ?_
  rotate_left
  · go_simp
    rfl
  simp only [Act.put, List.setIfInBounds_toArray, List.set_cons_zero, List.set_cons_succ]
  refine wpAnyH_ready (rs := [4]) (by kernel_rfl) (by simp) ?_
  refine AllReadyH.cons rfl (fun K hK => ?_) AllReadyH.nil
  go_simp
  refine (add_at l _ (k + 1) _ HL.out (by omega) (wrap_small k (by omega))).mono ?_
  rintro e w5 ⟨s, rfl, hs5, hsv, hb5⟩
  obtain rfl := law_twice HT.out hs5 HV.out HTV.out hsv
  refine hK.out _ _ (range2_below hHeld hb5) (fun hHeld => ?_)
  clear hK K
  refine take_dst (i := 5) (v := ?_) 37 rfl rfl (by kernel_rfl) (by kernel_rfl) (by kernel_rfl) (fun _ _ _ h => h) (Or.inl ⟨by rfl, fun w _ => ?_⟩) hHeld ?_
  rotate_left
  · go_simp
    rfl
  simp only [Act.put, List.setIfInBounds_toArray, List.set_cons_zero, List.set_cons_succ]
  refine take_dst (i := 6) (v := ?_) 4 rfl rfl (by kernel_rfl) (by kernel_rfl) (by kernel_rfl) (fun _ _ _ h => h) (Or.inl ⟨by rfl, fun w _ => ?_⟩) hHeld ?_
  rotate_left
  · go_simp
    rfl
  simp only [Act.put, List.setIfInBounds_toArray, List.set_cons_zero, List.set_cons_succ]
  refine wpAnyH_done (by kernel_rfl) ?_ _
  go_wp2
  go_ret
  have hb6 : Below w.heap.size (w4.alloc (.cells (cel t) 23)).drew w5 := hb5.mono (by simp; omega)
  exact ⟨rfl, HB4.out.drew.trans hb6⟩
end Go.Proofs.Qxb6628958a
