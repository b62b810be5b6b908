import Derived.Test.Qxb6630054aSplits
import Derived.Deep.RegionLaw
import Derived.Lib.LazyBuf
namespace Go.Proofs.Qxb6630054a
open Go.RowKit

/-! ### THE GROWN LIST -/
/-- es with x put in at k. -/
def put (es : List Ent) (k : Nat) (x : Ent) : List Ent := es.take k ++ x :: es.drop k
theorem put_length {es : List Ent} {k : Nat} {x : Ent} (h : k ≤ es.length) : (put es k x).length = es.length + 1 := by
  simp [put]; omega
theorem put_lo {es : List Ent} {k : Nat} {x : Ent} (h : k ≤ es.length) (j : Nat) (hj : j < k) (hp : j < (put es k x).length) : (put es k x)[j] = es[j] := by
  have : j < (es.take k).length := by simp; omega
  simp [put, List.getElem_append_left this]
theorem put_at {es : List Ent} {k : Nat} {x : Ent} (h : k ≤ es.length) (hp : k < (put es k x).length) : (put es k x)[k] = x := by
  have h1 : (es.take k).length = k := by simp; omega
  simp only [put]
  rw [List.getElem_append_right (by omega)]
  simp [h1]
theorem put_hi {es : List Ent} {k : Nat} {x : Ent} (h : k ≤ es.length) (j : Nat) (hk : k ≤ j) (hj : j < es.length) (hp : j + 1 < (put es k x).length) : (put es k x)[j + 1] = es[j] := by
  have h1 : (es.take k).length = k := by simp; omega
  simp only [put]
  rw [List.getElem_append_right (by omega)]
  simp only [h1, show j + 1 - k = (j - k) + 1 by omega, List.getElem_cons_succ, List.getElem_drop]
  congr 1; omega

/-! ### append WHERE THERE IS ROOM, in a list of operations -/
theorem wpList_append_place {P : Program} (w : World) {ops : Array Oper} {rest : List Oper} {o : Oper} {a : Act} {Q : Exit → Act → World → Prop}
    (hg : o.guard = none) (s x : Operand) (t : TypeId) (hop : o.op = Op.call { callee := Callee.builtin Builtin.append, args := #[s, x], argTypes := #[t, t] })
    (e : TypeId) (i : TypeInfo) (size : Nat) (h1 : P.underlying t = some (.slice e)) (h2 : P.info? e = some i) (h4 : i.size = size)
    (b off n cap : Nat) (hs : a.eval s = .slice (some ⟨b, off, none⟩) n cap)
    (ad : Addr) (m c : Nat) (news : List Value) (hx : a.eval x = .slice (some ad) m c) (hn : news.length = m * size) (hc : ∀ j u, news[j]? = some u → w.cell? (ad.add j) = some u) (h1c : ∀ u ∈ news, u.oneCell' = true)
    (hroom : n + m ≤ cap) (hspare : ∀ j, j < news.length → (w.cell? ⟨b, off + n * size + j, none⟩).isSome = true ∧ w.frozen? ⟨b, off + n * size + j, none⟩ = false)
    (hK : wpList P ops Q rest (a.put o.dst (.slice (some ⟨b, off, none⟩) (n + m) cap)) (w.setCells b (off + n * size) news)) :
    wpList P ops Q (o :: rest) a w := by
  refine wpList_plain hg fun K hK' => ?_
  subst h4
  have hrun := run_append_room_cells (P := P) w t o.type e i h1 h2 b off n cap ad m c news hn hc h1c hroom (fun j hj => (hspare j hj).1) (fun j hj => (hspare j hj).2)
  unfold Oper.wp
  simp [execOp, hop, resolve, invoke, builtin, hs, hx, hrun, Result.andThen]
  exact hK' _ _ hK

/-- The grown row: block G = w.heap.size, N places, the first k filled. -/
structure GrowRel (w wr : World) (N k : Nat) (gs : List Ent) : Prop where
  fill : Fill2 wr w.heap.size N k gs
  below : Below w.heap.size w wr
abbrev entC (x : Ent) : List Value := [.string x.1, .int .i64 x.2]
theorem one_entC (x : Ent) : ∀ u ∈ entC x, u.oneCell' = true := by intro u hu; simp at hu; rcases hu with rfl | rfl <;> rfl
theorem grow_start {w w2 : World} {N : Nat} {k : Nat} {xs : List Value} (ho : w2.ownsRow w.heap.size 30 2 (.slice (some ⟨w.heap.size, 0, none⟩) k N) k xs) (hg : w.grownBy w2 none) (gs : List Ent) :
    GrowRel w w2 N 0 gs := by
  obtain ⟨f, hf⟩ := rowIs_of_owns ho
  exact ⟨⟨f, hf, fun _ _ h => by omega⟩, (Below.refl _ _).grown hg (Nat.le_refl _) (fun _ h => by cases h)⟩
theorem GrowRel.spare {w wr : World} {N k : Nat} {gs : List Ent} (h : GrowRel w wr N k gs) (hk : k < N) (o : Obj) (x : Ent) :
    ∀ j, j < (entC x).length → ((wr.alloc o).cell? ⟨w.heap.size, 0 + k * 2 + j, none⟩).isSome = true ∧ (wr.alloc o).frozen? ⟨w.heap.size, 0 + k * 2 + j, none⟩ = false := by
  intro j hj
  obtain ⟨f, hf, -⟩ := h.fill
  have hj' : j < 2 := by simpa using hj
  have q := hf.alloc o
  exact ⟨by rw [q.cell (by omega)]; rfl, q.frozen _⟩
theorem GrowRel.step {w wr : World} {N k : Nat} {gs : List Ent} (h : GrowRel w wr N k gs) (hk : k < gs.length) (x : Ent) (hx : x = gs[k]) (o : Obj) :
    GrowRel w ((wr.alloc o).setCells w.heap.size (k * 2) (entC x)) N (k + 1) gs := by
  have hlt := h.fill.lt
  have hf : Fill2 (wr.alloc o) w.heap.size N k gs := by
    obtain ⟨f, hf, q⟩ := h.fill
    exact ⟨f, hf.alloc o, q⟩
  have hs := hf.step hk x hx
  have hb := ((h.below.alloc (by omega) o).setCell (p := ⟨w.heap.size, k * 2, none⟩) (Nat.le_refl _) (.string x.1)).setCell (p := ⟨w.heap.size, k * 2 + 1, none⟩) (Nat.le_refl _) (.int .i64 x.2)
  exact ⟨hs, hb⟩
theorem GrowRel.drew {w wr : World} {N k : Nat} {gs : List Ent} (h : GrowRel w wr N k gs) : GrowRel w wr.drew N k gs := ⟨h.fill, h.below.drew⟩
/-- What lies in a new block. -/
theorem cells_new (w : World) (cs : List Value) (t n : Nat) (hn : n = w.heap.size) : ∀ j u, cs[j]? = some u → (w.alloc (.cells cs.toArray t)).cell? ((⟨n, 0, none⟩ : Addr).add j) = some u := by
  intro j u hu
  subst hn
  rw [Addr.add_lit, cell_of_row (w.alloc (.cells cs.toArray t)) w.heap.size (0 + j) cs.toArray t (0, 0) (by exact heap_alloc_new w _)]
  simpa using hu

/-- zzScaledOnEntries, of a slice that is empty and not nil. -/
theorem entries_empty (a : Addr) (cap : Nat) (w : World) : Calls Try.prog 7 #[.slice (some a) 0 cap] w (EntAns w [] 0) := by
  obtain ⟨i30, hi30, hz0, hz1, hz2⟩ := info_parts Try.info30
  have H30 := hid hi30
  have Z0 := hid hz0
  have Z1 := hid hz1
  have Z2 := hid hz2
  clear hi30 hz0 hz1 hz2
  have h22 := e22
  go_enter Try.func7, Try.ntmps7
  go_wp2_with (at_make; refine wpList_make_full _ rfl _ _ 25 rfl w.heap.size 30 i30 _ 2 Try.underlying25 H30.out Z0.out Z1.out _ _ _ _ 0 rfl rfl rfl rfl (by rw [Z2.out]; omega) (by unfold maxLen; omega) (by simp) ?_; intro w2 hown hgrow; have HI := hid (ents_start hown hgrow []); clear hown hgrow)
  refine wp_loop_rounds 1 ?_
  rw [rounds_succ]
  go_wp2
  go_ret
  exact ⟨_, _, rfl, fun _ h => by simp at h, HI.out.below⟩
/-- zzScaledOnEntries. -/
theorem entries_any (ao : Option Addr) (n cap : Nat) (es : List Ent) (w : World) (hc : Came w ao n cap es) (hn : n ≤ 1048577) : Calls Try.prog 7 #[.slice ao n cap] w (EntAns w es n) := by
  cases ao with
  | none =>
    obtain ⟨rfl, rfl⟩ := hc.nilA rfl
    have : es = [] := List.eq_nil_of_length_eq_zero hc.len
    subst this
    exact entries_nil w
  | some a =>
    by_cases h0 : n = 0
    · subst h0
      have : es = [] := List.eq_nil_of_length_eq_zero hc.len
      subst this
      exact entries_empty a cap w
    · obtain ⟨b, o, e, -⟩ := hc.row 0 (by rw [hc.len]; omega)
      rw [e]
      exact entries_some b o n cap es w hc.len hn (e ▸ hc.row)

set_option maxRecDepth 100000 in
set_option maxHeartbeats 4000000 in
theorem insert_walk (m p q : ByteArray) (i1 i2 i3 i4 i5 i6 : Int) (ao : Option Addr) (n cap : Nat) (c d : Int) (es : List Ent) (w : World) (hm : m.size ≤ maxLen) (hp : p.size ≤ maxLen) (hq : q.size ≤ maxLen) (hc : Came w ao n cap es) :
    Calls Try.prog 3 #[.string m, .int .i64 i1, .int .i64 i2, .int .i64 i3, .int .i64 i4, .int .i64 i5, .int .i64 i6, .string p, .slice ao n cap, .int .i64 c, .string q, .int .i64 d] w fun e w' => e = .returned (.bool true) ∧ Below w.heap.size w w' := by
  have HM := hid hm
  have HP := hid hp
  have HQ := hid hq
  have HC := hid hc
  clear hm hp hq hc
  obtain ⟨i30, hi30, hz0, hz1, hz2⟩ := info_parts Try.info30
  have H30 := hid hi30
  have Z0 := hid hz0
  have Z1 := hid hz1
  have Z2 := hid hz2
  clear hi30 hz0 hz1 hz2
  go_enter Try.func3, Try.ntmps3
  go_wp2_with fail
  refine (zz5 m p q i1 i2 i3 i4 i5 i6 ao n cap c d es w HM.out HP.out HQ.out HC.out.short HC.out.len HC.out.le HC.out.row).mono ?_
  rintro e w' ⟨v, rfl, rfl, hv⟩
  cases v
  · clear hv
    go_wp2
    go_ret
    exact ⟨rfl, Below.refl _ _⟩
  have hn := hv rfl
  clear hv
  go_wp2_with fail
  refine (bytes6 m p q ao n cap es w HM.out HP.out HQ.out HC.out.short HC.out.len HC.out.le HC.out.row).mono ?_
  rintro e w' ⟨r0, rfl, rfl⟩
  by_cases hr0 : 1048576 < r0
  · go_wp2
    go_ret
    exact ⟨rfl, Below.refl _ _⟩
  by_cases hc0 : c < 0
  · go_wp2
    go_ret
    exact ⟨rfl, Below.refl _ _⟩
  by_cases hc1 : (n : Int) < c
  · go_wp2
    go_ret
    exact ⟨rfl, Below.refl _ _⟩
  obtain ⟨k, rfl⟩ : ∃ k : Nat, c = k := ⟨c.toNat, by omega⟩
  have hkn : k ≤ n := by omega
  clear hc0 hc1
  have HR := hid HC.out.row
  have HL := hid HC.out.len
  clear HM HP HQ
  go_wp2_with fail
  refine (entries_any ao n cap es w HC.out (by omega)).mono ?_
  rintro e w1 ⟨r1, q1, rfl, hr1, hb1⟩
  have HB1 := hid hb1
  have R1 := hid hr1
  have HR1 := hid (HR.out.below hb1)
  clear hr1 hb1 HR HC
  obtain ⟨gs, hgs⟩ : ∃ gs, gs = put es k (q, d) := ⟨_, rfl⟩
  have HGS := hid hgs
  have HGL : Hid (gs.length = n + 1) := by show _ = _; rw [hgs, put_length (by rw [HL.out]; omega), HL.out]
  clear hgs
  go_wp2_with (at_make; refine wpList_make_own _ rfl _ _ 25 rfl w1.heap.size 30 i30 _ 2 Try.underlying25 H30.out Z0.out Z1.out _ _ _ (n + 1) rfl rfl rfl (by rw [Z2.out]; omega) (by unfold maxLen; omega) (by simp) ?_; intro w2 hown hgrow; have HI := hid (grow_start hown hgrow gs); clear hown hgrow)
  go_loopw [26, 27] (fun v26 v27 wr => ∃ j : Nat, j ≤ k ∧ v26 = .slice (some ⟨w1.heap.size, 0, none⟩) j (n + 1) ∧ v27 = .int .i64 j ∧ Hid (GrowRel w1 wr (n + 1) j gs)) (fun _ v27 _ => k - (intOf v27).toNat)
  case atStart => exact ⟨0, by omega, rfl, rfl, HI.out⟩
  case round =>
    obtain ⟨j, hj, rfl, rfl, HN⟩ := hrel
    have hG := HN.out.fill.lt
    by_cases h : j < k
    · have hje : j < es.length := by have := HL.out; omega
      have hjg : j < gs.length := by have := HGL.out; omega
      obtain ⟨b, o, rfl, c0, c1⟩ := (HR1.out.below HN.out.below) j hje
      obtain ⟨x, hx⟩ : ∃ x, x = es[j] := ⟨_, rfl⟩
      rw [← hx] at c0 c1
      have HX : Hid (x = gs[j]) := by
        show _ = _
        have e := HGS.out; subst e
        rw [hx, put_lo (by have := HL.out; omega) j h]
      have hjn : j < n := by omega
      clear hx
      go_wp2
      go_region_law (refine step_append_room rfl (.tmp 74) (.tmp 86) 25 rfl 30 i30 2 Try.underlying25 H30.out Z1.out w1.heap.size 0 j (n + 1) (by simp [Act.eval]) ⟨wr.heap.size, 0, none⟩ 1 1 (entC x) (by simp [Act.eval]) rfl (cells_new wr.drew (entC x) 30 wr.heap.size rfl) (one_entC x) (by omega) (HN.out.drew.spare (by omega) _ x) ?_)
      all_goals
        go_wp2
        go_roundw
        case rel => exact ⟨j + 1, by omega, rfl, by go_num, (HN.out.drew.step hjg x HX.out _)⟩
        case measure => simp [intOf]; omega
    · obtain rfl : j = k := by omega
      have hjg : j < gs.length := by have := HGL.out; omega
      have HX : Hid ((q, d) = gs[j]) := by
        show _ = _
        have e := HGS.out; subst e
        rw [put_at (by have := HL.out; omega)]
      rename World => wo
      go_wp2_with (at_builtin; refine wpList_append_place _ rfl (.tmp 88) (.tmp 92) 25 rfl 30 i30 2 Try.underlying25 H30.out Z1.out w1.heap.size 0 j (n + 1) rfl ⟨wo.heap.size, 0, none⟩ 1 1 (entC (q, d)) rfl rfl (cells_new wo (entC (q, d)) 30 wo.heap.size rfl) (one_entC _) (by omega) (HN.out.spare (by omega) _ (q, d)) ?_)
      have HN1 := hid (HN.out.step hjg (q, d) HX.out (.cells #[.string q, .int .i64 d] 30))
      clear HN HX HI hG
      go_loopw [26, 28] (fun v26 v28 wr => ∃ t : Nat, j ≤ t ∧ t ≤ n ∧ v26 = .slice (some ⟨w1.heap.size, 0, none⟩) (t + 1) (n + 1) ∧ v28 = .int .i64 t ∧ Hid (GrowRel w1 wr (n + 1) (t + 1) gs)) (fun _ v28 _ => n - (intOf v28).toNat)
      case atStart => exact ⟨j, by omega, by omega, rfl, rfl, HN1.out⟩
      case round =>
        obtain ⟨t, hjt, ht, rfl, rfl, HN⟩ := hrel
        have hG := HN.out.fill.lt
        clear HN1
        by_cases h' : t < n
        · have hte : t < es.length := by have := HL.out; omega
          have htg : t + 1 < gs.length := by have := HGL.out; omega
          obtain ⟨b, o, rfl, c0, c1⟩ := (HR1.out.below HN.out.below) t hte
          obtain ⟨x, hx⟩ : ∃ x, x = es[t] := ⟨_, rfl⟩
          rw [← hx] at c0 c1
          have HX : Hid (x = gs[t + 1]) := by
            show _ = _
            have e := HGS.out; subst e
            rw [hx, put_hi (by have := HL.out; omega) t hjt hte]
          clear hx
          go_wp2
          go_region_law (refine step_append_room rfl (.tmp 101) (.tmp 113) 25 rfl 30 i30 2 Try.underlying25 H30.out Z1.out w1.heap.size 0 (t + 1) (n + 1) (by simp [Act.eval]) ⟨wr.heap.size, 0, none⟩ 1 1 (entC x) (by simp [Act.eval]) rfl (cells_new wr.drew (entC x) 30 wr.heap.size rfl) (one_entC x) (by omega) (HN.out.drew.spare (by omega) _ x) ?_)
          all_goals
            go_wp2
            go_roundw
            case rel => exact ⟨t + 1, by omega, by omega, rfl, by go_num, (HN.out.drew.step htg x HX.out _)⟩
            case measure => simp [intOf]; omega
        · obtain rfl : t = n := by omega
          have hrow : EntRow wr (some ⟨w1.heap.size, 0, none⟩) gs := by
            have hf := HN.out.fill
            rw [← HGL.out] at hf
            exact hf.row (Nat.le_refl _)
          have G2 := hid hrow
          have HB2 := hid (nxt HB1.out HN.out.below)
          have R12 := hid (R1.out.below HN.out.below)
          clear hrow HN HR1 R1 HB1 hG h'
          go_wp2_with fail
          refine (policy_any m i1 i2 i3 i4 i5 i6 p r1 t q1 wr).mono ?_
          rintro e w4 ⟨rfl, hb4⟩
          have hb4' := nxt hb4 (alloc_below w4 (.cells (policyC m i1 i2 i3 i4 i5 i6 p (.slice r1 t q1)) 32))
          have HB4 := hid (nxt HB2.out hb4')
          have R14 := hid (R12.out.below hb4')
          have G4 := hid (G2.out.below hb4')
          have P14 := hid (Pol.made w4 m i1 i2 i3 i4 i5 i6 p (.slice r1 t q1))
          clear HB2 R12 G2 hb4 hb4'
          go_wp2_with fail
          refine (policy_any m i1 i2 i3 i4 i5 i6 p (some ⟨w1.heap.size, 0, none⟩) (t + 1) (t + 1) _).mono ?_
          rintro e w5 ⟨rfl, hb5⟩
          have hb5' := nxt hb5 (alloc_below w5 (.cells (policyC m i1 i2 i3 i4 i5 i6 p (.slice (some ⟨w1.heap.size, 0, none⟩) (t + 1) (t + 1))) 32))
          have HB5 := hid (nxt HB4.out hb5')
          have R15 := hid (R14.out.below hb5')
          have G5 := hid (G4.out.below hb5')
          have P15 := hid (P14.out.below hb5')
          have P25 := hid (Pol.made w5 m i1 i2 i3 i4 i5 i6 p (.slice (some ⟨w1.heap.size, 0, none⟩) (t + 1) (t + 1)))
          clear HB4 R14 G4 P14 hb5 hb5'
          have hG0 : Hid (∀ i (h : i < gs.length) (h' : i < es.length), i < j → gs[i].1 = es[i].1) := by
            intro i hi hi' hij
            have e := HGS.out; subst e
            rw [put_lo (by have := HL.out; omega) i hij]
          have hG1 : Hid (∀ h : j < gs.length, gs[j].1 = q) := by
            intro hi
            have e := HGS.out; subst e
            rw [put_at (by have := HL.out; omega)]
          have hG2 : Hid (∀ i (h : i + 1 < gs.length) (h' : i < es.length), j ≤ i → gs[i + 1].1 = es[i].1) := by
            intro i hi hi' hij
            have e := HGS.out; subst e
            rw [put_hi (by have := HL.out; omega) i hij hi']
          clear HGS
          by_cases h0 : t = 0
          · subst h0
            obtain rfl : j = 0 := by omega
            obtain ⟨x0, x1, x2, x3, x4, x5, x6, x7, x8⟩ := P15.out
            go_wp2_with fail
            refine (scaled_nil m i1 i2 i3 i4 i5 i6 p r1 q1 _).mono ?_
            rintro e w6 ⟨sb, tb, rfl, hs6, hb6⟩
            have HB6 := hid (nxt HB5.out hb6)
            have G6 := hid (G5.out.below hb6)
            have P26 := hid (P25.out.below hb6)
            have S6 := hid hs6
            clear x0 x1 x2 x3 x4 x5 x6 x7 x8 HB5 R15 G5 P15 P25 hs6 hb6
            obtain ⟨x0, x1, x2, x3, x4, x5, x6, x7, x8⟩ := P26.out
            go_wp2_with fail
            refine (scaled_some m i1 i2 i3 i4 i5 i6 p (some ⟨w1.heap.size, 0, none⟩) 1 1 gs _ HGL.out (by omega) (by omega) G6.out).mono ?_
            rintro e w7 ⟨sg, tg, rfl, hs7, hb7⟩
            have HB7 := hid (nxt HB6.out hb7)
            have S67 := hid (S6.out.below hb7)
            have S7 := hid hs7
            clear x0 x1 x2 x3 x4 x5 x6 x7 x8 HB6 G6 P26 S6 hs7 hb7
            obtain ⟨bb, ob, rfl, u0⟩ := S67.out 0 (by simp)
            obtain ⟨bg, og, rfl, v0⟩ := S7.out 0 (by simp [HGL.out])
            simp only [List.getElem_map, hG1.out (by rw [HGL.out]; omega)] at v0
            simp only [List.getElem_cons_zero, Nat.add_zero] at u0 v0
            go_wp2
            go_ret
            exact ⟨rfl, HB7.out⟩
          · have ht0 : 0 < t := by omega
            obtain ⟨x0, x1, x2, x3, x4, x5, x6, x7, x8⟩ := P15.out
            go_wp2_with fail
            refine (scaled_some m i1 i2 i3 i4 i5 i6 p r1 t q1 es _ HL.out (by omega) (by omega) R15.out).mono ?_
            rintro e w6 ⟨sb, tb, rfl, hs6, hb6⟩
            have HB6 := hid (nxt HB5.out hb6)
            have G6 := hid (G5.out.below hb6)
            have P26 := hid (P25.out.below hb6)
            have S6 := hid hs6
            clear x0 x1 x2 x3 x4 x5 x6 x7 x8 HB5 R15 G5 P15 P25 hs6 hb6
            obtain ⟨x0, x1, x2, x3, x4, x5, x6, x7, x8⟩ := P26.out
            go_wp2_with fail
            refine (scaled_some m i1 i2 i3 i4 i5 i6 p (some ⟨w1.heap.size, 0, none⟩) (t + 1) (t + 1) gs _ HGL.out (by omega) (by omega) G6.out).mono ?_
            rintro e w7 ⟨sg, tg, rfl, hs7, hb7⟩
            have HB7 := hid (nxt HB6.out hb7)
            have S67 := hid (S6.out.below hb7)
            have S7 := hid hs7
            clear x0 x1 x2 x3 x4 x5 x6 x7 x8 HB6 G6 P26 S6 hs7 hb7
            have hL := HL.out
            have hGL := HGL.out
            obtain ⟨bb, ob, rfl, -⟩ := S67.out 0 (by simp; omega)
            obtain ⟨bg, og, rfl, -⟩ := S7.out 0 (by simp; omega)
            clear hL hGL
            go_wp2
            go_loopw [33] (fun v33 wr => ∃ i : Nat, i ≤ j ∧ v33 = .int .i64 i ∧ Hid (Below w7.heap.size w7 wr)) (fun v33 _ => j - (intOf v33).toNat)
            case atStart => exact ⟨0, by omega, rfl, Below.refl _ _⟩
            case round =>
              obtain ⟨i, hi, rfl, HBr⟩ := hrel
              have hL := HL.out
              have hGL := HGL.out
              by_cases h2 : i < j
              · have u0 := cell_later HBr.out (S67.out.at i (by simp; omega))
                have u1 := cell_later HBr.out (S7.out.at i (by simp; omega))
                simp only [List.getElem_map] at u0 u1
                rw [hG0.out i (by omega) (by omega) h2] at u1
                generalize es[i].1 = y at u0 u1
                have hin : i < t := by omega
                clear hL hGL
                go_wp2
                go_quiet (fail)
                go_wp2
                go_roundw
                case rel => exact ⟨i + 1, by omega, by go_num, below_drewN HBr.out _⟩
                case measure => simp [intOf]; omega
              · have u1 := cell_later HBr.out (S7.out.at j (by simp; omega))
                simp only [List.getElem_map] at u1
                rw [hG1.out (by omega)] at u1
                clear hL hGL
                rename World => wq
                have HBq := HBr
                clear HBr
                go_wp2
                go_loopw [34] (fun v34 wr => ∃ i : Nat, j ≤ i ∧ i ≤ t ∧ v34 = .int .i64 i ∧ Hid (Below w7.heap.size w7 wr)) (fun v34 _ => t - (intOf v34).toNat)
                case atStart => exact ⟨j, by omega, by omega, rfl, HBq.out⟩
                case round =>
                  obtain ⟨i', hji, hit, rfl, HBr⟩ := hrel
                  have hL := HL.out
                  have hGL := HGL.out
                  clear u1
                  by_cases h3 : i' < t
                  · have u0 := cell_later HBr.out (S67.out.at i' (by simp; omega))
                    have u1 := cell_later HBr.out (S7.out.at (i' + 1) (by simp; omega))
                    simp only [List.getElem_map] at u0 u1
                    rw [hG2.out i' (by omega) (by omega) hji] at u1
                    generalize es[i'].1 = y at u0 u1
                    clear hL hGL
                    go_wp2
                    go_quiet (fail)
                    go_wp2
                    go_roundw
                    case rel => exact ⟨i' + 1, by omega, by omega, by go_num, below_drewN HBr.out _⟩
                    case measure => simp [intOf]; omega
                  · have HE := hid (nxt HB7.out HBr.out)
                    clear hL hGL
                    go_wp2
                    go_ret
                    exact ⟨rfl, HE.out⟩
end Go.Proofs.Qxb6630054a
