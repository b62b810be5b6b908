import Derived.Test.Qxb6630006aFmtOwn
namespace Go.Proofs.Qxb6630006aFmt
open Go.RowKit


/-- What the outer loop of b1Build holds. -/
structure BuildRel (w wr : World) (n1 k : Nat) (xs : List SiteV) : Prop where
  len : xs.length = k
  own : wr.ownsRow w.heap.size 35 4 (.slice (some ⟨w.heap.size, 0, none⟩) k n1) k (xs.flatMap siteC)
  ok : ∀ x ∈ xs, SiteOk wr x ∧ Apart w.heap.size x
  below : Below w.heap.size w wr

theorem build_step {w wr wb w1 : World} {n1 k : Nat} {xs : List SiteV} {x : SiteV} (h : BuildRel w wr n1 k xs) (hsz : w.heap.size < wr.heap.size) (hb : Below wr.heap.size wr wb) (hx : SiteOk wb x) (hax : Apart w.heap.size x)
    (hown : w1.ownsRow w.heap.size 35 4 (.slice (some ⟨w.heap.size, 0, none⟩) (k + 1) n1) (k + 1) (xs.flatMap siteC ++ siteC x)) (hgrow : wb.grownBy w1 (some w.heap.size)) : BuildRel w w1 n1 (k + 1) (xs ++ [x]) := by
  have hz := hb.size
  refine ⟨by simp [h.len], by simpa using hown, fun y hy => ?_, (h.below.trans (hb.mono (by omega))).grown hgrow (by omega) (fun _ e => by cases e; exact Nat.le_refl _)⟩
  rcases List.mem_append.1 hy with hy | hy
  · obtain ⟨ho, ha⟩ := h.ok y hy
    exact ⟨ho.kept ((Kept.of_below hb).trans (Kept.of_grown hgrow) hz) ha, ha⟩
  · simp at hy; subst hy
    exact ⟨hx.kept (Kept.of_grown hgrow) hax, hax⟩
/-- What the inner loop of b1Build holds: the servers so far lie at block G; below G nothing has turned. -/
structure InnerRel (wi wj : World) (G n j : Nat) (ss : List Srv) : Prop where
  len : ss.length = j
  own : wj.ownsRow G 32 4 (.slice (some ⟨G, 0, none⟩) j n) j (ss.flatMap srvC)
  below : Below G wi wj
theorem inner_step {wi wj wb w1 : World} {G n j : Nat} {ss : List Srv} {x : Srv} (h : InnerRel wi wj G n j ss) (hG : G ≤ wj.heap.size) (hb : Below wj.heap.size wj wb)
    (hown : w1.ownsRow G 32 4 (.slice (some ⟨G, 0, none⟩) (j + 1) n) (j + 1) (ss.flatMap srvC ++ srvC x)) (hgrow : wb.grownBy w1 (some G)) : InnerRel wi w1 G n (j + 1) (ss ++ [x]) := by
  have hz := hb.size
  exact ⟨by simp [h.len], by simpa using hown, (h.below.trans (hb.mono hG)).grown hgrow (by omega) (fun _ e => by cases e; exact Nat.le_refl _)⟩
/-- Behind the inner loop: the site's block at W takes the servers' slice; its block and the sites' row stand. -/
theorem site_end {wr wj : World} {W G n : Nat} {cs : Array Value} {ss : List Srv} {nm rg : ByteArray} (hW : W = wr.heap.size) (hG : G = W + 1) (h : InnerRel (wr.alloc (.cells cs 35)) wj G n n ss) (hn : n ≤ 1048577) (v : Value) :
    Below wr.heap.size wr (wj.setCell ⟨W, 2, none⟩ v) ∧ SiteOk (wj.setCell ⟨W, 2, none⟩ v) ⟨nm, rg, some ⟨G, 0, none⟩, n, ss⟩ := by
  subst hW; subst hG
  have hB : Below wr.heap.size wr wj := ((Below.refl _ _).alloc (Nat.le_refl _) _).trans (h.below.mono (by omega))
  refine ⟨hB.setCell (Nat.le_refl _) _, ?_, ?_, fun e => by cases e⟩
  · have ho := h.own
    rw [← h.len] at ho
    have ho' := owns_block (w' := wj.setCell ⟨wr.heap.size, 2, none⟩ v) ho (heap_setCell_other _ _ _ _ (by simp))
    exact srvRow_of_owns (cap := ss.length) ho'
  · show ss.length ≤ _; rw [h.len]; exact hn

theorem nilSite_ok (w : World) (nm rg : ByteArray) : SiteOk w ⟨nm, rg, none, 0, []⟩ := ⟨fun i hi => by simp at hi, by simp, fun _ => ⟨rfl, rfl⟩⟩
theorem nilSite_apart (S : Nat) (nm rg : ByteArray) : Apart S ⟨nm, rg, none, 0, []⟩ := fun _ e => by simp at e
theorem inner_cell {wo wj : World} {n j : Nat} {ss : List Srv} {o : Obj} (h : InnerRel (wo.alloc o) wj (wo.heap.size + 1) n j ss) {a : Addr} {v : Value} (hc : wo.cell? a = some v) : wj.cell? a = some v := by
  have hlt := World.block_lt_of_cell? wo a hc
  exact (h.below.cell (by omega)).trans ((World.cell?_alloc_lt _ _ _ hlt).trans hc)
theorem inner_site {wo wj : World} {n j i t : Nat} {ss : List Srv} {cs : Array Value} (h : InnerRel (wo.alloc (.cells cs t)) wj (wo.heap.size + 1) n j ss) : wj.cell? ⟨wo.heap.size, i, none⟩ = cs[i]? :=
  (h.below.cell (by simp)).trans (by simp)
theorem inner_free {wo wj : World} {n j i t : Nat} {ss : List Srv} {cs : Array Value} (h : InnerRel (wo.alloc (.cells cs t)) wj (wo.heap.size + 1) n j ss) : wj.frozen? ⟨wo.heap.size, i, none⟩ = false :=
  (h.below.frozen (by simp)).trans (by simp)
theorem inner_own {w wo wj : World} {n1 k n j : Nat} {xs : List SiteV} {ss : List Srv} {o : Obj} (hB : BuildRel w wo n1 k xs) (hsz : w.heap.size < wo.heap.size) (h : InnerRel (wo.alloc o) wj (wo.heap.size + 1) n j ss) (v : Value) :
    (wj.setCell ⟨wo.heap.size, 2, none⟩ v).ownsRow w.heap.size 35 4 (.slice (some ⟨w.heap.size, 0, none⟩) k n1) k (xs.flatMap siteC) :=
  owns_block hB.own ((heap_setCell_other _ _ _ _ (by simp; omega)).trans ((h.below.block _ (by omega)).trans (Below.heap_alloc _ _ _ hsz)))

set_option maxRecDepth 100000 in
set_option maxHeartbeats 4000000 in
theorem build_any (a1 a2 a3 a4 : Option Addr) (n1 n2 n3 n4 c1 c2 c3 c4 : Nat) (w : World) (h : Came w 1048576 a1 a2 a3 a4 n1 n2 n3 n4) :
    Calls Tryf.prog 7 #[.slice a1 n1 c1, .slice a2 n2 c2, .slice a3 n3 c3, .slice a4 n4 c4] w fun e w' => ∃ xs, e = .returned (.slice (some ⟨w.heap.size, 0, none⟩) n1 n1) ∧ BuildRel w w' n1 n1 xs := by
  obtain ⟨l1, l2, l3, l4, r1, r2, r3, r4⟩ := h
  have R1 : Hid (StrRow w a1 n1) := r1
  have R2 : Hid (StrRow w a2 n2) := r2
  have R3 : Hid (NestRow w 1048576 a3 n3) := r3
  have R4 : Hid (NestRow w 1048576 a4 n4) := r4
  clear r1 r2 r3 r4
  obtain ⟨i35, hi35, hz0, hz1, hz2⟩ := info_parts Tryf.info35
  obtain ⟨i32, hi32, hy0, hy1, hy2⟩ := info_parts Tryf.info32
  have H35 := hid hi35
  have H32 := hid hi32
  have Z0 := hid hz0
  have Z1 := hid hz1
  have Z2 := hid hz2
  have Y0 := hid hy0
  have Y1 := hid hy1
  have Y2 := hid hy2
  clear hi35 hi32 hz0 hz1 hz2 hy0 hy1 hy2
  go_enter Tryf.func7, Tryf.ntmps7
  go_wp2_with (at_make; refine wpList_make_own _ rfl _ _ 26 rfl w.heap.size 35 i35 _ 4 Tryf.underlying26 H35.out Z0.out Z1.out _ _ _ n1 rfl rfl rfl (by rw [Z2.out]; omega) (by unfold maxLen; omega) (Nat.le_refl _) ?_; intro w0 hown0 hgrow0)
  have HO := hid hown0
  have HG := hid hgrow0
  clear hown0 hgrow0
  go_loopw [9, 10] (fun v9 vi wr => ∃ (k : Nat) (xs : List SiteV), k ≤ n1 ∧ v9 = .slice (some ⟨w.heap.size, 0, none⟩) k n1 ∧ vi = .int .i64 k ∧ Hid (BuildRel w wr n1 k xs)) (fun _ vi _ => n1 - (intOf vi).toNat)
  case atStart => exact ⟨0, [], by omega, rfl, rfl, ⟨rfl, HO.out, by simp, (Below.refl _ _).grown HG.out (Nat.le_refl _) (fun _ h => by cases h)⟩⟩
  case round =>
    rename World => wo
    obtain ⟨k, xs, hk, rfl, rfl, HB⟩ := hrel
    have hsz : w.heap.size < wo.heap.size := owns_lt HB.out.own
    by_cases h : k < n1
    · obtain ⟨b1, o1, s, rfl, hc1, hs1⟩ := R1.out k h
      have hc1' := cell_later HB.out.below hc1
      clear hs1 hc1
      by_cases hr : k < n2
      · obtain ⟨b2, o2, rg, rfl, hc2, hs2⟩ := R2.out k hr
        have hc2' := cell_later HB.out.below hc2
        have hzb2 : b2 < wo.heap.size := World.block_lt_of_cell? wo _ hc2'
        clear hc2 hs2
        by_cases hn3 : k < n3
        · obtain ⟨b3, o3, a', n', c', rfl, hc3, hl3, hs3⟩ := R3.out k hn3
          have hc3' := cell_later HB.out.below hc3
          have hzb3 : b3 < wo.heap.size := World.block_lt_of_cell? wo _ hc3'
          have HS3 := hid (hs3.below HB.out.below)
          clear hc3 hs3
          by_cases hn4 : k < n4
          · obtain ⟨b4, o4, a'', n'', c'', rfl, hc4, hl4, hs4⟩ := R4.out k hn4
            have hc4' := cell_later HB.out.below hc4
            have hzb4 : b4 < wo.heap.size := World.block_lt_of_cell? wo _ hc4'
            have HS4 := hid (hs4.below HB.out.below)
            clear hc4 hs4
            go_wp2_with (at_make; refine wpList_make_own _ rfl _ _ 28 rfl (wo.heap.size + 1) 32 i32 _ 4 Tryf.underlying28 H32.out Y0.out Y1.out _ _ _ n' rfl rfl rfl (by rw [Y2.out]; omega) (by unfold maxLen; omega) (by simp) ?_; intro w2 hown2 hgrow2)
            have HI0 : Hid (InnerRel (wo.alloc (.cells #[.string s, .string rg, .slice none 0 0, .pointer none] 35)) w2 (wo.heap.size + 1) n' 0 []) := ⟨rfl, by simpa using hown2, (Below.refl _ _).grown hgrow2 (by simp) (fun _ h => by cases h)⟩
            clear hown2 hgrow2
            go_loopw [14, 15] (fun v14 vj wj => ∃ (j : Nat) (ss : List Srv), j ≤ n' ∧ v14 = .slice (some ⟨wo.heap.size + 1, 0, none⟩) j n' ∧ vj = .int .i64 j ∧ Hid (InnerRel (wo.alloc (.cells #[.string s, .string rg, .slice none 0 0, .pointer none] 35)) wj (wo.heap.size + 1) n' j ss)) (fun _ vj _ => n' - (intOf vj).toNat)
            case atStart => exact ⟨0, [], by omega, by simp, rfl, HI0.out⟩
            case round =>
              obtain ⟨j, ss, hj, rfl, rfl, HI⟩ := hrel
              have hzj : wo.heap.size + 1 < wr.heap.size := owns_lt HI.out.own
              by_cases hjn : j < n'
              · obtain ⟨b5, o5, s5, rfl, hc5, hs5⟩ := HS3.out j hjn
                have hc5' := inner_cell HI.out hc5
                clear hc5 hs5
                by_cases hj4 : j < n''
                · obtain ⟨b6, o6, s6, rfl, hc6, hs6⟩ := HS4.out j hj4
                  have hc6' := inner_cell HI.out hc6
                  have hzb6 : b6 < wr.heap.size := World.block_lt_of_cell? wr _ hc6'
                  clear hc6 hs6
                  go_wp2_with (at_builtin; refine wpList_append_fits _ rfl (.tmp 79) (.tmp 81) 28 rfl (wo.heap.size + 1) 32 i32 4 Tryf.underlying28 H32.out Y1.out (wo.heap.size + 1) j n' _ rfl ((HI.out.own.alloc _).alloc _) ⟨wr.heap.size + 1, 0, none⟩ 1 1 (srvC (s5, s6)) rfl rfl (cells_new _ _ _ _ (by simp)) (one_srvC _) (by omega) ?_; intro w3 hown3 hgrow3)
                  have HN := hid (inner_step (x := (s5, s6)) HI.out (by omega) (((Below.refl _ _).alloc (Nat.le_refl _) _).alloc (by simp) _) hown3 hgrow3)
                  clear hown3 hgrow3
                  go_wp2
                  go_roundw
                  case rel => exact ⟨j + 1, _, by omega, rfl, by go_num, HN.out⟩
                  case measure => simp [intOf]; omega
                · go_wp2_with (at_builtin; refine wpList_append_fits _ rfl (.tmp 79) (.tmp 81) 28 rfl (wo.heap.size + 1) 32 i32 4 Tryf.underlying28 H32.out Y1.out (wo.heap.size + 1) j n' _ rfl ((HI.out.own.alloc _).alloc _) ⟨wr.heap.size + 1, 0, none⟩ 1 1 (srvC (s5, ⟨#[]⟩)) rfl rfl (cells_new _ _ _ _ (by simp)) (one_srvC _) (by omega) ?_; intro w3 hown3 hgrow3)
                  have HN := hid (inner_step (x := (s5, ⟨#[]⟩)) HI.out (by omega) (((Below.refl _ _).alloc (Nat.le_refl _) _).alloc (by simp) _) hown3 hgrow3)
                  clear hown3 hgrow3
                  go_wp2
                  go_roundw
                  case rel => exact ⟨j + 1, _, by omega, rfl, by go_num, HN.out⟩
                  case measure => simp [intOf]; omega
              · obtain rfl : j = n' := by omega
                obtain rfl : j = ss.length := HI.out.len.symm
                have d0 := inner_site (i := 0) HI.out
                have d1 := inner_site (i := 1) HI.out
                have d2 := inner_site (i := 2) HI.out
                have d3 := inner_site (i := 3) HI.out
                have f2 := inner_free (i := 2) HI.out
                simp at d0 d1 d2 d3
                have HE := hid (site_end (nm := s) (rg := rg) rfl rfl HI.out (by omega) (.slice (some ⟨wo.heap.size + 1, 0, none⟩) ss.length ss.length))
                have HOS := hid (inner_own HB.out hsz HI.out (.slice (some ⟨wo.heap.size + 1, 0, none⟩) ss.length ss.length))
                go_wp2_with (at_builtin; refine wpList_append_fits _ rfl (.tmp 85) (.tmp 87) 26 rfl w.heap.size 35 i35 4 Tryf.underlying26 H35.out Z1.out w.heap.size k n1 _ rfl (HOS.out.alloc _) ⟨wr.heap.size, 0, none⟩ 1 1 (siteC ⟨s, rg, some ⟨wo.heap.size + 1, 0, none⟩, ss.length, ss⟩) rfl rfl (cells_new _ _ _ _ (by simp [World.setCell])) (one_siteC _) (by omega) ?_; intro w1 hown1 hgrow1)
                have hbb : Below wo.heap.size wo ((wr.setCell ⟨wo.heap.size, 2, none⟩ (.slice (some ⟨wo.heap.size + 1, 0, none⟩) ss.length ss.length)).alloc (.cells (siteC ⟨s, rg, some ⟨wo.heap.size + 1, 0, none⟩, ss.length, ss⟩).toArray 35)) := HE.out.1.alloc (by simp [World.setCell]; omega) _
                have HN := hid (build_step (x := ⟨s, rg, some ⟨wo.heap.size + 1, 0, none⟩, ss.length, ss⟩) HB.out hsz hbb (HE.out.2.below ((Below.refl _ _).alloc (Nat.le_refl _) _)) (fun _ e => by cases e; simp; omega) hown1 hgrow1)
                clear hown1 hgrow1 hbb
                go_wp2
                go_roundw
                case rel => exact ⟨k + 1, _, by omega, rfl, by go_num, HN.out⟩
                case measure => simp [intOf]; omega
          · skip
            go_wp2_with (at_make; refine wpList_make_own _ rfl _ _ 28 rfl (wo.heap.size + 1) 32 i32 _ 4 Tryf.underlying28 H32.out Y0.out Y1.out _ _ _ n' rfl rfl rfl (by rw [Y2.out]; omega) (by unfold maxLen; omega) (by simp) ?_; intro w2 hown2 hgrow2)
            have HI0 : Hid (InnerRel (wo.alloc (.cells #[.string s, .string rg, .slice none 0 0, .pointer none] 35)) w2 (wo.heap.size + 1) n' 0 []) := ⟨rfl, by simpa using hown2, (Below.refl _ _).grown hgrow2 (by simp) (fun _ h => by cases h)⟩
            clear hown2 hgrow2
            go_loopw [14, 15] (fun v14 vj wj => ∃ (j : Nat) (ss : List Srv), j ≤ n' ∧ v14 = .slice (some ⟨wo.heap.size + 1, 0, none⟩) j n' ∧ vj = .int .i64 j ∧ Hid (InnerRel (wo.alloc (.cells #[.string s, .string rg, .slice none 0 0, .pointer none] 35)) wj (wo.heap.size + 1) n' j ss)) (fun _ vj _ => n' - (intOf vj).toNat)
            case atStart => exact ⟨0, [], by omega, by simp, rfl, HI0.out⟩
            case round =>
              obtain ⟨j, ss, hj, rfl, rfl, HI⟩ := hrel
              have hzj : wo.heap.size + 1 < wr.heap.size := owns_lt HI.out.own
              by_cases hjn : j < n'
              · obtain ⟨b5, o5, s5, rfl, hc5, hs5⟩ := HS3.out j hjn
                have hc5' := inner_cell HI.out hc5
                clear hc5 hs5
                go_wp2_with (at_builtin; refine wpList_append_fits _ rfl (.tmp 79) (.tmp 81) 28 rfl (wo.heap.size + 1) 32 i32 4 Tryf.underlying28 H32.out Y1.out (wo.heap.size + 1) j n' _ rfl ((HI.out.own.alloc _).alloc _) ⟨wr.heap.size + 1, 0, none⟩ 1 1 (srvC (s5, ⟨#[]⟩)) rfl rfl (cells_new _ _ _ _ (by simp)) (one_srvC _) (by omega) ?_; intro w3 hown3 hgrow3)
                have HN := hid (inner_step (x := (s5, ⟨#[]⟩)) HI.out (by omega) (((Below.refl _ _).alloc (Nat.le_refl _) _).alloc (by simp) _) hown3 hgrow3)
                clear hown3 hgrow3
                go_wp2
                go_roundw
                case rel => exact ⟨j + 1, _, by omega, rfl, by go_num, HN.out⟩
                case measure => simp [intOf]; omega
              · obtain rfl : j = n' := by omega
                obtain rfl : j = ss.length := HI.out.len.symm
                have d0 := inner_site (i := 0) HI.out
                have d1 := inner_site (i := 1) HI.out
                have d2 := inner_site (i := 2) HI.out
                have d3 := inner_site (i := 3) HI.out
                have f2 := inner_free (i := 2) HI.out
                simp at d0 d1 d2 d3
                have HE := hid (site_end (nm := s) (rg := rg) rfl rfl HI.out (by omega) (.slice (some ⟨wo.heap.size + 1, 0, none⟩) ss.length ss.length))
                have HOS := hid (inner_own HB.out hsz HI.out (.slice (some ⟨wo.heap.size + 1, 0, none⟩) ss.length ss.length))
                go_wp2_with (at_builtin; refine wpList_append_fits _ rfl (.tmp 85) (.tmp 87) 26 rfl w.heap.size 35 i35 4 Tryf.underlying26 H35.out Z1.out w.heap.size k n1 _ rfl (HOS.out.alloc _) ⟨wr.heap.size, 0, none⟩ 1 1 (siteC ⟨s, rg, some ⟨wo.heap.size + 1, 0, none⟩, ss.length, ss⟩) rfl rfl (cells_new _ _ _ _ (by simp [World.setCell])) (one_siteC _) (by omega) ?_; intro w1 hown1 hgrow1)
                have hbb : Below wo.heap.size wo ((wr.setCell ⟨wo.heap.size, 2, none⟩ (.slice (some ⟨wo.heap.size + 1, 0, none⟩) ss.length ss.length)).alloc (.cells (siteC ⟨s, rg, some ⟨wo.heap.size + 1, 0, none⟩, ss.length, ss⟩).toArray 35)) := HE.out.1.alloc (by simp [World.setCell]; omega) _
                have HN := hid (build_step (x := ⟨s, rg, some ⟨wo.heap.size + 1, 0, none⟩, ss.length, ss⟩) HB.out hsz hbb (HE.out.2.below ((Below.refl _ _).alloc (Nat.le_refl _) _)) (fun _ e => by cases e; simp; omega) hown1 hgrow1)
                clear hown1 hgrow1 hbb
                go_wp2
                go_roundw
                case rel => exact ⟨k + 1, _, by omega, rfl, by go_num, HN.out⟩
                case measure => simp [intOf]; omega
        · go_wp2_with (at_builtin; refine wpList_append_fits _ rfl (.tmp 85) (.tmp 87) 26 rfl w.heap.size 35 i35 4 Tryf.underlying26 H35.out Z1.out w.heap.size k n1 _ rfl ((HB.out.own.alloc _).alloc _) ⟨wo.heap.size + 1, 0, none⟩ 1 1 (siteC ⟨s, rg, none, 0, []⟩) rfl rfl (cells_new _ _ _ _ (by simp)) (one_siteC _) (by omega) ?_; intro w1 hown1 hgrow1)
          have HN := hid (build_step (x := ⟨s, rg, none, 0, []⟩) HB.out hsz (((Below.refl _ _).alloc (Nat.le_refl _) _).alloc (by simp) _) (nilSite_ok _ _ _) (nilSite_apart _ _ _) hown1 hgrow1)
          clear hown1 hgrow1
          go_wp2
          go_roundw
          case rel => exact ⟨k + 1, _, by omega, rfl, by go_num, HN.out⟩
          case measure => simp [intOf]; omega
      · skip
        by_cases hn3 : k < n3
        · obtain ⟨b3, o3, a', n', c', rfl, hc3, hl3, hs3⟩ := R3.out k hn3
          have hc3' := cell_later HB.out.below hc3
          have hzb3 : b3 < wo.heap.size := World.block_lt_of_cell? wo _ hc3'
          have HS3 := hid (hs3.below HB.out.below)
          clear hc3 hs3
          by_cases hn4 : k < n4
          · obtain ⟨b4, o4, a'', n'', c'', rfl, hc4, hl4, hs4⟩ := R4.out k hn4
            have hc4' := cell_later HB.out.below hc4
            have hzb4 : b4 < wo.heap.size := World.block_lt_of_cell? wo _ hc4'
            have HS4 := hid (hs4.below HB.out.below)
            clear hc4 hs4
            go_wp2_with (at_make; refine wpList_make_own _ rfl _ _ 28 rfl (wo.heap.size + 1) 32 i32 _ 4 Tryf.underlying28 H32.out Y0.out Y1.out _ _ _ n' rfl rfl rfl (by rw [Y2.out]; omega) (by unfold maxLen; omega) (by simp) ?_; intro w2 hown2 hgrow2)
            have HI0 : Hid (InnerRel (wo.alloc (.cells #[.string s, .string ⟨#[]⟩, .slice none 0 0, .pointer none] 35)) w2 (wo.heap.size + 1) n' 0 []) := ⟨rfl, by simpa using hown2, (Below.refl _ _).grown hgrow2 (by simp) (fun _ h => by cases h)⟩
            clear hown2 hgrow2
            go_loopw [14, 15] (fun v14 vj wj => ∃ (j : Nat) (ss : List Srv), j ≤ n' ∧ v14 = .slice (some ⟨wo.heap.size + 1, 0, none⟩) j n' ∧ vj = .int .i64 j ∧ Hid (InnerRel (wo.alloc (.cells #[.string s, .string ⟨#[]⟩, .slice none 0 0, .pointer none] 35)) wj (wo.heap.size + 1) n' j ss)) (fun _ vj _ => n' - (intOf vj).toNat)
            case atStart => exact ⟨0, [], by omega, by simp, rfl, HI0.out⟩
            case round =>
              obtain ⟨j, ss, hj, rfl, rfl, HI⟩ := hrel
              have hzj : wo.heap.size + 1 < wr.heap.size := owns_lt HI.out.own
              by_cases hjn : j < n'
              · obtain ⟨b5, o5, s5, rfl, hc5, hs5⟩ := HS3.out j hjn
                have hc5' := inner_cell HI.out hc5
                clear hc5 hs5
                by_cases hj4 : j < n''
                · obtain ⟨b6, o6, s6, rfl, hc6, hs6⟩ := HS4.out j hj4
                  have hc6' := inner_cell HI.out hc6
                  have hzb6 : b6 < wr.heap.size := World.block_lt_of_cell? wr _ hc6'
                  clear hc6 hs6
                  go_wp2_with (at_builtin; refine wpList_append_fits _ rfl (.tmp 79) (.tmp 81) 28 rfl (wo.heap.size + 1) 32 i32 4 Tryf.underlying28 H32.out Y1.out (wo.heap.size + 1) j n' _ rfl ((HI.out.own.alloc _).alloc _) ⟨wr.heap.size + 1, 0, none⟩ 1 1 (srvC (s5, s6)) rfl rfl (cells_new _ _ _ _ (by simp)) (one_srvC _) (by omega) ?_; intro w3 hown3 hgrow3)
                  have HN := hid (inner_step (x := (s5, s6)) HI.out (by omega) (((Below.refl _ _).alloc (Nat.le_refl _) _).alloc (by simp) _) hown3 hgrow3)
                  clear hown3 hgrow3
                  go_wp2
                  go_roundw
                  case rel => exact ⟨j + 1, _, by omega, rfl, by go_num, HN.out⟩
                  case measure => simp [intOf]; omega
                · go_wp2_with (at_builtin; refine wpList_append_fits _ rfl (.tmp 79) (.tmp 81) 28 rfl (wo.heap.size + 1) 32 i32 4 Tryf.underlying28 H32.out Y1.out (wo.heap.size + 1) j n' _ rfl ((HI.out.own.alloc _).alloc _) ⟨wr.heap.size + 1, 0, none⟩ 1 1 (srvC (s5, ⟨#[]⟩)) rfl rfl (cells_new _ _ _ _ (by simp)) (one_srvC _) (by omega) ?_; intro w3 hown3 hgrow3)
                  have HN := hid (inner_step (x := (s5, ⟨#[]⟩)) HI.out (by omega) (((Below.refl _ _).alloc (Nat.le_refl _) _).alloc (by simp) _) hown3 hgrow3)
                  clear hown3 hgrow3
                  go_wp2
                  go_roundw
                  case rel => exact ⟨j + 1, _, by omega, rfl, by go_num, HN.out⟩
                  case measure => simp [intOf]; omega
              · obtain rfl : j = n' := by omega
                obtain rfl : j = ss.length := HI.out.len.symm
                have d0 := inner_site (i := 0) HI.out
                have d1 := inner_site (i := 1) HI.out
                have d2 := inner_site (i := 2) HI.out
                have d3 := inner_site (i := 3) HI.out
                have f2 := inner_free (i := 2) HI.out
                simp at d0 d1 d2 d3
                have HE := hid (site_end (nm := s) (rg := ⟨#[]⟩) rfl rfl HI.out (by omega) (.slice (some ⟨wo.heap.size + 1, 0, none⟩) ss.length ss.length))
                have HOS := hid (inner_own HB.out hsz HI.out (.slice (some ⟨wo.heap.size + 1, 0, none⟩) ss.length ss.length))
                go_wp2_with (at_builtin; refine wpList_append_fits _ rfl (.tmp 85) (.tmp 87) 26 rfl w.heap.size 35 i35 4 Tryf.underlying26 H35.out Z1.out w.heap.size k n1 _ rfl (HOS.out.alloc _) ⟨wr.heap.size, 0, none⟩ 1 1 (siteC ⟨s, ⟨#[]⟩, some ⟨wo.heap.size + 1, 0, none⟩, ss.length, ss⟩) rfl rfl (cells_new _ _ _ _ (by simp [World.setCell])) (one_siteC _) (by omega) ?_; intro w1 hown1 hgrow1)
                have hbb : Below wo.heap.size wo ((wr.setCell ⟨wo.heap.size, 2, none⟩ (.slice (some ⟨wo.heap.size + 1, 0, none⟩) ss.length ss.length)).alloc (.cells (siteC ⟨s, ⟨#[]⟩, some ⟨wo.heap.size + 1, 0, none⟩, ss.length, ss⟩).toArray 35)) := HE.out.1.alloc (by simp [World.setCell]; omega) _
                have HN := hid (build_step (x := ⟨s, ⟨#[]⟩, some ⟨wo.heap.size + 1, 0, none⟩, ss.length, ss⟩) HB.out hsz hbb (HE.out.2.below ((Below.refl _ _).alloc (Nat.le_refl _) _)) (fun _ e => by cases e; simp; omega) hown1 hgrow1)
                clear hown1 hgrow1 hbb
                go_wp2
                go_roundw
                case rel => exact ⟨k + 1, _, by omega, rfl, by go_num, HN.out⟩
                case measure => simp [intOf]; omega
          · skip
            go_wp2_with (at_make; refine wpList_make_own _ rfl _ _ 28 rfl (wo.heap.size + 1) 32 i32 _ 4 Tryf.underlying28 H32.out Y0.out Y1.out _ _ _ n' rfl rfl rfl (by rw [Y2.out]; omega) (by unfold maxLen; omega) (by simp) ?_; intro w2 hown2 hgrow2)
            have HI0 : Hid (InnerRel (wo.alloc (.cells #[.string s, .string ⟨#[]⟩, .slice none 0 0, .pointer none] 35)) w2 (wo.heap.size + 1) n' 0 []) := ⟨rfl, by simpa using hown2, (Below.refl _ _).grown hgrow2 (by simp) (fun _ h => by cases h)⟩
            clear hown2 hgrow2
            go_loopw [14, 15] (fun v14 vj wj => ∃ (j : Nat) (ss : List Srv), j ≤ n' ∧ v14 = .slice (some ⟨wo.heap.size + 1, 0, none⟩) j n' ∧ vj = .int .i64 j ∧ Hid (InnerRel (wo.alloc (.cells #[.string s, .string ⟨#[]⟩, .slice none 0 0, .pointer none] 35)) wj (wo.heap.size + 1) n' j ss)) (fun _ vj _ => n' - (intOf vj).toNat)
            case atStart => exact ⟨0, [], by omega, by simp, rfl, HI0.out⟩
            case round =>
              obtain ⟨j, ss, hj, rfl, rfl, HI⟩ := hrel
              have hzj : wo.heap.size + 1 < wr.heap.size := owns_lt HI.out.own
              by_cases hjn : j < n'
              · obtain ⟨b5, o5, s5, rfl, hc5, hs5⟩ := HS3.out j hjn
                have hc5' := inner_cell HI.out hc5
                clear hc5 hs5
                go_wp2_with (at_builtin; refine wpList_append_fits _ rfl (.tmp 79) (.tmp 81) 28 rfl (wo.heap.size + 1) 32 i32 4 Tryf.underlying28 H32.out Y1.out (wo.heap.size + 1) j n' _ rfl ((HI.out.own.alloc _).alloc _) ⟨wr.heap.size + 1, 0, none⟩ 1 1 (srvC (s5, ⟨#[]⟩)) rfl rfl (cells_new _ _ _ _ (by simp)) (one_srvC _) (by omega) ?_; intro w3 hown3 hgrow3)
                have HN := hid (inner_step (x := (s5, ⟨#[]⟩)) HI.out (by omega) (((Below.refl _ _).alloc (Nat.le_refl _) _).alloc (by simp) _) hown3 hgrow3)
                clear hown3 hgrow3
                go_wp2
                go_roundw
                case rel => exact ⟨j + 1, _, by omega, rfl, by go_num, HN.out⟩
                case measure => simp [intOf]; omega
              · obtain rfl : j = n' := by omega
                obtain rfl : j = ss.length := HI.out.len.symm
                have d0 := inner_site (i := 0) HI.out
                have d1 := inner_site (i := 1) HI.out
                have d2 := inner_site (i := 2) HI.out
                have d3 := inner_site (i := 3) HI.out
                have f2 := inner_free (i := 2) HI.out
                simp at d0 d1 d2 d3
                have HE := hid (site_end (nm := s) (rg := ⟨#[]⟩) rfl rfl HI.out (by omega) (.slice (some ⟨wo.heap.size + 1, 0, none⟩) ss.length ss.length))
                have HOS := hid (inner_own HB.out hsz HI.out (.slice (some ⟨wo.heap.size + 1, 0, none⟩) ss.length ss.length))
                go_wp2_with (at_builtin; refine wpList_append_fits _ rfl (.tmp 85) (.tmp 87) 26 rfl w.heap.size 35 i35 4 Tryf.underlying26 H35.out Z1.out w.heap.size k n1 _ rfl (HOS.out.alloc _) ⟨wr.heap.size, 0, none⟩ 1 1 (siteC ⟨s, ⟨#[]⟩, some ⟨wo.heap.size + 1, 0, none⟩, ss.length, ss⟩) rfl rfl (cells_new _ _ _ _ (by simp [World.setCell])) (one_siteC _) (by omega) ?_; intro w1 hown1 hgrow1)
                have hbb : Below wo.heap.size wo ((wr.setCell ⟨wo.heap.size, 2, none⟩ (.slice (some ⟨wo.heap.size + 1, 0, none⟩) ss.length ss.length)).alloc (.cells (siteC ⟨s, ⟨#[]⟩, some ⟨wo.heap.size + 1, 0, none⟩, ss.length, ss⟩).toArray 35)) := HE.out.1.alloc (by simp [World.setCell]; omega) _
                have HN := hid (build_step (x := ⟨s, ⟨#[]⟩, some ⟨wo.heap.size + 1, 0, none⟩, ss.length, ss⟩) HB.out hsz hbb (HE.out.2.below ((Below.refl _ _).alloc (Nat.le_refl _) _)) (fun _ e => by cases e; simp; omega) hown1 hgrow1)
                clear hown1 hgrow1 hbb
                go_wp2
                go_roundw
                case rel => exact ⟨k + 1, _, by omega, rfl, by go_num, HN.out⟩
                case measure => simp [intOf]; omega
        · go_wp2_with (at_builtin; refine wpList_append_fits _ rfl (.tmp 85) (.tmp 87) 26 rfl w.heap.size 35 i35 4 Tryf.underlying26 H35.out Z1.out w.heap.size k n1 _ rfl ((HB.out.own.alloc _).alloc _) ⟨wo.heap.size + 1, 0, none⟩ 1 1 (siteC ⟨s, ⟨#[]⟩, none, 0, []⟩) rfl rfl (cells_new _ _ _ _ (by simp)) (one_siteC _) (by omega) ?_; intro w1 hown1 hgrow1)
          have HN := hid (build_step (x := ⟨s, ⟨#[]⟩, none, 0, []⟩) HB.out hsz (((Below.refl _ _).alloc (Nat.le_refl _) _).alloc (by simp) _) (nilSite_ok _ _ _) (nilSite_apart _ _ _) hown1 hgrow1)
          clear hown1 hgrow1
          go_wp2
          go_roundw
          case rel => exact ⟨k + 1, _, by omega, rfl, by go_num, HN.out⟩
          case measure => simp [intOf]; omega
    · go_wp2
      go_ret
      obtain rfl : k = n1 := by omega
      exact ⟨xs, rfl, HB.out⟩
end Go.Proofs.Qxb6630006aFmt
