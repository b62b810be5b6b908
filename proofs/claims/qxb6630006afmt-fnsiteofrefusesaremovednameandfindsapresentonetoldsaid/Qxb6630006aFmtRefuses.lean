import Derived.Test.Qxb6630006aFmtSiteOf
import Derived.Test.Qxb6630006aFmtZz
import Derived.Test.Qxb6630006aFmtBuild
import Derived.Deep.RegionHeld3
namespace Go.Proofs.Qxb6630006aFmt
open Go.RowKit Go.Extern.Stop Go.Stop Go.Extern

/-! ### THE PLAIN SIDE OF THE LAW 'REFUSES A REMOVED NAME' -/
/-- How many servers called name there are. -/
def tot (name : ByteArray) (xs : List SiteV) : Nat := (xs.map fun x => x.ss.countP (hit name)).sum
theorem tot_step {name : ByteArray} {xs : List SiteV} {k : Nat} (h : k < xs.length) : tot name (xs.take (k + 1)) = tot name (xs.take k) + xs[k].ss.countP (hit name) := by
  unfold tot; rw [List.take_succ_eq_append_getElem h, List.map_append, List.sum_append]; simp
theorem cnt_step {name : ByteArray} {ss : List Srv} {t : Nat} (h : t < ss.length) : (ss.take (t + 1)).countP (hit name) = (ss.take t).countP (hit name) + if hit name ss[t] then 1 else 0 := by
  rw [List.take_succ_eq_append_getElem h, List.countP_append]; simp [List.countP_cons]
theorem tot_pos {name : ByteArray} {xs : List SiteV} : 0 < tot name xs ↔ siteOf xs name ≠ none := by
  unfold siteOf tot
  induction xs with
  | nil => simp
  | cons x xs ih =>
    rw [List.map_cons, List.sum_cons, List.find?_cons]
    by_cases h : x.ss.any (hit name) = true
    · have : 0 < x.ss.countP (hit name) := List.countP_pos_iff.2 (by simpa using h)
      simp only [h]; simp; omega
    · have h' : x.ss.any (hit name) = false := by simpa using h
      have : x.ss.countP (hit name) = 0 := by
        rw [List.countP_eq_zero]; intro a ha hh
        rw [List.any_eq_false] at h'; exact h' a ha hh
      simp only [h', this, Nat.zero_add]; exact ih
theorem tot_le {name : ByteArray} {xs : List SiteV} (h : ∀ x ∈ xs, x.ss.length ≤ 1048577) : tot name xs ≤ xs.length * 1048577 := by
  unfold tot
  induction xs with
  | nil => simp
  | cons x xs ih =>
    have h1 := h x (by simp)
    have h2 := ih (fun y hy => h y (by simp [hy]))
    have h3 : x.ss.countP (hit name) ≤ x.ss.length := List.countP_le_length
    simp only [List.map_cons, List.sum_cons, List.length_cons]
    omega
theorem siteOf_mem {xs : List SiteV} {name : ByteArray} {x : SiteV} (h : siteOf xs name = some x) : ∃ (i : Nat) (hi : i < xs.length), x = xs[i] ∧ x.ss.any (hit name) = true := by
  unfold siteOf at h
  obtain ⟨h1, i, hi, e, -⟩ := List.find?_eq_some_iff_getElem.1 h
  exact ⟨i, hi, e.symm, h1⟩
theorem siteOf_clean {xs : List SiteV} {name : ByteArray} (h : ∀ x ∈ xs, x.ss.any (hit name) = false) : siteOf xs name = none :=
  siteOf_none fun _ hi => h _ (List.getElem_mem hi)

/-- A site whose slice has been exchanged: what the inner loop leaves. -/
theorem site_end' {wr wj : World} {W G n j : Nat} {cs : Array Value} {ss : List Srv} {nm rg : ByteArray} (hW : W = wr.heap.size) (hG : G = W + 1) (h : InnerRel (wr.alloc (.cells cs 35)) wj G n j ss) (hn : j ≤ 1048577) (v : Value) :
    Below wr.heap.size wr (wj.setCell ⟨W, 2, none⟩ v) ∧ SiteOk (wj.setCell ⟨W, 2, none⟩ v) ⟨nm, rg, some ⟨G, 0, none⟩, n, ss⟩ := by
  subst hW; subst hG
  have hB : Below wr.heap.size wr wj := ((Below.refl _ _).alloc (Nat.le_refl _) _).trans (h.below.mono (by omega))
  refine ⟨hB.setCell (Nat.le_refl _) _, ?_, ?_, fun e => by cases e⟩
  · have ho := h.own
    rw [← h.len] at ho
    have ho' := owns_block (w' := wj.setCell ⟨wr.heap.size, 2, none⟩ v) ho (heap_setCell_other _ _ _ _ (by simp))
    exact srvRow_of_owns ho'
  · show ss.length ≤ _; rw [h.len]; exact hn

theorem BuildRel.row {w w1 : World} {n1 : Nat} {xs : List SiteV} (h : BuildRel w w1 n1 n1 xs) : SiteRow w1 (some ⟨w.heap.size, 0, none⟩) xs := by
  have ho := h.own
  have hl := h.len
  subst hl
  exact siteRow_of_owns ho (fun x hx => (h.ok x hx).1)

theorem index_k (x : SiteV) (name : ByteArray) (w : World) (hx : SiteOk w x) (k : Nat) (e : idx x.ss name = k) :
    Calls Tryf.prog 14 #[x.val, .string name] w fun e w' => e = .returned (.int .i64 k) ∧ Below w.heap.size w w' := by
  have := index_any x name w hx
  rw [e] at this; exact this
theorem cells8_below {w w' : World} {a1 a2 a3 a4 a5 a6 a7 a8 : Addr} {v1 v2 v3 v4 v5 v6 v7 v8 : Value}
    (h : w.cell? a1 = some v1 ∧ w.cell? a2 = some v2 ∧ w.cell? a3 = some v3 ∧ w.cell? a4 = some v4 ∧ w.cell? a5 = some v5 ∧ w.cell? a6 = some v6 ∧ w.cell? a7 = some v7 ∧ w.cell? a8 = some v8) (hb : Below w.heap.size w w') :
    w'.cell? a1 = some v1 ∧ w'.cell? a2 = some v2 ∧ w'.cell? a3 = some v3 ∧ w'.cell? a4 = some v4 ∧ w'.cell? a5 = some v5 ∧ w'.cell? a6 = some v6 ∧ w'.cell? a7 = some v7 ∧ w'.cell? a8 = some v8 :=
  ⟨cell_later hb h.1, cell_later hb h.2.1, cell_later hb h.2.2.1, cell_later hb h.2.2.2.1, cell_later hb h.2.2.2.2.1, cell_later hb h.2.2.2.2.2.1, cell_later hb h.2.2.2.2.2.2.1, cell_later hb h.2.2.2.2.2.2.2⟩
/-- SiteOf, the slice's length written otherwise. -/
theorem siteOf_at (F : Interp) (L : Nat) (dir : ByteArray) (ao : Option Addr) (n cap : Nat) (xs : List SiteV) (name : ByteArray) (w : World) (hF : F.answers w.tape) (hl : xs.length = n) (hlen : n ≤ 1048577)
    (hd : w.cell? ⟨L, 0, none⟩ = some (.string dir)) (hs : w.cell? ⟨L, 1, none⟩ = some (.slice ao n cap)) (hx : SiteRow w ao xs) :
    Calls Tryf.prog 8 #[.pointer (some ⟨L, 0, none⟩), .string name] w fun e w' => SiteAns xs name e ∧ Below w.heap.size w w' := by
  subst hl; exact siteOf_any F L dir ao cap xs name w hF hlen hd hs hx

set_option maxRecDepth 100000 in
set_option maxHeartbeats 4000000 in
theorem refuses_walk (F : Interp) (dir name : ByteArray) (a1 a2 a3 a4 : Option Addr) (n1 n2 n3 n4 c1 c2 c3 c4 : Nat) (w : World) (hF : F.answers w.tape) (hd : dir.size ≤ maxLen) (hn : name.size ≤ maxLen) (h : Came w maxLen a1 a2 a3 a4 n1 n2 n3 n4) :
    Calls Tryf.prog 4 #[.string dir, .slice a1 n1 c1, .slice a2 n2 c2, .slice a3 n3 c3, .slice a4 n4 c4, .string name] w fun e w' => e = .returned (.bool true) ∧ Below w.heap.size w w' := by
  have HF := hid hF
  have HC := hid h
  have HD := hid hd
  have HNm := hid hn
  clear hF h hd hn
  obtain ⟨i35, hi35, hz0, hz1, hz2⟩ := info_parts Tryf.info35
  obtain ⟨i32, hi32, hy0, hy1, hy2⟩ := info_parts Tryf.info32
  have H35 := hid hi35
  have H32 := hid hi32
  have Z0 := hid hz0
  have Z1 := hid hz1
  have Z2 := hid hz2
  have Y0 := hid hy0
  have Y1 := hid hy1
  have Y2 := hid hy2
  clear hi35 hi32 hz0 hz1 hz2 hy0 hy1 hy2
  go_enter Tryf.func4, Tryf.ntmps4
  go_wp2_with fail
  refine (zz12 dir name a1 a2 a3 a4 n1 n2 n3 n4 c1 c2 c3 c4 w HD.out HNm.out HC.out).mono ?_
  rintro e w' ⟨v, rfl, rfl, hC⟩
  cases v
  · clear hC
    go_wp2
    go_ret
    exact ⟨rfl, Below.refl _ _⟩
  have HC2 := hid (hC rfl)
  clear hC
  go_wp2_with fail
  refine (layoutBytes_any dir name a1 a2 a3 a4 n1 n2 n3 n4 c1 c2 c3 c4 w HD.out HNm.out HC.out).mono ?_
  rintro e w' ⟨r0, rfl, rfl⟩
  by_cases hr0 : 1048576 < r0
  · go_wp2
    go_ret
    exact ⟨rfl, Below.refl _ _⟩
  go_wp2_with fail
  refine (build_any a1 a2 a3 a4 n1 n2 n3 n4 c1 c2 c3 c4 w HC2.out).mono ?_
  rintro e w1 ⟨xs, rfl, hB⟩
  have HX := hid hB.row
  have hn1 := HC2.out.l1
  have hlen := hB.len
  have HL := hid hlen
  have HW1 := hid hB.below
  have hS : w.heap.size < w1.heap.size := owns_lt hB.own
  clear hB hlen HC2 HC
  go_wp2_with (at_make; refine wpList_make_own _ rfl _ _ 26 rfl w1.heap.size 35 i35 _ 4 Tryf.underlying26 H35.out Z0.out Z1.out _ _ _ n1 rfl rfl rfl (by rw [Z2.out]; omega) (by unfold maxLen; omega) (Nat.le_refl _) ?_; intro w2 hown2 hgrow2)
  have HI0 : Hid (BuildRel w1 w2 n1 0 []) := ⟨rfl, hown2, by simp, (Below.refl _ _).grown hgrow2 (Nat.le_refl _) (fun _ h => by cases h)⟩
  clear hown2 hgrow2
  go_loopw [14, 15, 16] (fun vr v15 vi wr => ∃ (k r : Nat) (ys : List SiteV), k ≤ n1 ∧ vr = .int .i64 r ∧ v15 = .slice (some ⟨w1.heap.size, 0, none⟩) k n1 ∧ vi = .int .i64 k ∧ Hid (r = tot name (xs.take k)) ∧ Hid (BuildRel w1 wr n1 k ys) ∧ Hid (∀ y ∈ ys, y.ss.any (hit name) = false)) (fun _ _ vi _ => n1 - (intOf vi).toNat)
  case atStart => exact ⟨0, 0, [], by omega, rfl, rfl, rfl, hid (by simp [tot]), HI0.out, hid (by simp)⟩
  case round =>
    rename World => wo
    obtain ⟨k, r, ys, hk, rfl, rfl, rfl, HR, HB, HCl⟩ := hrel
    have hsz : w1.heap.size < wo.heap.size := owns_lt HB.out.own
    have hrb : r ≤ k * 1048577 := by
      rw [HR.out]
      have := tot_le (name := name) (xs := xs.take k) (fun x hx => (HX.out.ok x (List.mem_of_mem_take hx)).len)
      rw [List.length_take, HL.out, Nat.min_eq_left hk] at this
      exact this
    by_cases h : k < n1
    · have hkx : k < xs.length := by rw [HL.out]; exact h
      obtain ⟨b, o, he, h4⟩ := HX.out.cells k hkx
      simp only [Option.some.injEq, Addr.mk.injEq, and_true] at he
      obtain ⟨rfl, rfl⟩ := he
      obtain ⟨d0, d1, d2, d3⟩ := h4.below HB.out.below
      have hok := (HX.out.ok _ (List.getElem_mem hkx)).below HB.out.below
      obtain ⟨x, hxe⟩ : ∃ x, x = xs[k] := ⟨_, rfl⟩
      rw [← hxe] at d0 d1 d2 hok
      have HXE := hid hxe
      have HOK := hid hok
      simp only [Nat.zero_add] at d0 d1 d2 d3
      have hxl := hok.len
      have hS' : w.heap.size < wo.heap.size := by omega
      clear h4 hxe hok
      obtain ⟨xn, xr, xa, xc, ss⟩ := x
      simp only at d0 d1 d2 hxl
      go_wp2_with (at_make; refine wpList_make_own _ rfl _ _ 28 rfl (wo.heap.size + 1) 32 i32 _ 4 Tryf.underlying28 H32.out Y0.out Y1.out _ _ _ ss.length rfl rfl rfl (by rw [Y2.out]; omega) (by unfold maxLen; omega) (by simp) ?_; intro w3 hown3 hgrow3)
      have HI1 : Hid (InnerRel (wo.alloc (.cells #[.string xn, .string xr, .slice xa ss.length xc, .pointer none] 35)) w3 (wo.heap.size + 1) ss.length 0 []) := ⟨rfl, by simpa using hown3, (Below.refl _ _).grown hgrow3 (by simp) (fun _ h => by cases h)⟩
      clear hown3 hgrow3
      have f2 := HI1.out
      clear f2
      have g2 := inner_site (i := 2) HI1.out
      simp at g2
      go_wp2
      go_loopw [14, 18, 19] (fun v14 v18 v19 wj => ∃ (t r' : Nat) (zs : List Srv), t ≤ ss.length ∧ zs.length ≤ t ∧ r' ≤ r + t ∧ v14 = .int .i64 r' ∧ v18 = .slice (some ⟨wo.heap.size + 1, 0, none⟩) zs.length ss.length ∧ v19 = .int .i64 t ∧ Hid (r' = r + (ss.take t).countP (hit name)) ∧ Hid (InnerRel (wo.alloc (.cells #[.string xn, .string xr, .slice xa ss.length xc, .pointer none] 35)) wj (wo.heap.size + 1) ss.length zs.length zs) ∧ Hid (zs.any (hit name) = false)) (fun _ _ v19 _ => ss.length - (intOf v19).toNat)
      case atStart => exact ⟨0, r, [], by omega, by simp, by omega, rfl, by simp, rfl, hid (by simp), HI1.out, hid (by simp)⟩
      case round =>
        obtain ⟨t, r', zs, ht, hzt, hr', rfl, rfl, rfl, HR', HI, HZ⟩ := hrel
        have hzj : wo.heap.size + 1 < wr.heap.size := owns_lt HI.out.own
        have e2 := inner_site (i := 2) HI.out
        simp at e2
        by_cases htl : t < ss.length
        · obtain ⟨b, o, he, q⟩ := HOK.out.row t htl
          simp only at he
          subst he
          obtain ⟨s0, s1, s2, s3⟩ := q
          have s0' := inner_cell HI.out s0
          have s1' := inner_cell HI.out s1
          have s2' := inner_cell HI.out s2
          have s3' := inner_cell HI.out s3
          obtain ⟨sv, hsv⟩ : ∃ sv, sv = ss[t] := ⟨_, rfl⟩
          simp only [← hsv] at s0' s1'
          have HSV := hid hsv
          clear s0 s1 s2 s3 hsv
          by_cases hh : (sv.1.toList == name.toList) = true
          · have HN : Hid (r' + 1 = r + (ss.take (t + 1)).countP (hit name)) := by
              show _ = _
              rw [cnt_step htl, HR'.out, ← HSV.out, show hit name sv = true from hh]; simp; omega
            go_wp2
            go_roundw
            case rel => exact ⟨t + 1, r' + 1, zs, by omega, by omega, by omega, by go_num, rfl, by go_num, HN.out, HI.out, HZ.out⟩
            case measure => simp [intOf]; omega
          · have hh' : (sv.1.toList == name.toList) = false := by simpa using hh
            clear hh
            have HN : Hid (r' = r + (ss.take (t + 1)).countP (hit name)) := by
              show _ = _
              rw [cnt_step htl, HR'.out, ← HSV.out, show hit name sv = false from hh']; simp
            go_wp2_with (at_builtin; refine wpList_append_fits _ rfl (.tmp 84) (.tmp 90) 28 rfl (wo.heap.size + 1) 32 i32 4 Tryf.underlying28 H32.out Y1.out (wo.heap.size + 1) zs.length ss.length _ rfl (HI.out.own.alloc _) ⟨wr.heap.size, 0, none⟩ 1 1 (srvC sv) rfl rfl (cells_new _ _ _ _ (by simp)) (one_srvC _) (by omega) ?_; intro w4 hown4 hgrow4)
            have HI2 := hid (inner_step (x := sv) HI.out (by omega) ((Below.refl _ _).alloc (Nat.le_refl _) _) hown4 hgrow4)
            have HZ2 : Hid ((zs ++ [sv]).any (hit name) = false) := by
              show _ = _
              rw [List.any_append, HZ.out]; simp [show hit name sv = false from hh']
            clear hown4 hgrow4
            go_wp2
            go_roundw
            case rel => exact ⟨t + 1, r', zs ++ [sv], by omega, by simp; omega, by omega, rfl, by simp, by go_num, HN.out, hid (by simpa using HI2.out), HZ2.out⟩
            case measure => simp [intOf]; omega
        · obtain rfl : t = ss.length := by omega
          have e0 := inner_site (i := 0) HI.out
          have e1 := inner_site (i := 1) HI.out
          have e3 := inner_site (i := 3) HI.out
          have f2 := inner_free (i := 2) HI.out
          simp at e0 e1 e3
          have HE := hid (site_end' (nm := xn) (rg := xr) rfl rfl HI.out (by omega) (.slice (some ⟨wo.heap.size + 1, 0, none⟩) zs.length ss.length))
          have HOS := hid (inner_own HB.out hsz HI.out (.slice (some ⟨wo.heap.size + 1, 0, none⟩) zs.length ss.length))
          go_wp2_with (at_builtin; refine wpList_append_fits _ rfl (.tmp 94) (.tmp 96) 26 rfl w1.heap.size 35 i35 4 Tryf.underlying26 H35.out Z1.out w1.heap.size k n1 _ rfl (HOS.out.alloc _) ⟨wr.heap.size, 0, none⟩ 1 1 (siteC ⟨xn, xr, some ⟨wo.heap.size + 1, 0, none⟩, ss.length, zs⟩) rfl rfl (cells_new _ _ _ _ (by simp [World.setCell])) (one_siteC _) (by omega) ?_; intro w5 hown5 hgrow5)
          have hbb : Below wo.heap.size wo ((wr.setCell ⟨wo.heap.size, 2, none⟩ (.slice (some ⟨wo.heap.size + 1, 0, none⟩) zs.length ss.length)).alloc (.cells (siteC ⟨xn, xr, some ⟨wo.heap.size + 1, 0, none⟩, ss.length, zs⟩).toArray 35)) := HE.out.1.alloc (by simp [World.setCell]; omega) _
          have HN := hid (build_step (x := ⟨xn, xr, some ⟨wo.heap.size + 1, 0, none⟩, ss.length, zs⟩) HB.out hsz hbb (HE.out.2.below ((Below.refl _ _).alloc (Nat.le_refl _) _)) (fun _ e => by cases e; simp; omega) hown5 hgrow5)
          have HC3 : Hid (∀ y ∈ ys ++ [(⟨xn, xr, some ⟨wo.heap.size + 1, 0, none⟩, ss.length, zs⟩ : SiteV)], y.ss.any (hit name) = false) := by
            intro y hy
            rcases List.mem_append.1 hy with hy | hy
            · exact HCl.out y hy
            · simp only [List.mem_singleton] at hy; subst hy; exact HZ.out
          have HT : Hid (r' = tot name (xs.take (k + 1))) := by
            show _ = _
            rw [tot_step hkx, HR'.out, HR.out, ← HXE.out, List.take_length]
          clear hown5 hgrow5 hbb
          go_wp2
          go_roundw
          case rel => exact ⟨k + 1, r', _, by omega, rfl, rfl, by go_num, HT.out, HN.out, HC3.out⟩
          case measure => simp [intOf]; omega
    · have ek : k = n1 := by omega
      subst ek
      have HT : Hid (r = tot name xs) := by
        show _ = _
        rw [HR.out, ← HL.out, List.take_length]
      have hb2 : ∀ A B : Obj, Below wo.heap.size wo ((wo.alloc A).alloc B) := fun _ _ => ((Below.refl _ _).alloc (Nat.le_refl _) _).alloc (by simp) _
      have HB2 := hid hb2
      have HXo := hid (HX.out.below HB.out.below)
      have HYo := hid HB.out.row
      have HYL := hid HB.out.len
      have HFo : Hid (F.answers wo.tape) := by
        show F.answers _
        rw [HB.out.below.tape, HW1.out.tape]; exact HF.out
      have HWo : Hid (Below w.heap.size w wo) := Below.from HW1.out HB.out.below (by omega)
      have HYN := hid (siteOf_clean HCl.out)
      clear hb2 HR hrb HB HCl HX h
      go_wp2_with fail
      refine (siteOf_at F wo.heap.size dir (some ⟨w.heap.size, 0, none⟩) k k xs name _ (by exact HFo.out) HL.out (by omega) (by simp [World.cell?_alloc_past]) (by simp [World.cell?_alloc_past]) (HXo.out.below (HB2.out _ _))).mono ?_
      rintro e w6 ⟨hans, hb6⟩
      have hz6 : wo.heap.size + 2 ≤ w6.heap.size := by have := hb6.size; simp at this; omega
      have hbo6 : Below wo.heap.size wo w6 := Below.from (HB2.out _ _) hb6 (by simp; omega)
      have q0 : w6.cell? ⟨wo.heap.size + 1, 0, none⟩ = some (.string dir) := (hb6.cell (by simp)).trans (by simp)
      have q1 : w6.cell? ⟨wo.heap.size + 1, 1, none⟩ = some (.slice (some ⟨w1.heap.size, 0, none⟩) k k) := (hb6.cell (by simp)).trans (by simp)
      have HBo6 := hid hbo6
      have Q0 := hid q0
      have Q1 := hid q1
      clear hb6 hbo6 q0 q1
      rcases hans with ⟨x, hx, rfl⟩ | ⟨hx, tt, vv, rfl⟩
      · obtain ⟨i0, hi0, hxe, hany⟩ := siteOf_mem hx
        have hpos : (0 : Int) < (r : Int) := by
          have : 0 < tot name xs := tot_pos.2 (by rw [hx]; simp)
          rw [← HT.out] at this; omega
        have hpos2 : (!decide (0 < r)) = false := by simp; omega
        clear hpos
        have HOK := hid (HXo.out.ok _ (List.getElem_mem hi0))
        rw [← hxe] at HOK
        have HXE := hid hxe
        have HI0 := hid hi0
        obtain ⟨xn, xr, xa, xc, ss⟩ := x
        simp only at hany
        rcases idx_cases ss name with ⟨hno, -⟩ | ⟨-, k0, hk0, hk0e, hhit, hbef⟩
        · rw [hany] at hno; cases hno
        obtain ⟨b, o, he, q⟩ := HOK.out.row k0 hk0
        simp only at he
        subst he
        have HK0E := hid hk0e
        have HBEF := hid hbef
        have hhit' : (ss[k0].1.toList == name.toList) = true := hhit
        obtain ⟨sk, hsk⟩ : ∃ sk, sk = ss[k0].1 := ⟨_, rfl⟩
        rw [← hsk] at hhit'
        have hsc := hid (show wo.cell? ⟨b, o + k0 * 4, none⟩ = some (.string sk) by rw [hsk]; exact q.c0)
        have hk1 : ¬ ss.length ≤ k0 := by omega
        have hk2 : ¬ (k0 : Int) < 0 := by omega
        have hlo : ss.length ≤ 1048577 := HOK.out.len
        clear q hhit hany hxe hx hk0e hbef hsk
        have hbz : Below w6.heap.size w6 (w6.alloc (.cells #[.string xn, .string xr, .slice (some ⟨b, o, none⟩) ss.length xc, .pointer none] 35)) := (Below.refl _ _).alloc (Nat.le_refl _) _
        have HBZ := hid hbz
        have HB7 : Hid (Below wo.heap.size wo (w6.alloc (.cells #[.string xn, .string xr, .slice (some ⟨b, o, none⟩) ss.length xc, .pointer none] 35))) := HBo6.out.trans (hbz.mono (by omega))
        have HF7 : Hid (F.answers (w6.alloc (.cells #[.string xn, .string xr, .slice (some ⟨b, o, none⟩) ss.length xc, .pointer none] 35)).tape) := by
          show F.answers _
          rw [HB7.out.tape]; exact HFo.out
        clear hbz
        go_wp2_with fail
        refine (siteOf_at F (wo.heap.size + 1) dir (some ⟨w1.heap.size, 0, none⟩) k k ys name _ (by exact HF7.out) HYL.out (by omega) (cell_later HBZ.out Q0.out) (cell_later HBZ.out Q1.out) (HYo.out.below HB7.out)).mono ?_
        rintro e w8 ⟨hans2, hb8⟩
        rcases hans2 with ⟨y, hy, rfl⟩ | ⟨-, t2, v2, rfl⟩
        · rw [HYN.out] at hy; cases hy
        have z0 : w8.cell? ⟨w6.heap.size, 0, none⟩ = some (.string xn) := (hb8.cell (by simp)).trans (by simp)
        have z1 : w8.cell? ⟨w6.heap.size, 1, none⟩ = some (.string xr) := (hb8.cell (by simp)).trans (by simp)
        have z2 : w8.cell? ⟨w6.heap.size, 2, none⟩ = some (.slice (some ⟨b, o, none⟩) ss.length xc) := (hb8.cell (by simp)).trans (by simp)
        have z3 : w8.cell? ⟨w6.heap.size, 3, none⟩ = some (.pointer none) := (hb8.cell (by simp)).trans (by simp)
        have hz8 : w6.heap.size < w8.heap.size := by have := hb8.size; simp at this; omega
        have HB8 : Hid (Below wo.heap.size wo w8) := Below.from HB7.out hb8 (by simp; omega)
        clear hb8
        have HB8' : Hid (Below wo.heap.size wo (w8.alloc (.cells #[.string ⟨#[]⟩, .string ⟨#[]⟩, .slice none 0 0, .pointer none] 35))) := HB8.out.alloc (by omega) _
        go_wp2_with fail
        refine (index_k ⟨xn, xr, some ⟨b, o, none⟩, xc, ss⟩ name _ (HOK.out.below HB8'.out) k0 HK0E.out).mono ?_
        rintro e w9 ⟨rfl, hb9⟩
        have y0 : w9.cell? ⟨w6.heap.size, 0, none⟩ = some (.string xn) := (hb9.cell (by simp; omega)).trans (by simp [World.cell?_alloc_past, hz8, z0])
        have y1 : w9.cell? ⟨w6.heap.size, 1, none⟩ = some (.string xr) := (hb9.cell (by simp; omega)).trans (by simp [World.cell?_alloc_past, hz8, z1])
        have y2 : w9.cell? ⟨w6.heap.size, 2, none⟩ = some (.slice (some ⟨b, o, none⟩) ss.length xc) := (hb9.cell (by simp; omega)).trans (by simp [World.cell?_alloc_past, hz8, z2])
        have y3 : w9.cell? ⟨w6.heap.size, 3, none⟩ = some (.pointer none) := (hb9.cell (by simp; omega)).trans (by simp [World.cell?_alloc_past, hz8, z3])
        have hz9 : w8.heap.size < w9.heap.size := by have := hb9.size; simp at this; omega
        have HB9 : Hid (Below wo.heap.size wo w9) := Below.from HB8'.out hb9 (by simp; omega)
        have hsc' := cell_later HB9.out hsc.out
        clear hb9 z0 z1 z2 z3
        go_wp2
        go_loop [27] (fun vt => ∃ t : Nat, t ≤ k0 ∧ vt = .int .i64 t) (fun vt => k0 - (intOf vt).toNat)
        case atStart => exact ⟨0, by omega, rfl⟩
        case round =>
          obtain ⟨t, ht, rfl⟩ := hrel
          by_cases htk : t < k0
          · obtain ⟨b', o', he, q⟩ := HOK.out.row t (by show t < ss.length; omega)
            simp only [Option.some.injEq, Addr.mk.injEq, and_true] at he
            obtain ⟨rfl, rfl⟩ := he
            have c0 := cell_later HB9.out q.c0
            have hmiss := HBEF.out t (by omega) htk
            obtain ⟨st, hst⟩ : ∃ st, st = ss[t].1 := ⟨_, rfl⟩
            have hm : (st.toList == name.toList) = false := by rw [hst]; exact hmiss
            simp only [← hst] at c0
            clear q hmiss hst
            go_wp2
            go_round
            case rel => exact ⟨t + 1, by omega, by go_num⟩
            case measure => simp [intOf]; omega
          · go_wp2
            go_loopw [28] (fun vi wz => ∃ i : Nat, i ≤ i0 ∧ vi = .int .i64 i ∧ Hid (Below w9.heap.size w9 wz)) (fun vi _ => k - (intOf vi).toNat)
            case atStart => exact ⟨0, by omega, rfl, Below.refl _ _⟩
            case round =>
              obtain ⟨i, hi, rfl, HBz⟩ := hrel
              have hix : i < xs.length := by omega
              have hik : i < k := by have := HL.out; omega
              obtain ⟨b', o', he, q⟩ := HXo.out.cells i hix
              simp only [Option.some.injEq, Addr.mk.injEq, and_true] at he
              obtain ⟨rfl, rfl⟩ := he
              have hbz : Below wo.heap.size wo wr := Below.from HB9.out HBz.out (by omega)
              have HBzo := hid hbz
              obtain ⟨u0, u1, u2, u3⟩ := q.below hbz
              obtain ⟨yi, hyi⟩ : ∃ yi, yi = xs[i] := ⟨_, rfl⟩
              rw [← hyi] at u0 u1 u2
              simp only [Nat.zero_add] at u0 u1 u2 u3
              have HYI := hid hyi
              have HOKi := hid (HXo.out.ok _ (List.getElem_mem hix))
              rw [← hyi] at HOKi
              have x0 := cell_later HBz.out y0
              have x1 := cell_later HBz.out y1
              have x2 := cell_later HBz.out y2
              have x3 := cell_later HBz.out y3
              clear hyi q hbz
              go_wp2
              go_region_held3 (fun w' => w'.cell? ⟨w6.heap.size, 0, none⟩ = some (.string xn) ∧ w'.cell? ⟨w6.heap.size, 1, none⟩ = some (.string xr) ∧ w'.cell? ⟨w6.heap.size, 2, none⟩ = some (.slice (some ⟨b, o, none⟩) ss.length xc) ∧ w'.cell? ⟨w6.heap.size, 3, none⟩ = some (.pointer none) ∧
                  w'.cell? ⟨w.heap.size, i * 4, none⟩ = some (.string yi.name) ∧ w'.cell? ⟨w.heap.size, i * 4 + 1, none⟩ = some (.string yi.region) ∧ w'.cell? ⟨w.heap.size, i * 4 + 2, none⟩ = some (.slice yi.ao yi.ss.length yi.cap) ∧ w'.cell? ⟨w.heap.size, i * 4 + 3, none⟩ = some (.pointer none))
                (first | (simp [*]; done) | exact cells8_below (by assumption) (by assumption))
                (first
                  | (go_at_call 10; refine (same_any ⟨xn, xr, some ⟨b, o, none⟩, xc, ss⟩ yi _ (HOK.out.below (HBzo.out.drew)) (HOKi.out.below (HBzo.out.drew))).mono ?_; rintro e w11 ⟨vb, rfl, hvb, hb11⟩))
              have hb11' : Below wr.heap.size wr w11 := (Below.refl wr.heap.size wr).drew.trans hb11
              have HB11 := hid hb11'
              have HVB := hid hvb
              clear hb11 hb11' hvb
              have HBw : Hid (Below w.heap.size w w11) := Below.from (Below.from HWo.out HBzo.out (by omega)) HB11.out (by have := HBzo.out.size; omega)
              cases vb
              · have hne : i ≠ i0 := by
                  intro e
                  have h1 := HVB.out (by rw [HXE.out, HYI.out]; subst e; rfl)
                  cases h1
                have HNe := hid hne
                clear hne
                go_wp2
                go_roundw
                case rel => exact ⟨i + 1, by have := HNe.out; omega, by go_num, Below.from HBz.out HB11.out HBz.out.size⟩
                case measure => simp [intOf]; omega
              · go_wp2
                go_ret
                exact ⟨rfl, HBw.out⟩
      · have hr0' : ¬ (0 : Int) < (r : Int) := by
          have : ¬ 0 < tot name xs := fun hp => tot_pos.1 hp hx
          rw [← HT.out] at this; omega
        have hbz : Below w6.heap.size w6 (w6.alloc (.cells #[.string ⟨#[]⟩, .string ⟨#[]⟩, .slice none 0 0, .pointer none] 35)) := (Below.refl _ _).alloc (Nat.le_refl _) _
        have HBZ := hid hbz
        have HB7 : Hid (Below wo.heap.size wo (w6.alloc (.cells #[.string ⟨#[]⟩, .string ⟨#[]⟩, .slice none 0 0, .pointer none] 35))) := HBo6.out.trans (hbz.mono (by omega))
        have HF7 : Hid (F.answers (w6.alloc (.cells #[.string ⟨#[]⟩, .string ⟨#[]⟩, .slice none 0 0, .pointer none] 35)).tape) := by
          show F.answers _
          rw [HB7.out.tape]; exact HFo.out
        clear hbz hx
        go_wp2_with fail
        refine (siteOf_at F (wo.heap.size + 1) dir (some ⟨w1.heap.size, 0, none⟩) k k ys name _ (by exact HF7.out) HYL.out (by omega) (cell_later HBZ.out Q0.out) (cell_later HBZ.out Q1.out) (HYo.out.below HB7.out)).mono ?_
        rintro e w8 ⟨hans2, hb8⟩
        rcases hans2 with ⟨y, hy, rfl⟩ | ⟨-, t2, v2, rfl⟩
        · rw [HYN.out] at hy; cases hy
        have z0 : w8.cell? ⟨w6.heap.size, 0, none⟩ = some (.string ⟨#[]⟩) := (hb8.cell (by simp)).trans (by simp)
        have z1 : w8.cell? ⟨w6.heap.size, 1, none⟩ = some (.string ⟨#[]⟩) := (hb8.cell (by simp)).trans (by simp)
        have z2 : w8.cell? ⟨w6.heap.size, 2, none⟩ = some (.slice none 0 0) := (hb8.cell (by simp)).trans (by simp)
        have z3 : w8.cell? ⟨w6.heap.size, 3, none⟩ = some (.pointer none) := (hb8.cell (by simp)).trans (by simp)
        have hz8 : w6.heap.size < w8.heap.size := by have := hb8.size; simp at this; omega
        have HB8 : Hid (Below w.heap.size w w8) := Below.from (HWo.out.trans (HB7.out.mono (by omega))) hb8 (by simp; omega)
        clear hb8
        go_wp2_with (go_at_call 11; refine (zero_any _).mono ?_; rintro e w9 ⟨rfl, hb9⟩)
        go_ret
        refine ⟨rfl, Below.from (HB8.out.alloc (by omega) _) hb9 (by simp; omega)⟩
end Go.Proofs.Qxb6630006aFmt
