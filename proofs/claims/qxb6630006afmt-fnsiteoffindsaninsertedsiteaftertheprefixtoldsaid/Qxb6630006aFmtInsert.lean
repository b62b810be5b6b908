import Derived.Test.Qxb6630006aFmtSiteOf
import Derived.Test.Qxb6630006aFmtZz5
import Derived.Test.Qxb6630006aFmtBuild
namespace Go.Proofs.Qxb6630006aFmt
open Go.RowKit Go.Extern.Stop Go.Stop Go.Extern

/-! ### THE LAW 'FINDS AN INSERTED SITE' -/
/-- What the loops that make 'whole' hold. -/
structure WholeRel (w wr : World) (T n k : Nat) (ys : List SiteV) : Prop where
  len : ys.length = k
  own : wr.ownsRow T 35 4 (.slice (some ⟨T, 0, none⟩) k n) k (ys.flatMap siteC)
  below : Below T w wr
theorem whole_step {w wr wb w1 : World} {T n k : Nat} {ys : List SiteV} {x : SiteV} (h : WholeRel w wr T n k ys) (hb : Below wr.heap.size wr wb)
    (hown : w1.ownsRow T 35 4 (.slice (some ⟨T, 0, none⟩) (k + 1) n) (k + 1) (ys.flatMap siteC ++ siteC x)) (hgrow : wb.grownBy w1 (some T)) : WholeRel w w1 T n (k + 1) (ys ++ [x]) := by
  have hz := hb.size
  have hT := owns_lt h.own
  exact ⟨by simp [h.len], by simpa using hown, (h.below.trans (hb.mono (by omega))).grown hgrow (by omega) (fun _ e => by cases e; exact Nat.le_refl _)⟩
theorem WholeRel.row {w wr : World} {T n k : Nat} {ys : List SiteV} (h : WholeRel w wr T n k ys) (hT : w.heap.size = T) (hok : ∀ y ∈ ys, SiteOk w y) : SiteRow wr (some ⟨T, 0, none⟩) ys := by
  subst hT
  have ho := h.own
  have hl := h.len
  subst hl
  exact siteRow_of_owns ho (fun x hx => (hok x hx).below h.below)
theorem whole_star {ws wr : World} {n k i t : Nat} {ys : List SiteV} {cs : Array Value} (h : WholeRel (ws.alloc (.cells cs t)) wr (ws.heap.size + 1) n k ys) : wr.cell? ⟨ws.heap.size, i, none⟩ = cs[i]? :=
  (h.below.cell (by simp)).trans (by simp)
theorem BuildRel.row' {w w1 : World} {n1 : Nat} {xs : List SiteV} (h : BuildRel w w1 n1 n1 xs) : SiteRow w1 (some ⟨w.heap.size, 0, none⟩) xs := by
  have ho := h.own
  have hl := h.len
  subst hl
  exact siteRow_of_owns ho (fun x hx => (h.ok x hx).1)
theorem SiteRow.front {w : World} {ao : Option Addr} {xs : List SiteV} (h : SiteRow w ao xs) (k : Nat) : SiteRow w ao (xs.take k) :=
  ⟨fun i hi => by
    have hi' : i < xs.length := by rw [List.length_take] at hi; omega
    obtain ⟨b, o, e, q⟩ := h.cells i hi'
    exact ⟨b, o, e, by rw [List.getElem_take]; exact q⟩, fun x hx => h.ok x (List.mem_of_mem_take hx)⟩
theorem whole_some {P zs : List SiteV} {star x : SiteV} {name : ByteArray} (h : siteOf P name = some x) : siteOf (P ++ star :: zs) name = some x := by
  unfold siteOf at *; rw [List.find?_append, h]; rfl
theorem whole_none {P zs : List SiteV} {star : SiteV} {name : ByteArray} (h : siteOf P name = none) (hs : star.ss.any (hit name) = true) : siteOf (P ++ star :: zs) name = some star := by
  unfold siteOf at *; rw [List.find?_append, h, List.find?_cons]; simp [hs]
theorem siteOf_any_iff {P : List SiteV} {name : ByteArray} : (P.any fun x => x.ss.any (hit name)) = (siteOf P name).isSome := by
  unfold siteOf
  rw [Bool.eq_iff_iff, List.any_eq_true, List.find?_isSome]
theorem siteOf_hit' {P : List SiteV} {name : ByteArray} {x : SiteV} (h : siteOf P name = some x) : x.ss.any (hit name) = true := by
  unfold siteOf at h; exact List.find?_some (p := fun x : SiteV => x.ss.any (hit name)) h
theorem siteOf_in {P : List SiteV} {name : ByteArray} {x : SiteV} (h : siteOf P name = some x) : x ∈ P := List.mem_of_find?_eq_some h
theorem any_take {xs : List SiteV} {f : SiteV → Bool} {t : Nat} (h : t < xs.length) : (xs.take (t + 1)).any f = ((xs.take t).any f || f xs[t]) := by
  rw [List.take_succ_eq_append_getElem h, List.any_append]; simp
/-- The zero site. -/
abbrev zeroV : SiteV := ⟨⟨#[]⟩, ⟨#[]⟩, none, 0, []⟩
theorem zeroV_ok (w : World) : SiteOk w zeroV := nilSite_ok w _ _
theorem new_site4 (w : World) (x : SiteV) : Site4 (w.alloc (.cells #[.string x.name, .string x.region, .slice x.ao x.ss.length x.cap, .pointer none] 35)) w.heap.size 0 x := by
  constructor <;> simp
theorem holds_b (x : SiteV) (name : ByteArray) (w : World) (hx : SiteOk w x) (b : Bool) (h : x.ss.any (hit name) = b) :
    Calls Tryf.prog 9 #[x.val, .string name] w fun e w' => e = .returned (.bool b) ∧ Below w.heap.size w w' := by
  have := holds_any x name w hx
  rw [h] at this; exact this
theorem same_self (x : SiteV) (w : World) (hx : SiteOk w x) : Calls Tryf.prog 10 #[x.val, x.val] w fun e w' => e = .returned (.bool true) ∧ Below w.heap.size w w' := by
  refine (same_any x x w hx hx).mono ?_
  rintro e w' ⟨v, rfl, hv, hb⟩
  exact ⟨by rw [hv rfl], hb⟩
theorem siteOf_at (F : Interp) (L : Nat) (dir : ByteArray) (ao : Option Addr) (n cap : Nat) (xs : List SiteV) (name : ByteArray) (w : World) (hF : F.answers w.tape) (hl : xs.length = n) (hlen : n ≤ 1048577)
    (hd : w.cell? ⟨L, 0, none⟩ = some (.string dir)) (hs : w.cell? ⟨L, 1, none⟩ = some (.slice ao n cap)) (hx : SiteRow w ao xs) :
    Calls Tryf.prog 8 #[.pointer (some ⟨L, 0, none⟩), .string name] w fun e w' => SiteAns xs name e ∧ Below w.heap.size w w' := by
  subst hl; exact siteOf_any F L dir ao cap xs name w hF hlen hd hs hx

set_option maxRecDepth 100000 in
set_option maxHeartbeats 8000000 in
theorem insert_walk (F : Interp) (dir name ns nr : ByteArray) (a1 a2 a3 a4 a5 : Option Addr) (n1 n2 n3 n4 n5 c1 c2 c3 c4 c5 k j : Nat) (w : World) (hF : F.answers w.tape) (hd : dir.size ≤ maxLen) (hn : name.size ≤ maxLen) (hns : ns.size ≤ maxLen) (hnr : nr.size ≤ maxLen)
    (h : Came w maxLen a1 a2 a3 a4 n1 n2 n3 n4) (h5 : n5 ≤ maxLen) (r5 : StrRow w a5 n5) (hk : k ≤ n1) (hj : j ≤ n5) :
    Calls Tryf.prog 3 #[.string dir, .slice a1 n1 c1, .slice a2 n2 c2, .slice a3 n3 c3, .slice a4 n4 c4, .string name, .string ns, .string nr, .slice a5 n5 c5, .int .i64 k, .int .i64 j] w fun e w' => e = .returned (.bool true) ∧ Below w.heap.size w w' := by
  have HF := hid hF
  have HC := hid h
  have HD := hid hd
  have HNm := hid hn
  have HNs := hid hns
  have HNr := hid hnr
  have H5 := hid h5
  have R5 := hid r5
  clear hF h hd hn hns hnr h5 r5
  obtain ⟨i35, hi35, hz0, hz1, hz2⟩ := info_parts Tryf.info35
  obtain ⟨i32, hi32, hy0, hy1, hy2⟩ := info_parts Tryf.info32
  have H35 := hid hi35
  have H32 := hid hi32
  have Z0 := hid hz0
  have Z1 := hid hz1
  have Z2 := hid hz2
  have Y0 := hid hy0
  have Y1 := hid hy1
  have Y2 := hid hy2
  clear hi35 hi32 hz0 hz1 hz2 hy0 hy1 hy2
  have HKN := hid hk
  go_enter Tryf.func3, Tryf.ntmps3
  go_wp2_with fail
  refine (zz5 dir name ns nr a1 a2 a3 a4 a5 n1 n2 n3 n4 n5 c1 c2 c3 c4 c5 k j w HD.out HNm.out HNs.out HNr.out HC.out H5.out R5.out).mono ?_
  rintro e w' ⟨v, rfl, rfl, hC⟩
  cases v
  · clear hC
    go_wp2
    go_ret
    exact ⟨rfl, Below.refl _ _⟩
  have HC2 := hid (hC rfl).1
  have hn5 := (hC rfl).2
  clear hC
  go_wp2_with fail
  refine (insertBytes_any dir name ns nr a1 a2 a3 a4 a5 n1 n2 n3 n4 n5 c1 c2 c3 c4 c5 w HD.out HNm.out HNs.out HNr.out HC.out H5.out R5.out).mono ?_
  rintro e w' ⟨r0, rfl, rfl⟩
  have hn1 := HC2.out.l1
  by_cases hr0 : 1048576 < r0
  · go_wp2
    go_ret
    exact ⟨rfl, Below.refl _ _⟩
  go_wp2_with fail
  refine (build_any a1 a2 a3 a4 n1 n2 n3 n4 c1 c2 c3 c4 w HC2.out).mono ?_
  rintro e w1 ⟨xs, rfl, hB⟩
  have HX := hid hB.row'
  have HL := hid hB.len
  have HW1 := hid hB.below
  have hS : w.heap.size < w1.heap.size := owns_lt hB.own
  clear hB HC2 HC
  obtain ⟨m, hm⟩ : ∃ m, m = n5 + 1 := ⟨_, rfl⟩
  have HM := hid hm
  clear hm
  go_wp2_with (at_make; refine wpList_make_own _ rfl _ _ 28 rfl w1.heap.size 32 i32 _ 4 Tryf.underlying28 H32.out Y0.out Y1.out _ _ _ m rfl rfl (by have := HM.out; omega) (by rw [Y2.out]; have := HM.out; omega) (by unfold maxLen; have := HM.out; omega) (Nat.le_refl _) ?_; intro w2 hown2 hgrow2)
  have HI0 : Hid (InnerRel w1 w2 w1.heap.size m 0 []) := ⟨rfl, hown2, (Below.refl _ _).grown hgrow2 (Nat.le_refl _) (fun _ h => by cases h)⟩
  clear hown2 hgrow2
  go_loopw [24, 25] (fun v24 vt wj => ∃ (t : Nat) (ss : List Srv), t ≤ j ∧ v24 = .slice (some ⟨w1.heap.size, 0, none⟩) t m ∧ vt = .int .i64 t ∧ Hid (InnerRel w1 wj w1.heap.size m t ss)) (fun _ vt _ => j - (intOf vt).toNat)
  case atStart => exact ⟨0, [], by omega, rfl, rfl, HI0.out⟩
  case round =>
    obtain ⟨t, ss, ht, rfl, rfl, HI⟩ := hrel
    have hzj : w1.heap.size < wr.heap.size := owns_lt HI.out.own
    by_cases htj : t < j
    · obtain ⟨b5, o5, s5, rfl, hc5, hs5⟩ := R5.out t (by omega)
      have hc5' := cell_later (Below.from HW1.out HI.out.below (by omega)) hc5
      clear hc5 hs5
      go_wp2_with (at_builtin; refine wpList_append_fits _ rfl (.tmp 93) (.tmp 99) 28 rfl w1.heap.size 32 i32 4 Tryf.underlying28 H32.out Y1.out w1.heap.size t m _ rfl (HI.out.own.alloc _) ⟨wr.heap.size, 0, none⟩ 1 1 (srvC (s5, ⟨#[]⟩)) rfl rfl (cells_new _ _ _ _ (by simp)) (one_srvC _) (by have := HM.out; omega) ?_; intro w3 hown3 hgrow3)
      have HN := hid (inner_step (x := (s5, ⟨#[]⟩)) HI.out (by omega) ((Below.refl _ _).alloc (Nat.le_refl _) _) hown3 hgrow3)
      clear hown3 hgrow3
      go_wp2
      go_roundw
      case rel => exact ⟨t + 1, _, by omega, rfl, by go_num, HN.out⟩
      case measure => simp [intOf]; omega
    · have et : t = j := by omega
      subst et
      go_wp2_with (at_builtin; refine wpList_append_fits _ rfl (.tmp 101) (.tmp 104) 28 rfl w1.heap.size 32 i32 4 Tryf.underlying28 H32.out Y1.out w1.heap.size t m _ rfl (HI.out.own.alloc _) ⟨wr.heap.size, 0, none⟩ 1 1 (srvC (name, ⟨#[]⟩)) rfl rfl (cells_new _ _ _ _ (by simp)) (one_srvC _) (by have := HM.out; omega) ?_; intro w3 hown3 hgrow3)
      have HN := hid (inner_step (x := (name, ⟨#[]⟩)) HI.out (by omega) ((Below.refl _ _).alloc (Nat.le_refl _) _) hown3 hgrow3)
      have HA : Hid ((ss ++ [((name, ⟨#[]⟩) : Srv)]).any (hit name) = true) := by
        show _ = _
        rw [List.any_append]; simp [hit]
      clear hown3 hgrow3 HI HI0
      go_wp2
      go_loopw [24, 26] (fun v24 vq wj => ∃ (q p : Nat) (ss : List Srv), t ≤ q ∧ q ≤ n5 ∧ v24 = .slice (some ⟨w1.heap.size, 0, none⟩) p m ∧ vq = .int .i64 q ∧ Hid (p = q + 1) ∧ Hid (InnerRel w1 wj w1.heap.size m p ss) ∧ Hid (ss.any (hit name) = true)) (fun _ vq _ => n5 - (intOf vq).toNat)
      case atStart => exact ⟨t, t + 1, _, by omega, by omega, rfl, rfl, rfl, HN.out, HA.out⟩
      case round =>
        clear HN HA
        rename World => ws
        obtain ⟨q, p, ss, hq0, hq, rfl, rfl, HP, HI, HA⟩ := hrel
        have hzs : w1.heap.size < ws.heap.size := owns_lt HI.out.own
        by_cases hqn : q < n5
        · obtain ⟨b5, o5, s5, rfl, hc5, hs5⟩ := R5.out q hqn
          have hc5' := cell_later (Below.from HW1.out HI.out.below (by omega)) hc5
          clear hc5 hs5
          go_wp2_with (at_builtin; refine wpList_append_fits _ rfl (.tmp 113) (.tmp 119) 28 rfl w1.heap.size 32 i32 4 Tryf.underlying28 H32.out Y1.out w1.heap.size p m _ rfl (HI.out.own.alloc _) ⟨ws.heap.size, 0, none⟩ 1 1 (srvC (s5, ⟨#[]⟩)) rfl rfl (cells_new _ _ _ _ (by simp)) (one_srvC _) (by have := HM.out; have := HP.out; omega) ?_; intro w4 hown4 hgrow4)
          have HN := hid (inner_step (x := (s5, ⟨#[]⟩)) HI.out (by omega) ((Below.refl _ _).alloc (Nat.le_refl _) _) hown4 hgrow4)
          have HA' : Hid ((ss ++ [((s5, ⟨#[]⟩) : Srv)]).any (hit name) = true) := by
            show _ = _
            rw [List.any_append, HA.out]; rfl
          have HP' : Hid (p + 1 = q + 1 + 1) := by show _ = _; rw [HP.out]
          clear hown4 hgrow4
          go_wp2
          go_roundw
          case rel => exact ⟨q + 1, p + 1, _, by omega, by omega, rfl, by go_num, HP'.out, HN.out, HA'.out⟩
          case measure => simp [intOf]; omega
        · have hssl := HI.out.len
          subst hssl
          have em : m = ss.length := by have := HM.out; have := HP.out; omega
          subst em
          have hsl : ss.length ≤ 1048577 := by have := HM.out; omega
          have HST : Hid (SiteOk ws ⟨ns, nr, some ⟨w1.heap.size, 0, none⟩, ss.length, ss⟩) := ⟨srvRow_of_owns HI.out.own, hsl, fun e => by cases e⟩
          have HWs : Hid (Below w1.heap.size w1 ws) := HI.out.below
          have HBs : Hid (∀ o : Obj, Below ws.heap.size ws (ws.alloc o)) := fun _ => (Below.refl _ _).alloc (Nat.le_refl _) _
          clear HI
          go_wp2_with (at_make; refine wpList_make_own _ rfl _ _ 26 rfl (ws.heap.size + 1) 35 i35 _ 4 Tryf.underlying26 H35.out Z0.out Z1.out _ _ _ (n1 + 1) rfl rfl (by omega) (by rw [Z2.out]; omega) (by unfold maxLen; omega) (by simp) ?_; intro w5 hown5 hgrow5)
          have HK0 : Hid (WholeRel (ws.alloc (.cells #[.string ns, .string nr, .slice (some ⟨w1.heap.size, 0, none⟩) ss.length ss.length, .pointer none] 35)) w5 (ws.heap.size + 1) (n1 + 1) 0 []) := ⟨rfl, by simpa using hown5, (Below.refl _ _).grown hgrow5 (by simp) (fun _ h => by cases h)⟩
          clear hown5 hgrow5
          go_loopw [28, 29] (fun v28 vt wj => ∃ t : Nat, t ≤ k ∧ v28 = .slice (some ⟨ws.heap.size + 1, 0, none⟩) t (n1 + 1) ∧ vt = .int .i64 t ∧ Hid (WholeRel (ws.alloc (.cells #[.string ns, .string nr, .slice (some ⟨w1.heap.size, 0, none⟩) ss.length ss.length, .pointer none] 35)) wj (ws.heap.size + 1) (n1 + 1) t (xs.take t))) (fun _ vt _ => k - (intOf vt).toNat)
          case atStart => exact ⟨0, by omega, by simp, rfl, by simpa using HK0⟩
          case round =>
            clear HK0
            obtain ⟨u, hu, rfl, rfl, HK⟩ := hrel
            have hzr : ws.heap.size + 1 < wr.heap.size := owns_lt HK.out.own
            by_cases huk : u < k
            · have hux : u < xs.length := by rw [HL.out]; omega
              obtain ⟨b, o, he, q4⟩ := HX.out.cells u hux
              simp only [Option.some.injEq, Addr.mk.injEq, and_true] at he
              obtain ⟨rfl, rfl⟩ := he
              have hbk : Below w1.heap.size w1 wr := Below.from HWs.out ((HBs.out _).trans (HK.out.below.mono (by omega))) (by omega)
              obtain ⟨d0, d1, d2, d3⟩ := q4.below hbk
              obtain ⟨x, hxe⟩ : ∃ x, x = xs[u] := ⟨_, rfl⟩
              rw [← hxe] at d0 d1 d2
              simp only [Nat.zero_add] at d0 d1 d2 d3
              have HXE := hid hxe
              clear q4 hxe hbk
              go_wp2_with (at_builtin; refine wpList_append_fits _ rfl (.tmp 134) (.tmp 139) 26 rfl (ws.heap.size + 1) 35 i35 4 Tryf.underlying26 H35.out Z1.out (ws.heap.size + 1) u (n1 + 1) _ rfl (HK.out.own.alloc _) ⟨wr.heap.size, 0, none⟩ 1 1 (siteC x) rfl rfl (cells_new _ _ _ _ (by simp)) (one_siteC _) (by omega) ?_; intro w6 hown6 hgrow6)
              have HN := hid (whole_step (x := x) HK.out ((Below.refl _ _).alloc (Nat.le_refl _) _) hown6 hgrow6)
              have HT : Hid (xs.take u ++ [x] = xs.take (u + 1)) := by
                show _ = _
                rw [List.take_succ_eq_append_getElem hux, HXE.out]
              clear hown6 hgrow6
              go_wp2
              go_roundw
              case rel => exact ⟨u + 1, by omega, rfl, by go_num, by have := HN.out; rw [HT.out] at this; exact this⟩
              case measure => simp [intOf]; omega
            · have eu : u = k := by omega
              subst eu
              have e0 := whole_star (i := 0) HK.out
              have e1 := whole_star (i := 1) HK.out
              have e2 := whole_star (i := 2) HK.out
              have e3 := whole_star (i := 3) HK.out
              simp at e0 e1 e2 e3
              go_wp2_with (at_builtin; refine wpList_append_fits _ rfl (.tmp 141) (.tmp 143) 26 rfl (ws.heap.size + 1) 35 i35 4 Tryf.underlying26 H35.out Z1.out (ws.heap.size + 1) u (n1 + 1) _ rfl (HK.out.own.alloc _) ⟨wr.heap.size, 0, none⟩ 1 1 (siteC ⟨ns, nr, some ⟨w1.heap.size, 0, none⟩, ss.length, ss⟩) rfl rfl (cells_new _ _ _ _ (by simp)) (one_siteC _) (by omega) ?_; intro w7 hown7 hgrow7)
              have HN := hid (whole_step (x := ⟨ns, nr, some ⟨w1.heap.size, 0, none⟩, ss.length, ss⟩) HK.out ((Below.refl _ _).alloc (Nat.le_refl _) _) hown7 hgrow7)
              clear hown7 hgrow7 HK e0 e1 e2 e3
              go_wp2
              go_loopw [28, 30] (fun v28 vt wj => ∃ (q p : Nat) (zs : List SiteV), u ≤ q ∧ q ≤ n1 ∧ v28 = .slice (some ⟨ws.heap.size + 1, 0, none⟩) p (n1 + 1) ∧ vt = .int .i64 q ∧ Hid (p = q + 1) ∧ Hid (WholeRel (ws.alloc (.cells #[.string ns, .string nr, .slice (some ⟨w1.heap.size, 0, none⟩) ss.length ss.length, .pointer none] 35)) wj (ws.heap.size + 1) (n1 + 1) p (xs.take u ++ ⟨ns, nr, some ⟨w1.heap.size, 0, none⟩, ss.length, ss⟩ :: zs)) ∧ Hid (∀ z ∈ zs, z ∈ xs)) (fun _ vt _ => n1 - (intOf vt).toNat)
              case atStart => exact ⟨u, u + 1, [], by omega, by omega, rfl, rfl, rfl, HN.out, hid (by simp)⟩
              case round =>
                clear HN
                rename World => wt
                obtain ⟨g, p, zs, hg0, hg, rfl, rfl, HPg, HK, HZ⟩ := hrel
                have hzt : ws.heap.size + 1 < wt.heap.size := owns_lt HK.out.own
                have HBt : Hid (Below w1.heap.size w1 wt) := Below.from HWs.out ((HBs.out _).trans (HK.out.below.mono (by omega))) (by omega)
                by_cases hgn : g < n1
                · have hgx : g < xs.length := by rw [HL.out]; omega
                  obtain ⟨b, o, he, q4⟩ := HX.out.cells g hgx
                  simp only [Option.some.injEq, Addr.mk.injEq, and_true] at he
                  obtain ⟨rfl, rfl⟩ := he
                  obtain ⟨d0, d1, d2, d3⟩ := q4.below HBt.out
                  have HMem := hid (List.getElem_mem hgx)
                  obtain ⟨x, hxe⟩ : ∃ x, x = xs[g] := ⟨_, rfl⟩
                  rw [← hxe] at d0 d1 d2 HMem
                  simp only [Nat.zero_add] at d0 d1 d2 d3
                  clear q4 hxe
                  go_wp2_with (at_builtin; refine wpList_append_fits _ rfl (.tmp 152) (.tmp 157) 26 rfl (ws.heap.size + 1) 35 i35 4 Tryf.underlying26 H35.out Z1.out (ws.heap.size + 1) p (n1 + 1) _ rfl (HK.out.own.alloc _) ⟨wt.heap.size, 0, none⟩ 1 1 (siteC x) rfl rfl (cells_new _ _ _ _ (by simp)) (one_siteC _) (by have := HPg.out; omega) ?_; intro w8 hown8 hgrow8)
                  have HN := hid (whole_step (x := x) HK.out ((Below.refl _ _).alloc (Nat.le_refl _) _) hown8 hgrow8)
                  have HZ' : Hid (∀ z ∈ zs ++ [x], z ∈ xs) := by
                    intro z hz
                    rcases List.mem_append.1 hz with hz | hz
                    · exact HZ.out z hz
                    · simp only [List.mem_singleton] at hz; subst hz; exact HMem.out
                  have HP' : Hid (p + 1 = g + 1 + 1) := by show _ = _; rw [HPg.out]
                  clear hown8 hgrow8
                  go_wp2
                  go_roundw
                  case rel => exact ⟨g + 1, p + 1, zs ++ [x], by omega, by omega, rfl, by go_num, HP'.out, hid (by simpa using HN.out), HZ'.out⟩
                  case measure => simp [intOf]; omega
                · have ep : p = n1 + 1 := by have := HPg.out; omega
                  subst ep
                  have HOKw1 : Hid (∀ z ∈ xs, SiteOk (ws.alloc (.cells #[.string ns, .string nr, .slice (some ⟨w1.heap.size, 0, none⟩) ss.length ss.length, .pointer none] 35)) z) := fun z hz => ((HX.out.ok z hz).below HWs.out).below (HBs.out _)
                  have HSTa : Hid (SiteOk (ws.alloc (.cells #[.string ns, .string nr, .slice (some ⟨w1.heap.size, 0, none⟩) ss.length ss.length, .pointer none] 35)) ⟨ns, nr, some ⟨w1.heap.size, 0, none⟩, ss.length, ss⟩) := HST.out.below (HBs.out _)
                  have HRW : Hid (SiteRow wt (some ⟨ws.heap.size + 1, 0, none⟩) (xs.take u ++ ⟨ns, nr, some ⟨w1.heap.size, 0, none⟩, ss.length, ss⟩ :: zs)) := HK.out.row (by simp) (fun y hy => by
                    rcases List.mem_append.1 hy with hy | hy
                    · exact HOKw1.out y (List.mem_of_mem_take hy)
                    · rcases List.mem_cons.1 hy with rfl | hy
                      · exact HSTa.out
                      · exact HOKw1.out y (HZ.out y hy))
                  have HRP : Hid (SiteRow wt (some ⟨w.heap.size, 0, none⟩) (xs.take u)) := (HX.out.front u).below HBt.out
                  have HRX : Hid (SiteRow wt (some ⟨w.heap.size, 0, none⟩) xs) := HX.out.below HBt.out
                  have HLW := hid HK.out.len
                  have HLP : Hid ((xs.take u).length = u) := by show _ = _; rw [List.length_take, HL.out]; omega
                  have HSTt : Hid (SiteOk wt ⟨ns, nr, some ⟨w1.heap.size, 0, none⟩, ss.length, ss⟩) := HSTa.out.below (by have := HK.out.below; simpa using this)
                  have t0 := whole_star (i := 0) HK.out
                  have t1 := whole_star (i := 1) HK.out
                  have t2 := whole_star (i := 2) HK.out
                  have t3 := whole_star (i := 3) HK.out
                  simp at t0 t1 t2 t3
                  have HS4 : Hid (Site4 wt ws.heap.size 0 ⟨ns, nr, some ⟨w1.heap.size, 0, none⟩, ss.length, ss⟩) := ⟨t0, t1, t2, t3⟩
                  have HBw : Hid (Below w.heap.size w wt) := Below.from HW1.out HBt.out (by omega)
                  have HFt : Hid (F.answers wt.tape) := by
                    show F.answers _
                    rw [HBw.out.tape]; exact HF.out
                  have HB2 : Hid (∀ A B : Obj, Below wt.heap.size wt ((wt.alloc A).alloc B)) := fun _ _ => ((Below.refl _ _).alloc (Nat.le_refl _) _).alloc (by simp) _
                  clear t0 t1 t2 t3 HK HZ HOKw1 HSTa HX HBt HST HWs HBs HPg
                  rcases hsp : siteOf (xs.take u) name with _ | x
                  · have HGW := hid (whole_none (zs := zs) (star := ⟨ns, nr, some ⟨w1.heap.size, 0, none⟩, ss.length, ss⟩) hsp HA.out)
                    have HHit : Hid ((⟨ns, nr, some ⟨w1.heap.size, 0, none⟩, ss.length, ss⟩ : SiteV).ss.any (hit name) = true) := HA.out
                    have HPV : Hid (siteOf (xs.take u) name = none) := hsp
                    have HOKg : Hid (SiteOk wt ⟨ns, nr, some ⟨w1.heap.size, 0, none⟩, ss.length, ss⟩) := HSTt.out
                    have HANY : Hid (((xs.take u).any fun x => x.ss.any (hit name)) = false) := by show _ = _; rw [siteOf_any_iff, hsp]; rfl
                    clear hsp
                    go_wp2_with fail
                    refine (siteOf_at F wt.heap.size dir (some ⟨ws.heap.size + 1, 0, none⟩) (n1 + 1) (n1 + 1) _ name _ (by exact HFt.out) HLW.out (by omega) (by simp [World.cell?_alloc_past]) (by simp [World.cell?_alloc_past]) (HRW.out.below (HB2.out _ _))).mono ?_
                    rintro e w9 ⟨hans, hb9⟩
                    rcases hans with ⟨y, hy, rfl⟩ | ⟨hy, -⟩
                    rotate_left
                    · rw [HGW.out] at hy; cases hy
                    rw [HGW.out] at hy
                    obtain rfl := Option.some.inj hy
                    clear hy
                    have hz9 : wt.heap.size + 2 ≤ w9.heap.size := by have := hb9.size; simp at this; omega
                    have HB9 : Hid (Below wt.heap.size wt w9) := Below.from (HB2.out _ _) hb9 (by simp; omega)
                    have q0 : w9.cell? ⟨wt.heap.size + 1, 0, none⟩ = some (.string dir) := (hb9.cell (by simp)).trans (by simp)
                    have q1 : w9.cell? ⟨wt.heap.size + 1, 1, none⟩ = some (.slice (some ⟨w.heap.size, 0, none⟩) u n1) := (hb9.cell (by simp)).trans (by simp)
                    have Q0 := hid q0
                    have Q1 := hid q1
                    have HG4 : Hid (Site4 (w9.alloc (.cells #[.string ns, .string nr, .slice (some ⟨w1.heap.size, 0, none⟩) ss.length ss.length, .pointer none] 35)) w9.heap.size 0 ⟨ns, nr, some ⟨w1.heap.size, 0, none⟩, ss.length, ss⟩) := new_site4 w9 ⟨ns, nr, some ⟨w1.heap.size, 0, none⟩, ss.length, ss⟩
                    have HBg : Hid (Below w9.heap.size w9 (w9.alloc (.cells #[.string ns, .string nr, .slice (some ⟨w1.heap.size, 0, none⟩) ss.length ss.length, .pointer none] 35))) := (Below.refl _ _).alloc (Nat.le_refl _) _
                    have HBg' : Hid (Below wt.heap.size wt (w9.alloc (.cells #[.string ns, .string nr, .slice (some ⟨w1.heap.size, 0, none⟩) ss.length ss.length, .pointer none] 35))) := HB9.out.alloc (by omega) _
                    have HFg : Hid (F.answers (w9.alloc (.cells #[.string ns, .string nr, .slice (some ⟨w1.heap.size, 0, none⟩) ss.length ss.length, .pointer none] 35)).tape) := by
                      show F.answers _
                      rw [HBg'.out.tape]; exact HFt.out
                    clear hb9 q0 q1
                    go_wp2_with fail
                    refine (siteOf_at F (wt.heap.size + 1) dir (some ⟨w.heap.size, 0, none⟩) u n1 (xs.take u) name _ (by exact HFg.out) HLP.out (by omega) (cell_later HBg.out Q0.out) (cell_later HBg.out Q1.out) (HRP.out.below HBg'.out)).mono ?_
                    rintro e w10 ⟨hans2, hb10⟩
                    rcases hans2 with ⟨y, hy, -⟩ | ⟨-, ty, ve, rfl⟩
                    · rw [HPV.out] at hy; cases hy
                    have hz10 : w9.heap.size < w10.heap.size := by have := hb10.size; simp at this; omega
                    have HB10 : Hid (Below wt.heap.size wt w10) := Below.from HBg'.out hb10 (by simp; omega)
                    have HG10 := hid (HG4.out.below hb10)
                    have HBp : Hid (Below w10.heap.size w10 (w10.alloc (.cells #[.string ⟨#[]⟩, .string ⟨#[]⟩, .slice none 0 0, .pointer none] 35))) := (Below.refl _ _).alloc (Nat.le_refl _) _
                    have HP4 : Hid (Site4 (w10.alloc (.cells #[.string ⟨#[]⟩, .string ⟨#[]⟩, .slice none 0 0, .pointer none] 35)) w10.heap.size 0 zeroV) := new_site4 w10 zeroV
                    have HBp' : Hid (Below wt.heap.size wt (w10.alloc (.cells #[.string ⟨#[]⟩, .string ⟨#[]⟩, .slice none 0 0, .pointer none] 35))) := HB10.out.alloc (by omega) _
                    obtain ⟨g0, g1, g2, g3⟩ := HG10.out
                    simp only [Nat.zero_add] at g0 g1 g2 g3
                    have HG11 := hid (HG10.out.below HBp.out)
                    clear hb10
                    go_wp2_with fail
                    refine (holds_b ⟨ns, nr, some ⟨w1.heap.size, 0, none⟩, ss.length, ss⟩ name _ (HOKg.out.below HBp'.out) true HHit.out).mono ?_
                    rintro e w11 ⟨rfl, hb11⟩
                    have hz11 : w10.heap.size < w11.heap.size := by have := hb11.size; simp at this; omega
                    have HB11 : Hid (Below wt.heap.size wt w11) := Below.from HBp'.out hb11 (by simp; omega)
                    have HG12 := hid (HG11.out.below hb11)
                    have HP12 := hid (HP4.out.below hb11)
                    clear hb11 g0 g1 g2 g3
                    go_wp2
                    go_loopw [37, 38] (fun vb vi wz => ∃ (i : Nat) (bb : Bool), i ≤ u ∧ vb = .bool bb ∧ vi = .int .i64 i ∧ Hid (bb = (xs.take i).any fun x => x.ss.any (hit name)) ∧ Hid (Below w11.heap.size w11 wz)) (fun _ vi _ => u - (intOf vi).toNat)
                    case atStart => exact ⟨0, false, by omega, rfl, rfl, hid (by simp), Below.refl _ _⟩
                    case round =>
                      obtain ⟨i, bb, hi, rfl, rfl, HBB, HBz⟩ := hrel
                      have HBzt : Hid (Below wt.heap.size wt wr) := Below.from HB11.out HBz.out (by omega)
                      have hzz := HBz.out.size
                      by_cases hiu : i < u
                      · have hix : i < xs.length := by rw [HL.out]; omega
                        obtain ⟨b', o', he, q4⟩ := HRX.out.cells i hix
                        simp only [Option.some.injEq, Addr.mk.injEq, and_true] at he
                        obtain ⟨rfl, rfl⟩ := he
                        obtain ⟨u0, u1, u2, u3⟩ := q4.below HBzt.out
                        have HOKi := hid ((HRX.out.ok _ (List.getElem_mem hix)).below HBzt.out)
                        have HAT := hid (any_take (f := fun x => x.ss.any (hit name)) hix)
                        obtain ⟨yi, hyi⟩ : ∃ yi, yi = xs[i] := ⟨_, rfl⟩
                        rw [← hyi] at u0 u1 u2 HOKi HAT
                        simp only [Nat.zero_add] at u0 u1 u2 u3
                        clear hyi q4
                        obtain ⟨cb, hcb⟩ : ∃ cb, yi.ss.any (hit name) = cb := ⟨_, rfl⟩
                        have HCB := hid hcb
                        clear hcb
                        go_wp2_with fail
                        refine (holds_b yi name _ HOKi.out cb HCB.out).mono ?_
                        rintro e w13 ⟨rfl, hb13⟩
                        have HBn : Hid (Below w11.heap.size w11 w13) := Below.from HBz.out hb13 hzz
                        clear hb13
                        cases cb
                        · have HNB : Hid (bb = (xs.take (i + 1)).any fun x => x.ss.any (hit name)) := by
                            show _ = _
                            rw [HAT.out, HCB.out, ← HBB.out, Bool.or_false]
                          go_wp2
                          go_roundw
                          case rel => exact ⟨i + 1, bb, by omega, rfl, by go_num, HNB.out, HBn.out⟩
                          case measure => simp [intOf]; omega
                        · have HNB : Hid (true = (xs.take (i + 1)).any fun x => x.ss.any (hit name)) := by
                            show _ = _
                            rw [HAT.out, HCB.out, Bool.or_true]
                          go_wp2
                          go_roundw
                          case rel => exact ⟨i + 1, true, by omega, rfl, by go_num, HNB.out, HBn.out⟩
                          case measure => simp [intOf]; omega
                      · have ei : i = u := by omega
                        subst ei
                        have ebb := HBB.out.trans HANY.out
                        subst ebb
                        obtain ⟨g0, g1, g2, g3⟩ := HG12.out.below HBz.out
                        obtain ⟨p0, p1, p2, p3⟩ := HP12.out.below HBz.out
                        have HPz := hid (HP12.out.below HBz.out)
                        simp only [Nat.zero_add] at g0 g1 g2 g3 p0 p1 p2 p3
                        obtain ⟨s0, s1, s2, s3⟩ := HS4.out.below HBzt.out
                        simp only [Nat.zero_add] at s0 s1 s2 s3
                        go_wp2_with fail
                        refine (same_self ⟨ns, nr, some ⟨w1.heap.size, 0, none⟩, ss.length, ss⟩ _ (HOKg.out.below HBzt.out)).mono ?_
                        rintro e w14 ⟨rfl, hb14⟩
                        obtain ⟨p0', p1', p2', p3'⟩ := HPz.out.below hb14
                        simp only [Nat.zero_add, List.length_nil] at p0' p1' p2' p3'
                        have HB14 : Hid (Below wt.heap.size wt w14) := Below.from HBzt.out hb14 (by omega)
                        clear hb14
                        have hz14 := HB14.out.size
                        go_wp2_with fail
                        refine (zero_any _).mono ?_
                        rintro e w15 ⟨rfl, hb15⟩
                        have HB15 : Hid (Below wt.heap.size wt w15) := Below.from HB14.out hb15 hz14
                        clear hb15
                        go_wp2
                        go_ret
                        exact ⟨rfl, Below.from HBw.out HB15.out (by omega)⟩
                  · have HGW := hid (whole_some (zs := zs) (star := ⟨ns, nr, some ⟨w1.heap.size, 0, none⟩, ss.length, ss⟩) hsp)
                    have HHit := hid (siteOf_hit' hsp)
                    have HPV : Hid (siteOf (xs.take u) name = some x) := hsp
                    have HOKg := hid (HRP.out.ok x (siteOf_in hsp))
                    have HANY : Hid (((xs.take u).any fun x => x.ss.any (hit name)) = true) := by show _ = _; rw [siteOf_any_iff, hsp]; rfl
                    clear hsp
                    go_wp2_with fail
                    refine (siteOf_at F wt.heap.size dir (some ⟨ws.heap.size + 1, 0, none⟩) (n1 + 1) (n1 + 1) _ name _ (by exact HFt.out) HLW.out (by omega) (by simp [World.cell?_alloc_past]) (by simp [World.cell?_alloc_past]) (HRW.out.below (HB2.out _ _))).mono ?_
                    rintro e w9 ⟨hans, hb9⟩
                    rcases hans with ⟨y, hy, rfl⟩ | ⟨hy, -⟩
                    rotate_left
                    · rw [HGW.out] at hy; cases hy
                    rw [HGW.out] at hy
                    obtain rfl := Option.some.inj hy
                    clear hy
                    have hz9 : wt.heap.size + 2 ≤ w9.heap.size := by have := hb9.size; simp at this; omega
                    have HB9 : Hid (Below wt.heap.size wt w9) := Below.from (HB2.out _ _) hb9 (by simp; omega)
                    have q0 : w9.cell? ⟨wt.heap.size + 1, 0, none⟩ = some (.string dir) := (hb9.cell (by simp)).trans (by simp)
                    have q1 : w9.cell? ⟨wt.heap.size + 1, 1, none⟩ = some (.slice (some ⟨w.heap.size, 0, none⟩) u n1) := (hb9.cell (by simp)).trans (by simp)
                    have Q0 := hid q0
                    have Q1 := hid q1
                    have HG4 : Hid (Site4 (w9.alloc (.cells #[.string x.name, .string x.region, .slice x.ao x.ss.length x.cap, .pointer none] 35)) w9.heap.size 0 x) := new_site4 w9 x
                    have HBg : Hid (Below w9.heap.size w9 (w9.alloc (.cells #[.string x.name, .string x.region, .slice x.ao x.ss.length x.cap, .pointer none] 35))) := (Below.refl _ _).alloc (Nat.le_refl _) _
                    have HBg' : Hid (Below wt.heap.size wt (w9.alloc (.cells #[.string x.name, .string x.region, .slice x.ao x.ss.length x.cap, .pointer none] 35))) := HB9.out.alloc (by omega) _
                    have HFg : Hid (F.answers (w9.alloc (.cells #[.string x.name, .string x.region, .slice x.ao x.ss.length x.cap, .pointer none] 35)).tape) := by
                      show F.answers _
                      rw [HBg'.out.tape]; exact HFt.out
                    clear hb9 q0 q1
                    go_wp2_with fail
                    refine (siteOf_at F (wt.heap.size + 1) dir (some ⟨w.heap.size, 0, none⟩) u n1 (xs.take u) name _ (by exact HFg.out) HLP.out (by omega) (cell_later HBg.out Q0.out) (cell_later HBg.out Q1.out) (HRP.out.below HBg'.out)).mono ?_
                    rintro e w10 ⟨hans2, hb10⟩
                    rcases hans2 with ⟨y, hy, rfl⟩ | ⟨hy, -⟩
                    rotate_left
                    · rw [HPV.out] at hy; cases hy
                    rw [HPV.out] at hy
                    obtain rfl := Option.some.inj hy
                    clear hy
                    have hz10 : w9.heap.size < w10.heap.size := by have := hb10.size; simp at this; omega
                    have HB10 : Hid (Below wt.heap.size wt w10) := Below.from HBg'.out hb10 (by simp; omega)
                    have HG10 := hid (HG4.out.below hb10)
                    have HBp : Hid (Below w10.heap.size w10 (w10.alloc (.cells #[.string x.name, .string x.region, .slice x.ao x.ss.length x.cap, .pointer none] 35))) := (Below.refl _ _).alloc (Nat.le_refl _) _
                    have HP4 : Hid (Site4 (w10.alloc (.cells #[.string x.name, .string x.region, .slice x.ao x.ss.length x.cap, .pointer none] 35)) w10.heap.size 0 x) := new_site4 w10 x
                    have HBp' : Hid (Below wt.heap.size wt (w10.alloc (.cells #[.string x.name, .string x.region, .slice x.ao x.ss.length x.cap, .pointer none] 35))) := HB10.out.alloc (by omega) _
                    obtain ⟨g0, g1, g2, g3⟩ := HG10.out
                    simp only [Nat.zero_add] at g0 g1 g2 g3
                    have HG11 := hid (HG10.out.below HBp.out)
                    clear hb10
                    go_wp2_with fail
                    refine (holds_b x name _ (HOKg.out.below HBp'.out) true HHit.out).mono ?_
                    rintro e w11 ⟨rfl, hb11⟩
                    have hz11 : w10.heap.size < w11.heap.size := by have := hb11.size; simp at this; omega
                    have HB11 : Hid (Below wt.heap.size wt w11) := Below.from HBp'.out hb11 (by simp; omega)
                    have HG12 := hid (HG11.out.below hb11)
                    have HP12 := hid (HP4.out.below hb11)
                    clear hb11 g0 g1 g2 g3
                    go_wp2
                    go_loopw [37, 38] (fun vb vi wz => ∃ (i : Nat) (bb : Bool), i ≤ u ∧ vb = .bool bb ∧ vi = .int .i64 i ∧ Hid (bb = (xs.take i).any fun x => x.ss.any (hit name)) ∧ Hid (Below w11.heap.size w11 wz)) (fun _ vi _ => u - (intOf vi).toNat)
                    case atStart => exact ⟨0, false, by omega, rfl, rfl, hid (by simp), Below.refl _ _⟩
                    case round =>
                      obtain ⟨i, bb, hi, rfl, rfl, HBB, HBz⟩ := hrel
                      have HBzt : Hid (Below wt.heap.size wt wr) := Below.from HB11.out HBz.out (by omega)
                      have hzz := HBz.out.size
                      by_cases hiu : i < u
                      · have hix : i < xs.length := by rw [HL.out]; omega
                        obtain ⟨b', o', he, q4⟩ := HRX.out.cells i hix
                        simp only [Option.some.injEq, Addr.mk.injEq, and_true] at he
                        obtain ⟨rfl, rfl⟩ := he
                        obtain ⟨u0, u1, u2, u3⟩ := q4.below HBzt.out
                        have HOKi := hid ((HRX.out.ok _ (List.getElem_mem hix)).below HBzt.out)
                        have HAT := hid (any_take (f := fun x => x.ss.any (hit name)) hix)
                        obtain ⟨yi, hyi⟩ : ∃ yi, yi = xs[i] := ⟨_, rfl⟩
                        rw [← hyi] at u0 u1 u2 HOKi HAT
                        simp only [Nat.zero_add] at u0 u1 u2 u3
                        clear hyi q4
                        obtain ⟨cb, hcb⟩ : ∃ cb, yi.ss.any (hit name) = cb := ⟨_, rfl⟩
                        have HCB := hid hcb
                        clear hcb
                        go_wp2_with fail
                        refine (holds_b yi name _ HOKi.out cb HCB.out).mono ?_
                        rintro e w13 ⟨rfl, hb13⟩
                        have HBn : Hid (Below w11.heap.size w11 w13) := Below.from HBz.out hb13 hzz
                        clear hb13
                        cases cb
                        · have HNB : Hid (bb = (xs.take (i + 1)).any fun x => x.ss.any (hit name)) := by
                            show _ = _
                            rw [HAT.out, HCB.out, ← HBB.out, Bool.or_false]
                          go_wp2
                          go_roundw
                          case rel => exact ⟨i + 1, bb, by omega, rfl, by go_num, HNB.out, HBn.out⟩
                          case measure => simp [intOf]; omega
                        · have HNB : Hid (true = (xs.take (i + 1)).any fun x => x.ss.any (hit name)) := by
                            show _ = _
                            rw [HAT.out, HCB.out, Bool.or_true]
                          go_wp2
                          go_roundw
                          case rel => exact ⟨i + 1, true, by omega, rfl, by go_num, HNB.out, HBn.out⟩
                          case measure => simp [intOf]; omega
                      · have ei : i = u := by omega
                        subst ei
                        have ebb := HBB.out.trans HANY.out
                        subst ebb
                        obtain ⟨g0, g1, g2, g3⟩ := HG12.out.below HBz.out
                        obtain ⟨p0, p1, p2, p3⟩ := HP12.out.below HBz.out
                        have HPz := hid (HP12.out.below HBz.out)
                        simp only [Nat.zero_add] at g0 g1 g2 g3 p0 p1 p2 p3
                        go_wp2_with fail
                        refine (same_self x _ (HOKg.out.below HBzt.out)).mono ?_
                        rintro e w14 ⟨rfl, hb14⟩
                        obtain ⟨p0', p1', p2', p3'⟩ := HPz.out.below hb14
                        simp only [Nat.zero_add] at p0' p1' p2' p3'
                        have HB14 : Hid (Below wt.heap.size wt w14) := Below.from HBzt.out hb14 (by omega)
                        clear hb14
                        have hz14 := HB14.out.size
                        go_wp2_with fail
                        refine (holds_b x name _ (HOKg.out.below HB14.out) true HHit.out).mono ?_
                        rintro e w15 ⟨rfl, hb15⟩
                        have HB15 : Hid (Below wt.heap.size wt w15) := Below.from HB14.out hb15 hz14
                        clear hb15
                        go_wp2
                        go_ret
                        exact ⟨rfl, Below.from HBw.out HB15.out (by omega)⟩
end Go.Proofs.Qxb6630006aFmt
