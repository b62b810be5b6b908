import Derived.Test.Qxb6630006aFmtMem
namespace Go.Proofs.Qxb6630006aFmt
open Go.RowKit

set_option maxHeartbeats 400000 in
/-- (Site).Index. -/
theorem index_any (x : SiteV) (name : ByteArray) (w : World) (hx : SiteOk w x) :
    Calls Tryf.prog 14 #[x.val, .string name] w fun e w' => e = .returned (.int .i64 (idx x.ss name)) ∧ Below w.heap.size w w' := by
  obtain ⟨n, r, ao, cap, ss⟩ := x
  obtain ⟨hrow, hlen, -⟩ := hx
  simp only at hrow hlen
  have HR : Hid (SrvRow w ao ss) := hrow
  clear hrow
  go_enter Tryf.func14, Tryf.ntmps14
  go_wp2
  go_loopw [10] (fun vi wr => ∃ k : Nat, k ≤ ss.length ∧ vi = .int .i64 k ∧ Hid (∀ i (h : i < ss.length), i < k → hit name ss[i] = false) ∧ Below w.heap.size w wr) (fun vi _ => ss.length - (intOf vi).toNat)
  case atStart => exact ⟨0, by omega, rfl, fun i _ hi => by omega, (Below.refl _ _).alloc (Nat.le_refl _) _⟩
  case round =>
    obtain ⟨k, hk, rfl, HV, hb⟩ := hrel
    by_cases h : k < ss.length
    · obtain ⟨b, o, rfl, h4⟩ := HR.out k h
      obtain ⟨c0, c1, c2, c3⟩ := h4.below hb
      obtain ⟨s, hs⟩ : ∃ s, s = ss[k] := ⟨_, rfl⟩
      rw [← hs] at c0 c1 h4
      have HS : Hid (s = ss[k]) := hs
      have hz := hb.size
      clear hs h4
      by_cases ht : (s.1.toList == name.toList) = true
      · have HE : Hid (idx ss name = k) := idx_hit h HV.out (by rw [← HS.out]; exact ht)
        go_wp2
        go_ret
        exact ⟨ret_int HE.out.symm, hb.alloc hz _⟩
      · have ht' : (s.1.toList == name.toList) = false := by simpa using ht
        clear ht
        go_wp2
        go_roundw
        case rel =>
          refine ⟨k + 1, by omega, by go_num, fun i hi hik => ?_, hb.alloc hz _⟩
          by_cases e : i = k
          · subst e; rw [← HS.out]; exact ht'
          · exact HV.out i hi (by omega)
        case measure => simp [intOf]; omega
    · have HE : Hid (idx ss name = -1) := idx_none (fun i hi => HV.out i hi (by omega))
      go_wp2
      go_ret
      exact ⟨ret_int HE.out.symm, hb⟩

set_option maxHeartbeats 400000 in
/-- b1Holds. -/
theorem holds_any (x : SiteV) (name : ByteArray) (w : World) (hx : SiteOk w x) :
    Calls Tryf.prog 9 #[x.val, .string name] w fun e w' => e = .returned (.bool (x.ss.any (hit name))) ∧ Below w.heap.size w w' := by
  obtain ⟨n, r, ao, cap, ss⟩ := x
  obtain ⟨hrow, hlen, -⟩ := hx
  simp only at hrow hlen
  have HR : Hid (SrvRow w ao ss) := hrow
  clear hrow
  go_enter Tryf.func9, Tryf.ntmps9
  go_wp2
  go_loop [5] (fun vi => ∃ k : Nat, k ≤ ss.length ∧ vi = .int .i64 k ∧ Hid (∀ i (h : i < ss.length), i < k → hit name ss[i] = false)) (fun vi => ss.length - (intOf vi).toNat)
  case atStart => exact ⟨0, by omega, rfl, fun i _ hi => by omega⟩
  case round =>
    obtain ⟨k, hk, rfl, HV⟩ := hrel
    by_cases h : k < ss.length
    · obtain ⟨b, o, rfl, h4⟩ := HR.out k h
      have hb : Below w.heap.size w (w.alloc (.cells #[.string n, .string r, .slice (some ⟨b, o, none⟩) ss.length cap, .pointer none] 35)) := (Below.refl _ _).alloc (Nat.le_refl _) _
      have c0 := (h4.below hb).c0
      obtain ⟨s, hs⟩ : ∃ s, s = ss[k] := ⟨_, rfl⟩
      rw [← hs] at c0
      have HS : Hid (s = ss[k]) := hs
      clear hs h4
      by_cases ht : (s.1.toList == name.toList) = true
      · have HE : Hid (ss.any (hit name) = true) := List.any_eq_true.2 ⟨_, List.getElem_mem h, by rw [← HS.out]; exact ht⟩
        go_wp2
        go_ret
        exact ⟨ret_bool HE.out.symm, hb⟩
      · have ht' : (s.1.toList == name.toList) = false := by simpa using ht
        clear ht
        go_wp2
        go_round
        case rel =>
          refine ⟨k + 1, by omega, by go_num, fun i hi hik => ?_⟩
          by_cases e : i = k
          · subst e; rw [← HS.out]; exact ht'
          · exact HV.out i hi (by omega)
        case measure => simp [intOf]; omega
    · have HE : Hid (ss.any (hit name) = false) := by
        show ss.any (hit name) = false
        rw [List.any_eq_false]; intro s hs
        obtain ⟨i, hi, rfl⟩ := List.getElem_of_mem hs
        simp [HV.out i hi (by omega)]
      go_wp2
      go_ret
      exact ⟨ret_bool HE.out.symm, (Below.refl _ _).alloc (Nat.le_refl _) _⟩

theorem e28 (w : World) (a : Option Addr) (n c : Nat) : (binOp .eql 28 (.slice a n c) (.slice none 0 0)).run Tryf.prog w = .ok (.bool a.isNone) w := Lib.run_eql_slice_nil w 28 32 a n c 0 0 Tryf.underlying28
theorem e29 (w : World) (a : Option Addr) (n c : Nat) : (binOp .eql 29 (.slice a n c) (.slice none 0 0)).run Tryf.prog w = .ok (.bool a.isNone) w := Lib.run_eql_slice_nil w 29 5 a n c 0 0 Tryf.underlying29
/-- b1IsZeroSite at the zero site. -/
theorem zero_any (w : World) :
    Calls Tryf.prog 11 #[.agg #[.string ⟨#[]⟩, .string ⟨#[]⟩, .slice none 0 0, .pointer none]] w fun e w' => e = .returned (.bool true) ∧ Below w.heap.size w w' := by
  have h1 := e28
  go_enter Tryf.func11, Tryf.ntmps11
  go_wp2
  go_ret
  exact ⟨rfl, (Below.refl _ _).alloc (Nat.le_refl _) _⟩

/-- b1SameBytes at two nil slices. -/
theorem sameBytes_nil (w : World) :
    Calls Tryf.prog 18 #[.slice none 0 0, .slice none 0 0] w fun e w' => e = .returned (.bool true) ∧ w = w' := by
  have h1 := e29
  go_enter Tryf.func18, Tryf.ntmps18
  go_wp2
  refine wp_loop_rounds 1 ?_
  rw [rounds_succ]
  go_wp2
  go_ret
  exact ⟨rfl, rfl⟩

set_option maxHeartbeats 1000000 in
/-- b1SameSite: it answers; and true where the two are one. -/
theorem same_any (x y : SiteV) (w : World) (hx : SiteOk w x) (hy : SiteOk w y) :
    Calls Tryf.prog 10 #[x.val, y.val] w fun e w' => ∃ v, e = .returned (.bool v) ∧ (x = y → v = true) ∧ Below w.heap.size w w' := by
  obtain ⟨n, r, ao, cap, ss⟩ := x
  obtain ⟨n', r', ao', cap', ss'⟩ := y
  obtain ⟨hrow, hlen, -⟩ := hx
  obtain ⟨hrow', hlen', -⟩ := hy
  simp only at hrow hlen hrow' hlen'
  have HR : Hid (SrvRow w ao ss) := hrow
  have HR' : Hid (SrvRow w ao' ss') := hrow'
  obtain ⟨nb, HN⟩ : ∃ nb, Hid (nb = ao.isNone) := ⟨_, rfl⟩
  obtain ⟨nb', HN'⟩ : ∃ nb', Hid (nb' = ao'.isNone) := ⟨_, rfl⟩
  have h1 : ∀ w, (binOp .eql 28 (.slice ao ss.length cap) (.slice none 0 0)).run Tryf.prog w = .ok (.bool nb) w := by rw [HN.out]; exact fun w => e28 w ao _ _
  have h1' : ∀ w, (binOp .eql 28 (.slice ao' ss'.length cap') (.slice none 0 0)).run Tryf.prog w = .ok (.bool nb') w := by rw [HN'.out]; exact fun w => e28 w ao' _ _
  have HB0 : Hid (∀ A B : Obj, Below w.heap.size w ((w.alloc A).alloc B)) := fun _ _ => ((Below.refl _ _).alloc (Nat.le_refl _) _).alloc (by simp) _
  clear hrow hrow'
  by_cases tn : n.toList = n'.toList
  rotate_left
  · go_enter Tryf.func10, Tryf.ntmps10
    go_wp2
    go_ret
    exact ⟨false, rfl, fun e => by cases e; exact absurd rfl tn, HB0.out _ _⟩
  by_cases tr : r.toList = r'.toList
  rotate_left
  · go_enter Tryf.func10, Tryf.ntmps10
    go_wp2
    go_ret
    exact ⟨false, rfl, fun e => by cases e; exact absurd rfl tr, HB0.out _ _⟩
  by_cases tb : nb = nb'
  rotate_left
  · have HTB : Hid (¬ nb = nb') := tb
    have tb' : (nb != nb') = true := by simpa using tb
    clear tb
    go_enter Tryf.func10, Tryf.ntmps10
    go_wp2
    go_ret
    exact ⟨false, rfl, fun e => by cases e; exact absurd (HN.out.trans HN'.out.symm) HTB.out, HB0.out _ _⟩
  subst tb
  by_cases hl1 : ss.length = ss'.length
  rotate_left
  · have HLN : Hid (¬ ss.length = ss'.length) := hl1
    have hl0 : ((ss.length : Int) != (ss'.length : Int)) = true := by simp; omega
    clear hl1
    go_enter Tryf.func10, Tryf.ntmps10
    go_wp2
    go_ret
    exact ⟨false, rfl, fun e => by cases e; exact absurd rfl HLN.out, HB0.out _ _⟩
  · have hl0 : ((ss.length : Int) != (ss'.length : Int)) = false := by simp; omega
    have HL : Hid (ss.length = ss'.length) := hl1
    clear hl1
    go_enter Tryf.func10, Tryf.ntmps10
    go_wp2
    go_loopw [5] (fun vi wr => ∃ k : Nat, k ≤ ss.length ∧ vi = .int .i64 k ∧ Below (w.heap.size + 2) ((w.alloc (.cells #[.string n, .string r, .slice ao ss.length cap, .pointer none] 35)).alloc (.cells #[.string n', .string r', .slice ao' ss'.length cap', .pointer none] 35)) wr) (fun vi _ => ss.length - (intOf vi).toNat)
    case atStart => exact ⟨0, by omega, rfl, Below.refl _ _⟩
    case round =>
      obtain ⟨k, hk, rfl, hb⟩ := hrel
      have hbw : Below w.heap.size w wr := (HB0.out _ _).trans (hb.mono (by omega))
      have hz : w.heap.size + 2 ≤ wr.heap.size := by have := hb.size; simpa using this
      have d2 : wr.cell? ⟨w.heap.size, 2, none⟩ = some (.slice ao ss.length cap) := (hb.cell (by simp)).trans (by simp)
      have d2' : wr.cell? ⟨w.heap.size + 1, 2, none⟩ = some (.slice ao' ss'.length cap') := (hb.cell (by simp)).trans (by simp)
      have HBW : Hid (Below w.heap.size w wr) := hbw
      clear hbw
      by_cases h : k < ss.length
      · obtain ⟨b, o, rfl, h4⟩ := HR.out k h
        obtain ⟨b', o', rfl, h4'⟩ := HR'.out k (by have := HL.out; omega)
        obtain ⟨c0, c1, c2, c3⟩ := h4.below HBW.out
        obtain ⟨c0', c1', c2', c3'⟩ := h4'.below HBW.out
        have hk' : k < ss'.length := by have := HL.out; omega
        have hz0 : w.heap.size < wr.heap.size := by omega
        have hz1 : w.heap.size + 1 < wr.heap.size := by omega
        have hzb : b < wr.heap.size := World.block_lt_of_cell? wr _ c0
        have hzb' : b' < wr.heap.size := World.block_lt_of_cell? wr _ c0'
        have HBA : Hid (∀ A B : Obj, Below (w.heap.size + 2) ((w.alloc (.cells #[.string n, .string r, .slice (some ⟨b, o, none⟩) ss.length cap, .pointer none] 35)).alloc (.cells #[.string n', .string r', .slice (some ⟨b', o', none⟩) ss'.length cap', .pointer none] 35)) ((wr.alloc A).alloc B)) := fun _ _ => (hb.alloc hz _).alloc (by simp; omega) _
        have HBX : Hid (∀ A B : Obj, Below w.heap.size w ((wr.alloc A).alloc B)) := fun _ _ => (HBW.out.alloc (by omega) _).alloc (by simp; omega) _
        clear hb
        obtain ⟨s, hs⟩ : ∃ s, s = ss[k] := ⟨_, rfl⟩
        obtain ⟨s', hs'⟩ : ∃ s', s' = ss'[k] := ⟨_, rfl⟩
        rw [← hs] at c0 c1
        rw [← hs'] at c0' c1'
        have HS : Hid (ss = ss' → s = s') := by
          intro e; rw [hs, hs']; subst e; rfl
        clear hs hs' h4 h4'
        by_cases t1 : (s.1.toList == s'.1.toList) = true
        · by_cases t2 : (s.2.toList == s'.2.toList) = true
          · go_wp2_with (go_at_call 18; refine (sameBytes_nil _).mono ?_; rintro e w' ⟨rfl, rfl⟩)
            go_roundw
            case rel => exact ⟨k + 1, by omega, by go_num, HBA.out _ _⟩
            case measure => simp [intOf]; omega
          · have t3 : (s.2.toList == s'.2.toList) = false := by simpa using t2
            clear t2
            go_wp2_with (go_at_call 18; refine (sameBytes_nil _).mono ?_; rintro e w' ⟨rfl, rfl⟩)
            go_ret
            exact ⟨false, rfl, fun e => by cases e; simp [HS.out rfl] at t3, HBX.out _ _⟩
        · have t3 : (s.1.toList == s'.1.toList) = false := by simpa using t1
          clear t1
          go_wp2_with (go_at_call 18; refine (sameBytes_nil _).mono ?_; rintro e w' ⟨rfl, rfl⟩)
          go_ret
          exact ⟨false, rfl, fun e => by cases e; simp [HS.out rfl] at t3, HBX.out _ _⟩
      · go_wp2
        go_ret
        exact ⟨true, rfl, fun _ => rfl, HBW.out⟩
end Go.Proofs.Qxb6630006aFmt
