import Derived.Test.Qxb6630006aFmtRead
import Derived.Test.Qxb6630006aFmtFacts
namespace Go.Proofs.Qxb6630006aFmt
open Go.RowKit Go.Extern.Stop Go.Stop Go.Extern

/-- The first site that has a server called name. -/
def siteOf (xs : List SiteV) (name : ByteArray) : Option SiteV := xs.find? fun x => x.ss.any (hit name)
/-- The zero site. -/
abbrev zeroSite : Value := .agg #[.string ⟨#[]⟩, .string ⟨#[]⟩, .slice none 0 0, .pointer none]
/-- What SiteOf answers. -/
def SiteAns (xs : List SiteV) (name : ByteArray) (e : Ending) : Prop :=
  (∃ x, siteOf xs name = some x ∧ e = .returned (.tuple #[x.val, .nilIface])) ∨ (siteOf xs name = none ∧ ∃ t v, e = .returned (.tuple #[zeroSite, .iface t v]))

theorem siteOf_hit {xs : List SiteV} {name : ByteArray} {k : Nat} (hk : k < xs.length) (hb : ∀ i (h : i < xs.length), i < k → xs[i].ss.any (hit name) = false) (hh : xs[k].ss.any (hit name) = true) : siteOf xs name = some xs[k] := by
  unfold siteOf
  rw [List.find?_eq_some_iff_getElem]
  exact ⟨hh, k, hk, rfl, fun j hj => by simpa using hb j (by omega) hj⟩
theorem siteOf_none {xs : List SiteV} {name : ByteArray} (hb : ∀ i (h : i < xs.length), xs[i].ss.any (hit name) = false) : siteOf xs name = none := by
  unfold siteOf
  rw [List.find?_eq_none]
  intro x hx
  obtain ⟨i, hi, rfl⟩ := List.getElem_of_mem hx
  simpa using hb i hi

theorem index_no (x : SiteV) (name : ByteArray) (w : World) (hx : SiteOk w x) (h : x.ss.any (hit name) = false) :
    Calls Tryf.prog 14 #[x.val, .string name] w fun e w' => e = .returned (.int .i64 (-1)) ∧ Below w.heap.size w w' := by
  have := index_any x name w hx
  rcases idx_cases x.ss name with ⟨_, e, _⟩ | ⟨e, _⟩
  · rw [e] at this; exact this
  · rw [h] at e; cases e
theorem index_yes (x : SiteV) (name : ByteArray) (w : World) (hx : SiteOk w x) (h : x.ss.any (hit name) = true) :
    ∃ k : Nat, ∃ hk : k < x.ss.length, hit name x.ss[k] = true ∧ (∀ i (h : i < x.ss.length), i < k → hit name x.ss[i] = false) ∧
      Calls Tryf.prog 14 #[x.val, .string name] w fun e w' => e = .returned (.int .i64 k) ∧ Below w.heap.size w w' := by
  have := index_any x name w hx
  rcases idx_cases x.ss name with ⟨e, _⟩ | ⟨_, k, hk, e, h1, h2⟩
  · rw [h] at e; cases e
  · rw [e] at this; exact ⟨k, hk, h1, h2, this⟩

set_option maxHeartbeats 1000000 in
/-- (*Layout).SiteOf. -/
theorem siteOf_any (F : Interp) (L : Nat) (dir : ByteArray) (ao : Option Addr) (cap : Nat) (xs : List SiteV) (name : ByteArray) (w : World) (hF : F.answers w.tape) (hlen : xs.length ≤ 1048577)
    (hd : w.cell? ⟨L, 0, none⟩ = some (.string dir)) (hs : w.cell? ⟨L, 1, none⟩ = some (.slice ao xs.length cap)) (hx : SiteRow w ao xs) :
    Calls Tryf.prog 8 #[.pointer (some ⟨L, 0, none⟩), .string name] w fun e w' => SiteAns xs name e ∧ Below w.heap.size w w' := by
  have HR : Hid (SiteRow w ao xs) := hx
  have HF : Hid (F.answers w.tape) := hF
  have hzL : L < w.heap.size := World.block_lt_of_cell? w _ hd
  clear hx hF
  go_enter Tryf.func8, Tryf.ntmps8
  go_wp2
  go_loopw [13] (fun vi wr => ∃ k : Nat, k ≤ xs.length ∧ vi = .int .i64 k ∧ Hid (∀ i (h : i < xs.length), i < k → xs[i].ss.any (hit name) = false) ∧ Below w.heap.size w wr ∧ wr.heap[w.heap.size]? = some (.cells #[.string ⟨#[]⟩, .string ⟨#[]⟩, .slice none 0 0, .pointer none] 35 (0, 0))) (fun vi _ => xs.length - (intOf vi).toNat)
  case atStart => exact ⟨0, by omega, rfl, fun i _ hi => by omega, (Below.refl _ _).alloc (Nat.le_refl _) _, by exact heap_alloc_new w _⟩
  case round =>
    obtain ⟨k, hk, rfl, HV, hb, hres⟩ := hrel
    have hz : w.heap.size < wr.heap.size := by
      by_cases hlt : w.heap.size < wr.heap.size
      · exact hlt
      · have : wr.heap[w.heap.size]? = none := by simp; omega
        rw [this] at hres; cases hres
    by_cases h : k < xs.length
    · obtain ⟨b, o, rfl, h4⟩ := HR.out.cells k h
      obtain ⟨c0, c1, c2, c3⟩ := h4.below hb
      have hok := (HR.out.ok _ (List.getElem_mem h)).below hb
      obtain ⟨x, hxe⟩ : ∃ x, x = xs[k] := ⟨_, rfl⟩
      rw [← hxe] at c0 c1 c2 hok
      have HX : Hid (x = xs[k]) := hxe
      have hzb : b < wr.heap.size := World.block_lt_of_cell? wr _ c0
      have HK : Hid (SiteOk wr x) := hok
      have HB : Hid (Below w.heap.size w wr) := hb
      have HRES : Hid _ := hres
      clear hxe h4 hok hb hres
      have hbx : Below wr.heap.size wr (wr.alloc (.cells #[.string x.name, .string x.region, .slice x.ao x.ss.length x.cap, .pointer none] 35)) := (Below.refl _ _).alloc (Nat.le_refl _) _
      have HKx : Hid _ := HK.out.below hbx
      have HBX : Hid (Below w.heap.size w (wr.alloc (.cells #[.string x.name, .string x.region, .slice x.ao x.ss.length x.cap, .pointer none] 35))) := HB.out.alloc (by omega) _
      have HRX : Hid ((wr.alloc (.cells #[.string x.name, .string x.region, .slice x.ao x.ss.length x.cap, .pointer none] 35)).heap[w.heap.size]? = some (.cells #[.string ⟨#[]⟩, .string ⟨#[]⟩, .slice none 0 0, .pointer none] 35 (0, 0))) := (Below.heap_alloc _ _ _ hz).trans HRES.out
      clear hbx
      by_cases ha : x.ss.any (hit name) = true
      · obtain ⟨j, -, -, -, hcall⟩ := index_yes x name _ HKx.out ha
        have HC := hid hcall
        have HE : Hid (siteOf xs name = some x) := by
          have := siteOf_hit h HV.out (by rw [← HX.out]; exact ha)
          rw [← HX.out] at this; exact this
        clear hcall ha
        go_wp2_with fail
        refine HC.out.mono ?_
        rintro e w1 ⟨rfl, hb1⟩
        have hz1 : wr.heap.size < w1.heap.size := by have := hb1.size; simp at this; omega
        have hr0 : w1.heap[w.heap.size]? = some (.cells #[.string ⟨#[]⟩, .string ⟨#[]⟩, .slice none 0 0, .pointer none] 35 (0, 0)) := (hb1.block _ (by simp; omega)).trans HRX.out
        have r0 := cell_of_row w1 w.heap.size 0 _ _ _ hr0
        have r1 := cell_of_row w1 w.heap.size 1 _ _ _ hr0
        have r2 := cell_of_row w1 w.heap.size 2 _ _ _ hr0
        have r3 := cell_of_row w1 w.heap.size 3 _ _ _ hr0
        have f0 := frozen_of_row w1 w.heap.size 0 _ _ hr0
        have f1 := frozen_of_row w1 w.heap.size 1 _ _ hr0
        have f2 := frozen_of_row w1 w.heap.size 2 _ _ hr0
        have f3 := frozen_of_row w1 w.heap.size 3 _ _ hr0
        have x0 : w1.cell? ⟨wr.heap.size, 0, none⟩ = some (.string x.name) := (hb1.cell (by simp)).trans (by simp)
        have x1 : w1.cell? ⟨wr.heap.size, 1, none⟩ = some (.string x.region) := (hb1.cell (by simp)).trans (by simp)
        have x2 : w1.cell? ⟨wr.heap.size, 2, none⟩ = some (.slice x.ao x.ss.length x.cap) := (hb1.cell (by simp)).trans (by simp)
        have x3 : w1.cell? ⟨wr.heap.size, 3, none⟩ = some (.pointer none) := (hb1.cell (by simp)).trans (by simp)
        have HB1 : Hid (Below w.heap.size w w1) := Below.from HBX.out hb1 (by simp; omega)
        simp at r0 r1 r2 r3
        clear hb1 hr0
        go_wp2
        refine bodyPost_ret (v := .tuple #[x.val, .nilIface]) ?_ rfl ⟨.inl ⟨x, HE.out, rfl⟩, (((HB1.out.setCell (Nat.le_refl _) _).setCell (Nat.le_refl _) _).setCell (Nat.le_refl _) _).setCell (Nat.le_refl _) _⟩
        simp [results, Tryf.results8, go_sem, *]
      · have ha' : x.ss.any (hit name) = false := by simpa using ha
        have HC := hid (index_no x name _ HKx.out ha')
        have HN : Hid (∀ i (h : i < xs.length), i < k + 1 → xs[i].ss.any (hit name) = false) := by
          intro i hi hik
          by_cases e : i = k
          · subst e; rw [← HX.out]; exact ha'
          · exact HV.out i hi (by omega)
        clear ha ha'
        go_wp2_with fail
        refine HC.out.mono ?_
        rintro e w1 ⟨rfl, hb1⟩
        have HR1 : Hid (w1.heap[w.heap.size]? = some (.cells #[.string ⟨#[]⟩, .string ⟨#[]⟩, .slice none 0 0, .pointer none] 35 (0, 0))) := (hb1.block _ (by simp; omega)).trans HRX.out
        have HB1 : Hid (Below w.heap.size w w1) := Below.from HBX.out hb1 (by simp; omega)
        clear hb1
        go_wp2
        go_roundw
        case rel => exact ⟨k + 1, by omega, by go_num, HN.out, HB1.out, HR1.out⟩
        case measure => simp [intOf]; omega
    · have HE : Hid (siteOf xs name = none) := siteOf_none (fun i hi => HV.out i hi (by omega))
      have hd' : wr.cell? ⟨L, 0, none⟩ = some (.string dir) := cell_later hb hd
      have hF' := answers_open (show F.answers wr.tape by rw [hb.tape]; exact HF.out)
      have r0 := cell_of_row wr w.heap.size 0 _ _ _ hres
      have r1 := cell_of_row wr w.heap.size 1 _ _ _ hres
      have r2 := cell_of_row wr w.heap.size 2 _ _ _ hres
      have r3 := cell_of_row wr w.heap.size 3 _ _ _ hres
      have f0 := frozen_of_row wr w.heap.size 0 _ _ hres
      have f1 := frozen_of_row wr w.heap.size 1 _ _ hres
      have f2 := frozen_of_row wr w.heap.size 2 _ _ hres
      have f3 := frozen_of_row wr w.heap.size 3 _ _ hres
      simp at r0 r1 r2 r3
      have HB : Hid (Below w.heap.size w wr) := hb
      clear hb hres
      go_wp2
      refine bodyPost_ret (v := .tuple #[zeroSite, .iface 59 (.pointer (some ⟨wr.heap.size + 1, 0, none⟩))]) ?_ rfl ⟨.inr ⟨HE.out, _, _, rfl⟩,
        (((((((HB.out.setCell (Nat.le_refl _) _).setCell (Nat.le_refl _) _).setCell (Nat.le_refl _) _).setCell (Nat.le_refl _) _).alloc (by simp [World.setCell]; omega) _).alloc (by simp [World.setCell]; omega) _)).drew⟩
      simp [results, Tryf.results8, go_sem, *]
end Go.Proofs.Qxb6630006aFmt
