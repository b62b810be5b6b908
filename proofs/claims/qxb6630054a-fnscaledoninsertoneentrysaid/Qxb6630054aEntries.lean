import Derived.Test.Qxb6630054aMem
import Derived.Lib.SliceRun
namespace Go.Proofs.Qxb6630054a
open Go.RowKit

theorem e22 (w : World) (a : Option Addr) (n c : Nat) : (binOp .eql 22 (.slice a n c) (.slice none 0 0)).run Try.prog w = .ok (.bool a.isNone) w := Lib.run_eql_slice_nil w 22 28 a n c 0 0 Try.underlying22
/-- It answers with a slice of n entries that holds es. -/
def EntAns (w : World) (es : List Ent) (n : Nat) (e : Ending) (w' : World) : Prop := ∃ ro rc, e = .returned (.slice ro n rc) ∧ EntRow w' ro es ∧ Below w.heap.size w w'

/-- Inside zzScaledOnEntries. -/
structure EntsRel (w wr : World) (n k : Nat) (es : List Ent) : Prop where
  fill : Fill2 wr w.heap.size n k es
  below : Below w.heap.size w wr
theorem ents_start {w w2 : World} {n : Nat} {xs : List Value} (ho : w2.ownsRow w.heap.size 30 2 (.slice (some ⟨w.heap.size, 0, none⟩) n n) n xs) (hg : w.grownBy w2 none) (es : List Ent) :
    EntsRel w w2 n 0 es := by
  obtain ⟨f, hf⟩ := rowIs_of_owns ho
  exact ⟨⟨f, hf, fun _ _ h => by omega⟩, (Below.refl _ _).grown hg (Nat.le_refl _) (fun _ h => by cases h)⟩
theorem EntsRel.step {w wr : World} {n k : Nat} {es : List Ent} (h : EntsRel w wr n k es) (hk : k < es.length) (x : Ent) (hx : x = es[k]) :
    EntsRel w ((wr.setCell ⟨w.heap.size, k * 2, none⟩ (.string x.1)).setCell ⟨w.heap.size, k * 2 + 1, none⟩ (.int .i64 x.2)) n (k + 1) es :=
  ⟨h.fill.step hk x hx, (h.below.setCell (by simp) _).setCell (by simp) _⟩
theorem EntsRel.drew {w wr : World} {n k : Nat} {es : List Ent} (h : EntsRel w wr n k es) : EntsRel w wr.drew n k es := ⟨h.fill, h.below.drew⟩

set_option maxHeartbeats 1000000 in
/-- zzScaledOnEntries, of a slice that is not nil. -/
theorem entries_some (b0 o0 n cap : Nat) (es : List Ent) (w : World) (hl : es.length = n) (hn : n ≤ 1048577) (hr : EntRow w (some ⟨b0, o0, none⟩) es) :
    Calls Try.prog 7 #[.slice (some ⟨b0, o0, none⟩) n cap] w (EntAns w es n) := by
  obtain ⟨i30, hi30, hz0, hz1, hz2⟩ := info_parts Try.info30
  have H30 := hid hi30
  have Z0 := hid hz0
  have Z1 := hid hz1
  have Z2 := hid hz2
  have HL := hid hl
  have HR := hid hr
  clear hi30 hz0 hz1 hz2 hl hr
  have h22 := e22
  go_enter Try.func7, Try.ntmps7
  go_wp2_with (at_make; refine wpList_make_full _ rfl _ _ 25 rfl w.heap.size 30 i30 _ 2 Try.underlying25 H30.out Z0.out Z1.out _ _ _ _ n rfl rfl rfl rfl (by rw [Z2.out]; omega) (by unfold maxLen; omega) (by simp) ?_; intro w2 hown hgrow; have HI := hid (ents_start hown hgrow es); clear hown hgrow)
  go_loopw [4] (fun v4 wr => ∃ k : Nat, k ≤ n ∧ v4 = .int .i64 k ∧ Hid (EntsRel w wr n k es)) (fun v4 _ => n - (intOf v4).toNat)
  case atStart => exact ⟨0, by omega, rfl, HI.out⟩
  case round =>
    obtain ⟨k, hk, rfl, HN⟩ := hrel
    have hG := HN.out.fill.lt
    by_cases h : k < n
    · have hke : k < es.length := by have := HL.out; omega
      obtain ⟨b, o, he, c0, c1⟩ := (HR.out.below HN.out.below) k hke
      simp only [Option.some.injEq, Addr.mk.injEq, and_true] at he
      obtain ⟨rfl, rfl⟩ := he
      obtain ⟨x, hx⟩ : ∃ x, x = es[k] := ⟨_, rfl⟩
      rw [← hx] at c0 c1
      have HX := hid hx
      obtain ⟨old0, hold0⟩ := HN.out.fill.spot (k * 2) (by omega)
      obtain ⟨old1, hold1⟩ := HN.out.fill.spot (k * 2 + 1) (by omega)
      have hfr0 := HN.out.fill.frozen (k * 2)
      have hfr1 := HN.out.fill.frozen (k * 2 + 1)
      clear hx
      go_wp2
      go_region
      go_wp2
      go_roundw
      case rel => exact ⟨k + 1, by omega, by go_num, (HN.out.step hke x HX.out).drew⟩
      case measure => simp [intOf]; omega
    · obtain rfl : k = n := by omega
      go_wp2
      go_ret
      exact ⟨_, _, rfl, (HL.out ▸ HN.out.fill : Fill2 wr _ _ es.length es).row (by have := HL.out; omega), HN.out.below⟩
theorem entries_nil (w : World) : Calls Try.prog 7 #[.slice none 0 0] w (EntAns w [] 0) := by
  have h22 := e22
  go_enter Try.func7, Try.ntmps7
  go_wp2
  go_ret
  exact ⟨_, _, rfl, fun _ h => by simp at h, Below.refl _ _⟩
end Go.Proofs.Qxb6630054a
