import Derived.Test.Qxb6628958aRows
import Derived.WalkKit
import Derived.WalkSpells
import Derived.WalkLawsBesides
import Derived.Deep.MidRow
import Derived.Deep.WholeRow
import Derived.Deep.QuietTactic
import Derived.BigQuiet
import Derived.Test.Qxb6628958aPlain
namespace Go.Proofs.Qxb6628958a
open Go.RowKit Plain

/-- The cells of an array of bytes. -/
def cel (l : List Int) : Array Value := (l.map (Value.int .u8)).toArray
theorem cel_size (l : List Int) : (cel l).size = l.length := by simp [cel]
theorem cel_get (l : List Int) (i : Nat) (h : i < l.length) : (cel l)[i]? = some (.int .u8 (l.getD i 0)) := by
  simp [cel, List.getD_eq_getElem?_getD, h]
theorem cel_set (l : List Int) (i : Nat) (x : Int) : (cel l).setIfInBounds i (.int .u8 x) = cel (l.set i x) := by
  simp [cel, List.map_set]
theorem cel_one (l : List Int) : (cel l).all (·.oneCell') = true := by
  rw [Array.all_eq_true_iff_forall_mem]; intro v hv; simp [cel] at hv; obtain ⟨x, _, rfl⟩ := hv; rfl
theorem Try.size22 : (Try.prog.info? 22).map (·.size) = some 32 := by kernel_rfl
theorem Try.size23 : (Try.prog.info? 23).map (·.size) = some 32 := by kernel_rfl
theorem size22 {l : List Int} (h : Bytes l) : (Try.prog.info? 22).map (·.size) = some (cel l).size := by rw [cel_size, h.1]; exact Try.size22
theorem size23 {l : List Int} (h : Bytes l) : (Try.prog.info? 23).map (·.size) = some (cel l).size := by rw [cel_size, h.1]; exact Try.size23
theorem Below.setRow {B : Nat} {a w : World} (h : Below B a w) {g : Nat} (hp : B ≤ g) (cs : Array Value) : Below B a (w.setRow g cs) :=
  h.trans ⟨rfl, rfl, rfl, by simp, fun k hk => setRow_other w g k cs (by omega)⟩

set_option maxHeartbeats 400000 in
theorem add_any (l : List Int) (k : Nat) (w : World) (hl : Bytes l) (hk : k ≤ 255) :
    Calls Try.prog 5 #[.agg (cel l), .int .i64 k] w fun e w' => ∃ m, e = .returned (.agg (cel m)) ∧ Bytes m ∧ val m = (val l + 2 ^ k) % top ∧ Below w.heap.size w w' := by
  have hp := two_le (k % 8) (by omega)
  have hw64 : wrap64 (2 ^ (k % 8)) = 2 ^ (k % 8) := by unfold wrap64; omega
  go_enter Try.func5, Try.ntmps5
  go_wp2
  go_loopw [5, 6] (fun vc vi wr => ∃ (ii c : Int) (m : List Int), -1 ≤ ii ∧ ii ≤ 31 ∧ vc = .int .i64 c ∧ vi = .int .i64 ii ∧ 0 ≤ c ∧ c ≤ 128 ∧ Bytes m ∧
      wr.heap[w.heap.size]? = some (.cells (cel m) 23 (0, 0)) ∧ wr.heap[w.heap.size + 1]? = some (.cells (cel zeros) 23 (0, 0)) ∧ Hid (val m + c * 256 ^ (31 - ii).toNat = val l + 2 ^ k) ∧ Below w.heap.size w wr)
    (fun _ vi _ => (intOf vi + 1).toNat)
  case atStart =>
    refine ⟨31 - k / 8, 2 ^ (k % 8), l, by omega, by omega, rfl, rfl, by omega, by omega, hl, heap_alloc2_old _ _ _, heap_alloc2_new _ _ _, ?_, ?_⟩
    · show _ = _
      rw [show (31 - (31 - (k : Int) / 8)).toNat = k / 8 by omega, start_pow]
    · exact ((Below.refl _ _).alloc (Nat.le_refl _) _).alloc (by simp) _
  case round =>
    obtain ⟨ii, c, m, hi1, hi2, rfl, rfl, hc0, hc1, hm, hA, hB, HV, hbel⟩ := hrel
    by_cases h0 : 0 ≤ ii ∧ c ≠ 0
    · obtain ⟨h0, hc⟩ := h0
      obtain ⟨n, rfl⟩ := Int.eq_ofNat_of_zero_le h0
      obtain ⟨b, HB⟩ : ∃ b, Hid (b = m.getD n 0) := ⟨_, rfl⟩
      have hcell : wr.cell? ⟨w.heap.size, n, none⟩ = some (.int .u8 b) := by
        rw [cell_of_row wr _ n _ _ _ hA, cel_get m n (by rw [hm.1]; omega), HB.out]
      have hfr : wr.frozen? ⟨w.heap.size, n, none⟩ = false := frozen_of_row wr _ n _ _ hA
      have hb0 : 0 ≤ b := by rw [HB.out]; exact (hm.2 n).1
      have hb1 : b ≤ 255 := by rw [HB.out]; exact (hm.2 n).2
      have HA : Hid _ := hA
      have HB' : Hid _ := hB
      have HM : Hid _ := hm
      have HC : Hid _ := hc
      have hcb : (c != 0) = true := by simpa using hc
      clear hA hB hm hc
      go_wp2
      go_roundw
      case rel =>
        refine ⟨n - 1, (b + c) / 256, m.set n ((b + c) % 256), by omega, by omega, rfl, rfl, by omega, by omega, bytes_set HM.out _ _ (by omega) (by omega), ?_, ?_, ?_, ?_⟩
        · rw [heap_setCell_same _ _ _ _ _ _ HA.out, cel_set]
        · rw [heap_setCell_other _ _ _ _ (by simp)]; exact HB'.out
        · show _ = _
          have e := add_round m (31 - n) c HM.out.1 (by omega)
          rw [show 31 - (31 - n) = n by omega, ← HB.out] at e
          rw [show (31 - ((n : Int) - 1)).toNat = 31 - n + 1 by omega, e, show 31 - n = (31 - (n : Int)).toNat by omega]
          exact HV.out
        · exact hbel.setCell (by simp) _
      case measure => simp [intOf]
    · have HD : Hid (c = 0 ∨ (31 - ii).toNat = 32) := by
        show _ ∨ _
        omega
      have HA : Hid _ := hA
      have HB : Hid _ := hB
      have HM : Hid _ := hm
      have hs : (cel zeros).size = (cel m).size := by rw [cel_size, cel_size, hm.1]; rfl
      clear hA hB hm
      by_cases h1 : 0 ≤ ii
      · have hcb : (c != 0) = false := by simp; omega
        clear h0
        go_wp2_with (first
          | (refine wpList_load_row rfl 23 _ rfl w.heap.size rfl 23 (cel m) (0, 0) _ HA.out Try.underlying23 rfl (size23 HM.out) ?_)
          | (refine wpList_store_row rfl 23 _ _ rfl (w.heap.size + 1) (cel m) rfl rfl 23 (cel zeros) HB.out (size23 HM.out) hs (cel_one m) ?_))
        exact bodyPost_ret (v := .agg (cel m)) (results_cell_row Try.results5 _ _ (w.heap.size + 1) 23 (cel m) (0, 0) _ rfl (setRow_heap _ _ _ _ _ _ HB.out) Try.underlying23 rfl (size23 HM.out)) rfl
          ⟨m, rfl, HM.out, add_done HM.out HV.out HD.out, Below.setRow hbel (by omega) _⟩
      · have hii : ii < 0 := by omega
        clear h0
        go_wp2_with (first
          | (refine wpList_load_row rfl 23 _ rfl w.heap.size rfl 23 (cel m) (0, 0) _ HA.out Try.underlying23 rfl (size23 HM.out) ?_)
          | (refine wpList_store_row rfl 23 _ _ rfl (w.heap.size + 1) (cel m) rfl rfl 23 (cel zeros) HB.out (size23 HM.out) hs (cel_one m) ?_))
        exact bodyPost_ret (v := .agg (cel m)) (results_cell_row Try.results5 _ _ (w.heap.size + 1) 23 (cel m) (0, 0) _ rfl (setRow_heap _ _ _ _ _ _ HB.out) Try.underlying23 rfl (size23 HM.out)) rfl
          ⟨m, rfl, HM.out, add_done HM.out HV.out HD.out, Below.setRow hbel (by omega) _⟩
end Go.Proofs.Qxb6628958a
