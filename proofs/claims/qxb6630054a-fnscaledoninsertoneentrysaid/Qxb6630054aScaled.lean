import Derived.Test.Qxb6630054aMem
namespace Go.Proofs.Qxb6630054a
open Go.RowKit

/-- A policy as a value. -/
abbrev policy (m : ByteArray) (i1 i2 i3 i4 i5 i6 : Int) (p : ByteArray) (v : Value) : Value := .agg #[.string m, .int .i64 i1, .int .i64 i2, .int .i64 i3, .int .i64 i4, .int .i64 i5, .int .i64 i6, .string p, v]
/-- zzScaledOnPolicy. -/
theorem policy_any (m : ByteArray) (i1 i2 i3 i4 i5 i6 : Int) (p : ByteArray) (ao : Option Addr) (n cap : Nat) (w : World) :
    Calls Try.prog 8 #[.string m, .int .i64 i1, .int .i64 i2, .int .i64 i3, .int .i64 i4, .int .i64 i5, .int .i64 i6, .string p, .slice ao n cap] w fun e w' => e = .returned (policy m i1 i2 i3 i4 i5 i6 p (.slice ao n cap)) ∧ Below w.heap.size w w' := by
  go_enter Try.func8, Try.ntmps8
  go_wp2
  refine bodyPost_ret (v := policy m i1 i2 i3 i4 i5 i6 p (.slice ao n cap)) ?_ rfl ⟨rfl, (Below.refl _ _).alloc (Nat.le_refl _) _⟩
  simp [results, go_sem, *]

/-- It answers with a slice of strings that holds ss. -/
def StrAns (w : World) (ss : List ByteArray) (n : Nat) (e : Ending) (w' : World) : Prop := ∃ so sc, e = .returned (.slice so n sc) ∧ StrRow w' so ss ∧ Below w.heap.size w w'

theorem scaled_nil (m : ByteArray) (i1 i2 i3 i4 i5 i6 : Int) (p : ByteArray) (ao : Option Addr) (cap : Nat) (w : World) :
    Calls Try.prog 9 #[policy m i1 i2 i3 i4 i5 i6 p (.slice ao 0 cap)] w (StrAns w [m] 1) := by
  go_enter Try.func9, Try.ntmps9
  go_wp2
  go_ret
  refine ⟨_, _, rfl, ?_, ((Below.refl _ _).alloc (Nat.le_refl _) _).alloc (by simp) _⟩
  intro i hi
  obtain rfl : i = 0 := by simpa using hi
  exact ⟨_, _, rfl, by simp⟩

/-- The cells of a policy. -/
abbrev policyC (m : ByteArray) (i1 i2 i3 i4 i5 i6 : Int) (p : ByteArray) (v : Value) : Array Value := #[.string m, .int .i64 i1, .int .i64 i2, .int .i64 i3, .int .i64 i4, .int .i64 i5, .int .i64 i6, .string p, v]
/-- Inside ScaledOn: the policy's own block, and the names behind it. -/
structure NamesRel (w wr : World) (cs : Array Value) (n k : Nat) (ss : List ByteArray) : Prop where
  fill : Fill1 wr (w.heap.size + 1) n k ss
  keep : Below (w.heap.size + 1) (w.alloc (.cells cs 32)) wr
theorem NamesRel.below {w wr : World} {cs : Array Value} {n k : Nat} {ss : List ByteArray} (h : NamesRel w wr cs n k ss) : Below w.heap.size w wr :=
  ((Below.refl _ _).alloc (Nat.le_refl _) _).trans (h.keep.mono (by omega))
theorem NamesRel.box {w wr : World} {cs : Array Value} {n k : Nat} {ss : List ByteArray} (h : NamesRel w wr cs n k ss) (j : Nat) (v : Value) (hj : cs[j]? = some v) : wr.cell? ⟨w.heap.size, j, none⟩ = some v := by
  rw [h.keep.cell (p := ⟨w.heap.size, j, none⟩) (by simp)]
  simpa using hj
theorem names_start {w w2 : World} {cs : Array Value} {n : Nat} {xs : List Value} (ho : w2.ownsRow (w.heap.size + 1) 9 1 (.slice (some ⟨(w.alloc (.cells cs 32)).heap.size, 0, none⟩) n n) n xs) (hg : (w.alloc (.cells cs 32)).grownBy w2 none) (ss : List ByteArray) :
    NamesRel w w2 cs n 0 ss := by
  obtain ⟨f, hf⟩ := rowIs_of_owns ho
  refine ⟨⟨f, by simpa using hf, fun _ _ h => by omega⟩, (Below.refl _ _).grown hg (by simp) (fun _ h => by cases h)⟩
theorem NamesRel.step {w wr : World} {cs : Array Value} {n k : Nat} {ss : List ByteArray} (h : NamesRel w wr cs n k ss) (hk : k < ss.length) (x : ByteArray) (hx : x = ss[k]) {o : Obj} :
    NamesRel w ((wr.setCell ⟨w.heap.size + 1, k, none⟩ (.string x)).alloc o) cs n (k + 1) ss :=
  ⟨(h.fill.step hk x hx).alloc o, (h.keep.setCell (by simp) _).alloc (by have := (h.fill.step hk x hx).lt; omega) o⟩

set_option maxHeartbeats 1000000 in
theorem scaled_some (m : ByteArray) (i1 i2 i3 i4 i5 i6 : Int) (p : ByteArray) (ao : Option Addr) (n cap : Nat) (es : List Ent) (w : World) (hl : es.length = n) (h0 : 0 < n) (hn : n ≤ 1048577) (hr : EntRow w ao es) :
    Calls Try.prog 9 #[policy m i1 i2 i3 i4 i5 i6 p (.slice ao n cap)] w (StrAns w (es.map (·.1)) n) := by
  obtain ⟨i9, hi9, hz0, hz1, hz2⟩ := info_parts Try.info9
  have H9 := hid hi9
  have Z0 := hid hz0
  have Z1 := hid hz1
  have Z2 := hid hz2
  have HL := hid hl
  have HR := hid hr
  clear hi9 hz0 hz1 hz2 hl hr
  go_enter Try.func9, Try.ntmps9
  go_wp2_with (at_make; refine wpList_make_full _ rfl _ _ 34 rfl (w.heap.size + 1) 9 i9 _ 1 Try.underlying34 H9.out Z0.out Z1.out _ _ _ _ n rfl rfl rfl rfl (by rw [Z2.out]; omega) (by unfold maxLen; omega) (by simp) ?_; intro w2 hown hgrow; have HI := hid (names_start hown hgrow (es.map (·.1))); clear hown hgrow; have c8 : w2.cell? ⟨w.heap.size, 8, none⟩ = some (.slice ao n cap) := by exact HI.out.box 8 _ rfl)
  go_loopw [20] (fun v20 wr => ∃ k : Nat, k ≤ n ∧ v20 = .int .i64 k ∧ Hid (NamesRel w wr (policyC m i1 i2 i3 i4 i5 i6 p (.slice ao n cap)) n k (es.map (·.1)))) (fun v20 _ => n - (intOf v20).toNat)
  case atStart => exact ⟨0, by omega, rfl, HI.out⟩
  case round =>
    obtain ⟨k, hk, rfl, HN⟩ := hrel
    have hG := HN.out.fill.lt
    by_cases h : k < n
    · have hke : k < es.length := by have := HL.out; omega
      obtain ⟨b, o, rfl, c0, c1⟩ := (HR.out.below HN.out.below) k hke
      obtain ⟨x, hx⟩ : ∃ x, x = es[k] := ⟨_, rfl⟩
      rw [← hx] at c0 c1
      have HX := hid hx
      obtain ⟨old, hold⟩ := HN.out.fill.spot k h
      have hfr := HN.out.fill.frozen k
      clear hx
      go_wp2
      go_roundw
      case rel => exact ⟨k + 1, by omega, by go_num, HN.out.step (by simp; omega) x.1 (by rw [HX.out]; simp)⟩
      case measure => simp [intOf]; omega
    · obtain rfl : k = n := by omega
      go_wp2
      go_ret
      exact ⟨_, _, rfl, HN.out.fill.row (by simp [HL.out]), HN.out.below⟩
end Go.Proofs.Qxb6630054a
