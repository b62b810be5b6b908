import Derived.Test.Qxb6628958aWalksE
import Derived.ProofKit
import Derived.OpenShut
import Derived.ChangeOld
import Derived.Below
namespace Go.Proofs.Qxb6628958a
open Go.ChangeShapes Go.WideShapes Go.ChangeAt Go.RowKit Plain

theorem Try.own : ownKnob Try.prog.godebug = none := by kernel_rfl
theorem Try.laidOut : laidOutB Try.prog = true := by kernel_rfl
theorem Try.cells5 : Try.prog.cellsOf 5 = 1 := by kernel_rfl
theorem Try.cells22 : Try.prog.cellsOf 22 = 32 := by kernel_rfl

/-- An array of 32 bytes that came in: its cells are 32 bytes. -/
theorem open_bytes {H : Type} {enc : TypeId × Value → H} {W : World} {base : Nat} {v : Value} {d : DataW H} {p : List MemPlace} (hv : Value.okWide Try.prog W .any base 22 v)
    (h : DataW.Trod enc Try.prog W 0 (fun _ => true) true 22 v d p) : ∃ l, v = .agg (cel l) ∧ Bytes l := by
  simp only [Value.okWide, Try.underlying22] at hv
  obtain ⟨cs, rfl, hs, _⟩ := hv
  rw [Try.cells22] at hs
  obtain ⟨fuel, hf⟩ := h
  obtain ⟨xs, m, _, _, _, _, hx⟩ := DataW.trod_array Try.underlying22 hf
  have hcell : ∀ i, i < 32 → ∃ n : Int, cs[i]? = some (.int .u8 n) ∧ 0 ≤ n ∧ n ≤ 255 := by
    intro i hi
    have h1 := hx i hi
    rw [Try.cells5, Nat.mul_one] at h1
    have hl : xs[i]? = some xs[i] := List.getElem?_eq_getElem (by omega)
    rw [hl] at h1
    obtain ⟨n, hn, _, hw⟩ := DataW.trod_int Try.underlying5 h1
    refine ⟨n, ?_, ?_⟩
    · have : ((cs.toList.drop i).take 1)[0]? = some (.int .u8 n) := by rw [show (Value.agg cs).cells.toList = cs.toList from rfl] at hn; rw [hn]; rfl
      simpa [List.getElem?_take, List.getElem?_drop] using this
    · have := bounds_u8 hw; omega
  refine ⟨cs.toList.map (fun v => match v with | .int _ n => n | _ => 0), ?_, by simp [hs], fun i => ?_⟩
  · congr 1
    apply Array.ext_getElem?
    intro i
    by_cases hi : i < 32
    · obtain ⟨n, hn, _⟩ := hcell i hi
      simp [cel, hn]
    · rw [Array.getElem?_eq_none (by omega), Array.getElem?_eq_none (by simp [cel]; omega)]
  · by_cases hi : i < 32
    · obtain ⟨n, hn, h0, h1⟩ := hcell i hi
      simp [List.getD_eq_getElem?_getD, hn, h0, h1]
    · rw [List.getD_eq_getElem?_getD, List.getElem?_eq_none (by simp; omega)]; simp

set_option maxRecDepth 100000 in
theorem sum_lifted (os : Os) (started : os.Started) (H : Type) (enc : TypeId × Value → H) :
    ReturnsInHanded {} Try.checked os 3 .any (Rows.fnAddPow2IsExactSumAndDoublesSpec.pre6 enc Try.prog Try.f3 Rows.fnAddPow2IsExactSumAndDoublesRow.domain false) (Rows.fnAddPow2IsExactSumAndDoublesSpec.post enc Try.prog Try.f3 false true false false) := by
  refine returnsInHanded_of_change (C := Try.checked) Try.own started (by kernel_rfl) Try.func3
    (ChangeSpec.witness6 (enc := enc) (C := Try.checked) false ⟨#[], #[.agg (Array.replicate 32 (.int .u8 0)), .int .i64 0], []⟩ 8 (by kernel_rfl) (by kernel_rfl) (by kernel_rfl) (by kernel_rfl)) ?_
  intro W base args ds gs before hval0 hW hcnd _
  have hval : ∀ (j : Nat) t v, Try.f3.params[j]? = some t → args[j]? = some v → Value.okWide Try.prog W .any base t v := hval0
  have hW' := hW
  obtain ⟨p, q, hA0, hV, rfl, hfz, hnd⟩ := hW
  have hA : DataW.TrodAll enc Try.prog W 0 (fun _ => true) true Try.f3.params.toList args.toList ds p := hA0
  rw [Try.params3] at hA hval
  obtain ⟨v0, vs0, d0, ds0, p0, q0, hargs, rfl, rfl, h0, r0⟩ := trodAll_cons hA
  obtain ⟨v1, vs1, d1, ds1, p1, q1, rfl, rfl, rfl, h1, r1⟩ := trodAll_cons r0
  obtain ⟨rfl, rfl, rfl⟩ := trodAll_nil r1
  obtain rfl : args = #[v0, v1] := by cases args; simp_all
  obtain ⟨rfl, rfl⟩ := trodVars_none hV
  obtain ⟨l, rfl, hl⟩ := open_bytes (hval 0 22 v0 rfl rfl) h0
  have k0 := h0
  have lt0 : ∀ x ∈ p0, x.block < W.heap.size := by obtain ⟨m, hm⟩ := k0; exact DataW.trod_lt m _ _ _ hm
  obtain ⟨a1, rfl, rfl, rfl, w1⟩ := open_int Try.underlying3 (hval 1 3 v1 rfl rfl) h1
  clear hA0 hval0
  refine (law_sum_any l a1 W hl).mono fun e W' ⟨he, bel⟩ => ?_
  subst he
  exact ⟨_, rfl, _, _, _, [], _, [], hW', trodAll_mk1 (shut_bool Try.underlying4 _), (trodAll_cons_mk (Below.trod Try.laidOut (by kernel_rfl) (of_decide_eq_true (by kernel_rfl)) k0 bel lt0) (trodAll_cons_mk (shut_int Try.underlying3 w1) trodAll_mk0)), rfl, bel.frame _, fun h => by cases h⟩

/-- ████ THE STATEMENT ████ -/
theorem exactSum_holds : Rows.FnAddPow2IsExactSumAndDoublesSaid :=
  OpenClaim.holds_of_wide 3 Try.f3 rfl rfl rfl rfl rfl rfl rfl ⟨rfl, rfl, rfl, rfl, rfl⟩ rfl rfl rfl rfl rfl (by kernel_rfl) Try.func3 (by kernel_rfl)
    (of_decide_eq_true (by kernel_rfl)) (by unfold Func.isWrapper; first | (rw [if_pos (by decide +kernel)]; kernel_rfl) | (rw [if_neg (by decide +kernel)]; exact ⟨rfl, rfl⟩))
    (fun os started H enc _ => sum_lifted os started H enc)
#print axioms exactSum_holds
end Go.Proofs.Qxb6628958a
