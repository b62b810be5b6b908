import Derived.Test.Qxb6628958aWalksD
import Derived.ProofKit
import Derived.OpenShut
import Derived.ChangeOld
import Derived.Below
namespace Go.Proofs.Qxb6628958a
open Go.ChangeShapes Go.WideShapes Go.ChangeAt Go.RowKit Plain

theorem Try.own : ownKnob Try.prog.godebug = none := by kernel_rfl
theorem Try.laidOut : laidOutB Try.prog = true := by kernel_rfl
theorem Try.cells5 : Try.prog.cellsOf 5 = 1 := by kernel_rfl
theorem Try.cells22 : Try.prog.cellsOf 22 = 32 := by kernel_rfl

/-- An array of 32 bytes that came in: its cells are 32 bytes. -/
theorem open_bytes {H : Type} {enc : TypeId × Value → H} {W : World} {base : Nat} {v : Value} {d : DataW H} {p : List MemPlace} (hv : Value.okWide Try.prog W .any base 22 v)
    (h : DataW.Trod enc Try.prog W 0 (fun _ => true) true 22 v d p) : ∃ l, v = .agg (cel l) ∧ Bytes l := by
  simp only [Value.okWide, Try.underlying22] at hv
  obtain ⟨cs, rfl, hs, _⟩ := hv
  rw [Try.cells22] at hs
  obtain ⟨fuel, hf⟩ := h
  obtain ⟨xs, m, _, _, _, _, hx⟩ := DataW.trod_array Try.underlying22 hf
  have hcell : ∀ i, i < 32 → ∃ n : Int, cs[i]? = some (.int .u8 n) ∧ 0 ≤ n ∧ n ≤ 255 := by
    intro i hi
    have h1 := hx i hi
    rw [Try.cells5, Nat.mul_one] at h1
    have hl : xs[i]? = some xs[i] := List.getElem?_eq_getElem (by omega)
    rw [hl] at h1
    obtain ⟨n, hn, _, hw⟩ := DataW.trod_int Try.underlying5 h1
    refine ⟨n, ?_, ?_⟩
    · have : ((cs.toList.drop i).take 1)[0]? = some (.int .u8 n) := by rw [show (Value.agg cs).cells.toList = cs.toList from rfl] at hn; rw [hn]; rfl
      simpa [List.getElem?_take, List.getElem?_drop] using this
    · have := bounds_u8 hw; omega
  refine ⟨cs.toList.map (fun v => match v with | .int _ n => n | _ => 0), ?_, by simp [hs], fun i => ?_⟩
  · congr 1
    apply Array.ext_getElem?
    intro i
    by_cases hi : i < 32
    · obtain ⟨n, hn, _⟩ := hcell i hi
      simp [cel, hn]
    · rw [Array.getElem?_eq_none (by omega), Array.getElem?_eq_none (by simp [cel]; omega)]
  · by_cases hi : i < 32
    · obtain ⟨n, hn, h0, h1⟩ := hcell i hi
      simp [List.getD_eq_getElem?_getD, hn, h0, h1]
    · rw [List.getD_eq_getElem?_getD, List.getElem?_eq_none (by simp; omega)]; simp

end Go.Proofs.Qxb6628958a
