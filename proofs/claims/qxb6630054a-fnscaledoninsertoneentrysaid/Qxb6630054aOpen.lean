import Derived.Test.Qxb6630054aSplits
import Derived.ProofKit
import Derived.OpenShut
import Derived.ShutString
import Derived.ChangeSlices
import Derived.ChangeSame
import Derived.Carry
import Derived.Deep.Slices
import Derived.Deep.SlicePairs
namespace Go.Proofs.Qxb6630054a
open Go.ChangeShapes Go.WideShapes Go.ChangeAt Go.RowKit
open Go.ChangeMaps (open_string shut_string)

theorem Try.laidOut : laidOutB Try.prog = true := by kernel_rfl
theorem Try.cells9 : Try.prog.cellsOf 9 = 1 := by kernel_rfl
theorem Try.cells3 : Try.prog.cellsOf 3 = 1 := by kernel_rfl
theorem Try.cells28 : Try.prog.cellsOf 28 = 2 := by kernel_rfl

theorem plain_addr {W : World} {a : Addr} {v : Value} (h : W.cell? (a.add 0) = some v) : ∃ b o, a = ⟨b, o, none⟩ := by
  obtain ⟨b, o, spot⟩ := a
  have hs : spot = none := by simpa [Addr.add] using World.cell?_spot h
  subst hs
  exact ⟨b, o, rfl⟩
/-- What a string's and an integer's value hold. -/
def strOf : Value → ByteArray | .string s => s | _ => ⟨#[]⟩
/-- A slice of entries that came in. -/
theorem open_ents {H : Type} {enc : TypeId × Value → H} {W : World} {fuel : Nat} {cs : List Value} {x : DataW H × List MemPlace} (hf : DataW.trod enc Try.prog W 0 (fun _ => true) true fuel 22 cs = some x) :
    ∃ ao len cap es, cs = [.slice ao len cap] ∧ Came W ao len cap es := by
  rcases Deep.open_slice_pairs Try.underlying22 Try.underlying28 Try.cells28 rfl rfl Try.cells9 Try.cells3 hf with ⟨rfl, -⟩ | ⟨a, len, cap, m, n, V0, V1, D0, D1, P0, P1, rfl, -, hl, hm, hz, -, hel⟩
  · exact ⟨none, 0, 0, [], rfl, fun i hi => by simp at hi, rfl, Nat.zero_le _, Nat.le_refl _, fun i hi => by simp at hi, fun _ => ⟨rfl, rfl⟩⟩
  · simp only [if_true] at hz
    have each : ∀ i, i < m → ∃ (s : ByteArray) (z : Int), V0 i = .string s ∧ V1 i = .int .i64 z ∧ s.size ≤ maxLen := by
      intro i hi
      obtain ⟨-, -, t0, t1⟩ := hel i hi
      obtain ⟨s, h1, -, hs⟩ := DataW.trod_string Try.underlying9 t0
      obtain ⟨z, h2, -, -⟩ := DataW.trod_int Try.underlying3 t1
      simp only [List.cons.injEq, and_true] at h1 h2
      exact ⟨s, z, h1, h2, hs⟩
    refine ⟨some a, len, cap, (List.range len).map (fun i => (strOf (V0 i), intOf (V1 i))), rfl, fun i hi => ?_, by simp, by omega, hl, fun i hi => ?_, fun h => by cases h⟩
    · have hi' : i < len := by simpa using hi
      obtain ⟨c0, c1, -, -⟩ := hel i (by omega)
      obtain ⟨s, z, e0, e1, -⟩ := each i (by omega)
      obtain ⟨b, o, rfl⟩ := plain_addr (v := V0 0) (by have q := (hel 0 (by omega)).1; rw [Nat.zero_mul] at q; exact q)
      rw [Addr.add_lit] at c0 c1
      refine ⟨b, o, rfl, ?_, ?_⟩
      · rw [c0]; simp [e0, strOf]
      · rw [show o + i * 2 + 1 = o + (i * 2 + 1) by omega, c1]; simp [e1, intOf]
    · have hi' : i < len := by simpa using hi
      obtain ⟨s, z, e0, e1, hs⟩ := each i (by omega)
      simpa [e0, strOf] using hs
end Go.Proofs.Qxb6630054a
