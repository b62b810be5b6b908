import Derived.Test.Qxb6630006aFmtBytes
import Derived.Test.Qxb6630006aFmtCards
import Derived.ProofKit
import Derived.OpenShut
import Derived.ChangeSlices
import Derived.ChangeSame
import Derived.ChangeMaps5
import Derived.JoinedOf
import Derived.Carry
import Derived.Deep.Slices
import Derived.SliceStrings
import Derived.Stop.JoinedAt
import Derived.Stop.Texts
import Derived.Stop.JoinedTold
import Derived.SizedLaws
import Derived.SevenToldRow
namespace Go.Proofs.Qxb6630006aFmt
open Go.ChangeShapes Go.WideShapes Go.ChangeAt Go.RowKit Go.Kit
open Go.ChangeMaps (open_string shut_string)
open Go.Extern.Stop Go.Stop Go.Extern

theorem Tryf.own : ownKnob Tryf.prog.godebug = none := by kernel_rfl
theorem Tryf.laidOut : laidOutB Tryf.pinned.checked.prog = true := by kernel_rfl
theorem Tryf.cells9 : Tryf.prog.cellsOf 9 = 1 := by kernel_rfl
theorem Tryf.cells22 : Tryf.prog.cellsOf 22 = 1 := by kernel_rfl

theorem plain_addr {W : World} {a : Addr} {v : Value} (h : W.cell? (a.add 0) = some v) : ∃ b o, a = ⟨b, o, none⟩ := by
  obtain ⟨b, o, spot⟩ := a
  have hs : spot = none := by simpa [Addr.add] using World.cell?_spot h
  subst hs
  exact ⟨b, o, rfl⟩
/-- A slice of strings that came in. -/
theorem open_strs_row {H : Type} {enc : TypeId × Value → H} {W : World} {fuel : Nat} {cs : List Value} {x : DataW H × List MemPlace} (hf : DataW.trod enc Tryf.prog W 0 (fun _ => true) true fuel 22 cs = some x) :
    ∃ ao len cap, cs = [.slice ao len cap] ∧ len ≤ maxLen ∧ StrRow W ao len := by
  rcases open_strings Tryf.underlying22 Tryf.underlying9 Tryf.cells9 hf with ⟨rfl, -⟩ | ⟨a, len, cap, ss, rfl, -, hl, hm, hz, -, hcell, hws⟩
  · exact ⟨none, 0, 0, rfl, Nat.zero_le _, fun i hi => by omega⟩
  · refine ⟨some a, len, cap, rfl, by omega, fun i hi => ?_⟩
    simp only [if_true] at hz
    have hc := hcell i (by omega)
    obtain ⟨b, off, rfl⟩ := plain_addr (hcell 0 (by omega))
    refine ⟨b, off, ss.getD i ByteArray.empty, rfl, by rw [Addr.add_lit] at hc; exact hc, ?_⟩
    rw [List.getD_eq_getElem?_getD, List.getElem?_eq_getElem (by omega)]
    exact hws _ (List.getElem_mem _)
/-- A slice of slices of strings that came in. -/
theorem open_nest_row {H : Type} {enc : TypeId × Value → H} {W : World} {fuel : Nat} {cs : List Value} {x : DataW H × List MemPlace} (hf : DataW.trod enc Tryf.prog W 0 (fun _ => true) true fuel 23 cs = some x) :
    ∃ ao len cap, cs = [.slice ao len cap] ∧ len ≤ maxLen ∧ NestRow W maxLen ao len := by
  rcases Deep.open_slice Tryf.underlying23 hf with ⟨rfl, -⟩ | ⟨a, len, cap, m, n, D, Pl, rfl, -, hl, hm, hz, -, hel⟩
  · exact ⟨none, 0, 0, rfl, Nat.zero_le _, fun i hi => by omega⟩
  · refine ⟨some a, len, cap, rfl, by omega, fun i hi => ?_⟩
    simp only [if_true] at hz
    have each : ∀ i, i < m → ∃ ao len' cap', W.cell? (a.add i) = some (.slice ao len' cap') ∧ len' ≤ maxLen ∧ StrRow W ao len' := by
      intro i hi
      obtain ⟨cs', h1, h2⟩ := hel i hi
      rw [Tryf.cells22, Nat.mul_one] at h1
      obtain ⟨ao, len', cap', rfl, hl', hr⟩ := open_strs_row h2
      refine ⟨ao, len', cap', ?_, hl', hr⟩
      simp only [World.cells?, Nat.zero_le, if_true, List.range_one, List.mapM_cons, List.mapM_nil] at h1
      have e0 : (a.add i).add 0 = a.add i := by simp [Addr.add]
      rw [e0] at h1
      cases hq : W.cell? (a.add i) with
      | none => simp [hq] at h1
      | some v => simp [hq] at h1; rw [h1]
    obtain ⟨ao, len', cap', hc, hl', hr⟩ := each i (by omega)
    obtain ⟨ao0, _, _, hc0, _⟩ := each 0 (by omega)
    obtain ⟨b, off, rfl⟩ := plain_addr hc0
    exact ⟨b, off, ao, len', cap', rfl, by rw [Addr.add_lit] at hc; exact hc, hl', hr⟩

theorem Tryf.stops : Tryf.pinned.checked.prog.stops = ["fmt.errorf"] := by kernel_rfl
theorem Tryf.stopKnobs : Tryf.pinned.checked.prog.stopKnobs = [] := by kernel_rfl
theorem Tryf.quiet (os : Os) : Stop.quiet Tryf.pinned.checked.prog os := by
  intro k hk
  rw [Tryf.stopKnobs] at hk
  cases hk

end Go.Proofs.Qxb6630006aFmt
