import Derived.Test.Qxb6630006aFmtRefuses
import Derived.Test.Qxb6630006aFmtOpen
namespace Go.Proofs.Qxb6630006aFmt
open Go.ChangeShapes Go.WideShapes Go.ChangeAt Go.RowKit Go.Kit
open Go.ChangeMaps (open_string shut_string)
open Go.Extern.Stop Go.Stop Go.Extern

set_option maxRecDepth 100000 in
theorem refuses_lifted (os : Os) (started : os.Started) (H : Type) (enc : TypeId × Value → H) :
    ReturnsInTold none {} Tryf.checked os 4 .any Input.okWide ((OpenSpec.ofChange Rows.fnSiteOfRefusesARemovedNameAndFindsAPresentOneSpec).preRow enc Tryf.prog Tryf.f4 [] false [])
      (fun F => ((OpenSpec.ofChange Rows.fnSiteOfRefusesARemovedNameAndFindsAPresentOneSpec).at F).post enc Tryf.prog Tryf.f4 false true false false) (aloneAtReturn Tryf.prog) nothingAlways := by
  refine returnsInTold_of_row (C := Tryf.checked) (s := OpenSpec.ofChange Rows.fnSiteOfRefusesARemovedNameAndFindsAPresentOneSpec) (by kernel_rfl) Tryf.own started (by kernel_rfl) Tryf.func4
    (OpenSpec.witness_stopped (enc := enc) (C := Tryf.checked) false ⟨#[], #[.string ⟨#[]⟩, .slice none 0 0, .slice none 0 0, .slice none 0 0, .slice none 0 0, .string ⟨#[]⟩], []⟩ 8 (by kernel_rfl) (by kernel_rfl) (by kernel_rfl) (by kernel_rfl)) ?_
  intro F W base args ds gs before _ hF hval0 hW _ _ hsz _ _
  have hval : ∀ (j : Nat) t v, Tryf.f4.params[j]? = some t → args[j]? = some v → Value.okWide Tryf.prog W .any base t v := hval0
  have hW' := hW
  obtain ⟨p, q, hA0, hV, rfl, _, _⟩ := hW
  have hA : DataW.TrodAll enc Tryf.prog W 0 (fun _ => true) true Tryf.f4.params.toList args.toList ds p := hA0
  rw [Tryf.params4] at hA hval
  obtain ⟨v0, vs0, d0, ds0, p0, q0, hargs, rfl, rfl, h0, r0⟩ := trodAll_cons hA
  obtain ⟨v1, vs1, d1, ds1, p1, q1, rfl, rfl, rfl, h1, r1⟩ := trodAll_cons r0
  obtain ⟨v2, vs2, d2, ds2, p2, q2, rfl, rfl, rfl, h2, r2⟩ := trodAll_cons r1
  obtain ⟨v3, vs3, d3, ds3, p3, q3, rfl, rfl, rfl, h3, r3⟩ := trodAll_cons r2
  obtain ⟨v4, vs4, d4, ds4, p4, q4, rfl, rfl, rfl, h4, r4⟩ := trodAll_cons r3
  obtain ⟨v5, vs5, d5, ds5, p5, q5, rfl, rfl, rfl, h5, r5⟩ := trodAll_cons r4
  obtain ⟨rfl, rfl, rfl⟩ := trodAll_nil r5
  obtain rfl : args = #[v0, v1, v2, v3, v4, v5] := by cases args; simp_all
  obtain ⟨rfl, rfl⟩ := trodVars_none hV
  have k1 := h1
  have k2 := h2
  have k3 := h3
  have k4 := h4
  have lt1 : ∀ x ∈ p1, x.block < W.heap.size := by obtain ⟨m, hm⟩ := k1; exact DataW.trod_lt m _ _ _ hm
  have lt2 : ∀ x ∈ p2, x.block < W.heap.size := by obtain ⟨m, hm⟩ := k2; exact DataW.trod_lt m _ _ _ hm
  have lt3 : ∀ x ∈ p3, x.block < W.heap.size := by obtain ⟨m, hm⟩ := k3; exact DataW.trod_lt m _ _ _ hm
  have lt4 : ∀ x ∈ p4, x.block < W.heap.size := by obtain ⟨m, hm⟩ := k4; exact DataW.trod_lt m _ _ _ hm
  obtain ⟨dir, rfl, rfl, rfl, hdir⟩ := open_string Tryf.underlying9 (hval 0 9 v0 rfl rfl) h0
  obtain ⟨a1, n1, c1, rfl⟩ := okWide_slice Tryf.underlying22 (hval 1 22 v1 rfl rfl)
  obtain ⟨a2, n2, c2, rfl⟩ := okWide_slice Tryf.underlying22 (hval 2 22 v2 rfl rfl)
  obtain ⟨a3, n3, c3, rfl⟩ := okWide_slice Tryf.underlying23 (hval 3 23 v3 rfl rfl)
  obtain ⟨a4, n4, c4, rfl⟩ := okWide_slice Tryf.underlying23 (hval 4 23 v4 rfl rfl)
  obtain ⟨name, rfl, rfl, rfl, hname⟩ := open_string Tryf.underlying9 (hval 5 9 v5 rfl rfl) h5
  have hc : Came W maxLen a1 a2 a3 a4 n1 n2 n3 n4 := by
    obtain ⟨f1, g1⟩ := h1
    obtain ⟨f2, g2⟩ := h2
    obtain ⟨f3, g3⟩ := h3
    obtain ⟨f4, g4⟩ := h4
    obtain ⟨b1, m1, e1, x1, l1, s1⟩ := open_strs_row g1
    obtain ⟨b2, m2, e2, x2, l2, s2⟩ := open_strs_row g2
    obtain ⟨b3, m3, e3, x3, l3, s3⟩ := open_nest_row g3
    obtain ⟨b4, m4, e4, x4, l4, s4⟩ := open_nest_row g4
    simp [Value.cells] at x1 x2 x3 x4
    obtain ⟨rfl, rfl, rfl⟩ := x1
    obtain ⟨rfl, rfl, rfl⟩ := x2
    obtain ⟨rfl, rfl, rfl⟩ := x3
    obtain ⟨rfl, rfl, rfl⟩ := x4
    exact ⟨l1, l2, l3, l4, s1, s2, s3, s4⟩
  clear hA0 hval0
  refine (refuses_walk F.told dir name a1 a2 a3 a4 n1 n2 n3 n4 c1 c2 c3 c4 W hF hdir hname hc).mono fun e W' ⟨he, bel⟩ => ?_
  subst he
  exact ⟨_, rfl, _, _, _, [], _, [], hW', trodAll_mk1 (shut_bool Tryf.underlying4 _),
    (trodAll_cons_mk (shut_string Tryf.underlying9 hdir) (trodAll_cons_mk (Below.trod Tryf.laidOut (by kernel_rfl) (of_decide_eq_true (by kernel_rfl)) k1 bel lt1) (trodAll_cons_mk (Below.trod Tryf.laidOut (by kernel_rfl) (of_decide_eq_true (by kernel_rfl)) k2 bel lt2)
      (trodAll_cons_mk (Below.trod Tryf.laidOut (by kernel_rfl) (of_decide_eq_true (by kernel_rfl)) k3 bel lt3) (trodAll_cons_mk (Below.trod Tryf.laidOut (by kernel_rfl) (of_decide_eq_true (by kernel_rfl)) k4 bel lt4) (trodAll_cons_mk (shut_string Tryf.underlying9 hname) trodAll_mk0)))))), rfl, bel.frame _, fun h => by cases h⟩

/-- ████ THE STATEMENT ████ -/
theorem refuses_holds : Rows.FnSiteOfRefusesARemovedNameAndFindsAPresentOneToldSaid :=
  Claim7.holds_of_told_any 4 Tryf.f4 "fmt.errorf" [] [] _ _ _ (by kernel_rfl) rfl rfl rfl Tryf.laidOut (by kernel_rfl) rfl ⟨rfl, rfl, rfl, rfl, rfl, rfl, rfl⟩ rfl rfl (by kernel_rfl) (by kernel_rfl) Tryf.func4 (by kernel_rfl)
    (of_decide_eq_true (by kernel_rfl)) (of_decide_eq_true (by kernel_rfl)) Tryf.stops.symm rfl Tryf.stopKnobs.symm (by kernel_rfl)
    (by kernel_rfl) (by kernel_rfl) (by kernel_rfl) (by kernel_rfl) (by kernel_rfl) (by kernel_rfl) (by kernel_rfl) (by kernel_rfl) (by kernel_rfl) rfl (by kernel_rfl) rfl rfl
    rfl rfl
    rfl (by kernel_rfl) (by kernel_rfl) (by kernel_rfl) (by decide) (by kernel_rfl)
    (OpenClaim.moreEntering_of (by kernel_rfl) (by kernel_rfl) (by kernel_rfl) (by kernel_rfl) (by kernel_rfl) (by kernel_rfl) (by kernel_rfl) (by kernel_rfl) (by kernel_rfl) (by kernel_rfl))
    ⟨_, WideRow.started_initial, Tryf.quiet _⟩
    (fun os started _ H enc _ => refuses_lifted os started H enc)
#print axioms refuses_holds
end Go.Proofs.Qxb6630006aFmt
