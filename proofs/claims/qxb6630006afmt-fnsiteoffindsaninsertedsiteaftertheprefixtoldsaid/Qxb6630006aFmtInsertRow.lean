import Derived.Test.Qxb6630006aFmtInsert
import Derived.Test.Qxb6630006aFmtOpen
namespace Go.Proofs.Qxb6630006aFmt
open Go.ChangeShapes Go.WideShapes Go.ChangeAt Go.RowKit Go.Kit
open Go.ChangeMaps (open_string shut_string)
open Go.Extern.Stop Go.Stop Go.Extern

set_option maxRecDepth 100000 in
set_option maxHeartbeats 4000000 in
theorem insert_out (dir name ns nr : ByteArray) (a1 a2 a3 a4 a5 : Option Addr) (n1 n2 n3 n4 n5 c1 c2 c3 c4 c5 : Nat) (kk jj : Int) (w : World) (hd : dir.size ≤ maxLen) (hn : name.size ≤ maxLen) (hns : ns.size ≤ maxLen) (hnr : nr.size ≤ maxLen)
    (h : Came w maxLen a1 a2 a3 a4 n1 n2 n3 n4) (h5 : n5 ≤ maxLen) (r5 : StrRow w a5 n5) (ho : kk < 0 ∨ (n1 : Int) < kk ∨ jj < 0 ∨ (n5 : Int) < jj) :
    Calls Tryf.prog 3 #[.string dir, .slice a1 n1 c1, .slice a2 n2 c2, .slice a3 n3 c3, .slice a4 n4 c4, .string name, .string ns, .string nr, .slice a5 n5 c5, .int .i64 kk, .int .i64 jj] w fun e w' => e = .returned (.bool true) ∧ Below w.heap.size w w' := by
  have HC := hid h
  have HD := hid hd
  have HNm := hid hn
  have HNs := hid hns
  have HNr := hid hnr
  have H5 := hid h5
  have R5 := hid r5
  have HO := hid ho
  clear h hd hn hns hnr h5 r5 ho
  go_enter Tryf.func3, Tryf.ntmps3
  go_wp2_with fail
  refine (zz5 dir name ns nr a1 a2 a3 a4 a5 n1 n2 n3 n4 n5 c1 c2 c3 c4 c5 kk jj w HD.out HNm.out HNs.out HNr.out HC.out H5.out R5.out).mono ?_
  rintro e w' ⟨v, rfl, rfl, hC⟩
  cases v
  · clear hC
    go_wp2
    go_ret
    exact ⟨rfl, Below.refl _ _⟩
  have hn5 := (hC rfl).2
  have hn1 := (hC rfl).1.l1
  clear hC
  go_wp2_with fail
  refine (insertBytes_any dir name ns nr a1 a2 a3 a4 a5 n1 n2 n3 n4 n5 c1 c2 c3 c4 c5 w HD.out HNm.out HNs.out HNr.out HC.out H5.out R5.out).mono ?_
  rintro e w' ⟨r0, rfl, rfl⟩
  by_cases hr0 : 1048576 < r0
  · go_wp2
    go_ret
    exact ⟨rfl, Below.refl _ _⟩
  by_cases k1 : kk < 0
  · go_wp2
    go_ret
    exact ⟨rfl, Below.refl _ _⟩
  by_cases k2 : (n1 : Int) < kk
  · go_wp2
    go_ret
    exact ⟨rfl, Below.refl _ _⟩
  by_cases j1 : jj < 0
  · go_wp2
    go_ret
    exact ⟨rfl, Below.refl _ _⟩
  have j2 : (n5 : Int) < jj := by have := HO.out; omega
  go_wp2
  go_ret
  exact ⟨rfl, Below.refl _ _⟩

theorem insert_any (F : Interp) (dir name ns nr : ByteArray) (a1 a2 a3 a4 a5 : Option Addr) (n1 n2 n3 n4 n5 c1 c2 c3 c4 c5 : Nat) (kk jj : Int) (w : World) (hF : F.answers w.tape) (hd : dir.size ≤ maxLen) (hn : name.size ≤ maxLen) (hns : ns.size ≤ maxLen) (hnr : nr.size ≤ maxLen)
    (h : Came w maxLen a1 a2 a3 a4 n1 n2 n3 n4) (h5 : n5 ≤ maxLen) (r5 : StrRow w a5 n5) :
    Calls Tryf.prog 3 #[.string dir, .slice a1 n1 c1, .slice a2 n2 c2, .slice a3 n3 c3, .slice a4 n4 c4, .string name, .string ns, .string nr, .slice a5 n5 c5, .int .i64 kk, .int .i64 jj] w fun e w' => e = .returned (.bool true) ∧ Below w.heap.size w w' := by
  by_cases ho : kk < 0 ∨ (n1 : Int) < kk ∨ jj < 0 ∨ (n5 : Int) < jj
  · exact insert_out dir name ns nr a1 a2 a3 a4 a5 n1 n2 n3 n4 n5 c1 c2 c3 c4 c5 kk jj w hd hn hns hnr h h5 r5 ho
  · obtain ⟨k, rfl⟩ := Int.eq_ofNat_of_zero_le (show 0 ≤ kk by omega)
    obtain ⟨j, rfl⟩ := Int.eq_ofNat_of_zero_le (show 0 ≤ jj by omega)
    exact insert_walk F dir name ns nr a1 a2 a3 a4 a5 n1 n2 n3 n4 n5 c1 c2 c3 c4 c5 k j w hF hd hn hns hnr h h5 r5 (by omega) (by omega)

set_option maxRecDepth 100000 in
theorem insert_lifted (os : Os) (started : os.Started) (H : Type) (enc : TypeId × Value → H) :
    ReturnsInTold none {} Tryf.checked os 3 .any Input.okWide ((OpenSpec.ofChange Rows.fnSiteOfFindsAnInsertedSiteAfterThePrefixSpec).preRow enc Tryf.prog Tryf.f3 [] false [])
      (fun F => ((OpenSpec.ofChange Rows.fnSiteOfFindsAnInsertedSiteAfterThePrefixSpec).at F).post enc Tryf.prog Tryf.f3 false true false false) (aloneAtReturn Tryf.prog) nothingAlways := by
  refine returnsInTold_of_row (C := Tryf.checked) (s := OpenSpec.ofChange Rows.fnSiteOfFindsAnInsertedSiteAfterThePrefixSpec) (by kernel_rfl) Tryf.own started (by kernel_rfl) Tryf.func3
    (OpenSpec.witness_stopped (enc := enc) (C := Tryf.checked) false ⟨#[], #[.string ⟨#[]⟩, .slice none 0 0, .slice none 0 0, .slice none 0 0, .slice none 0 0, .string ⟨#[]⟩, .string ⟨#[]⟩, .string ⟨#[]⟩, .slice none 0 0, .int .i64 0, .int .i64 0], []⟩ 8 (by kernel_rfl) (by kernel_rfl) (by kernel_rfl) (by kernel_rfl)) ?_
  intro F W base args ds gs before _ hF hval0 hW _ _ hsz _ _
  have hval : ∀ (j : Nat) t v, Tryf.f3.params[j]? = some t → args[j]? = some v → Value.okWide Tryf.prog W .any base t v := hval0
  have hW' := hW
  obtain ⟨p, q, hA0, hV, rfl, _, _⟩ := hW
  have hA : DataW.TrodAll enc Tryf.prog W 0 (fun _ => true) true Tryf.f3.params.toList args.toList ds p := hA0
  rw [Tryf.params3] at hA hval
  obtain ⟨v0, vs0, d0, ds0, p0, q0, hargs, rfl, rfl, h0, r0⟩ := trodAll_cons hA
  obtain ⟨v1, vs1, d1, ds1, p1, q1, rfl, rfl, rfl, h1, r1⟩ := trodAll_cons r0
  obtain ⟨v2, vs2, d2, ds2, p2, q2, rfl, rfl, rfl, h2, r2⟩ := trodAll_cons r1
  obtain ⟨v3, vs3, d3, ds3, p3, q3, rfl, rfl, rfl, h3, r3⟩ := trodAll_cons r2
  obtain ⟨v4, vs4, d4, ds4, p4, q4, rfl, rfl, rfl, h4, r4⟩ := trodAll_cons r3
  obtain ⟨v5, vs5, d5, ds5, p5, q5, rfl, rfl, rfl, h5, r5⟩ := trodAll_cons r4
  obtain ⟨v6, vs6, d6, ds6, p6, q6, rfl, rfl, rfl, h6, r6⟩ := trodAll_cons r5
  obtain ⟨v7, vs7, d7, ds7, p7, q7, rfl, rfl, rfl, h7, r7⟩ := trodAll_cons r6
  obtain ⟨v8, vs8, d8, ds8, p8, q8, rfl, rfl, rfl, h8, r8⟩ := trodAll_cons r7
  obtain ⟨v9, vs9, d9, ds9, p9, q9, rfl, rfl, rfl, h9, r9⟩ := trodAll_cons r8
  obtain ⟨v10, vs10, d10, ds10, p10, q10, rfl, rfl, rfl, h10, r10⟩ := trodAll_cons r9
  obtain ⟨rfl, rfl, rfl⟩ := trodAll_nil r10
  obtain rfl : args = #[v0, v1, v2, v3, v4, v5, v6, v7, v8, v9, v10] := by cases args; simp_all
  obtain ⟨rfl, rfl⟩ := trodVars_none hV
  have k1 := h1
  have k2 := h2
  have k3 := h3
  have k4 := h4
  have k8 := h8
  have lt1 : ∀ x ∈ p1, x.block < W.heap.size := by obtain ⟨m, hm⟩ := k1; exact DataW.trod_lt m _ _ _ hm
  have lt2 : ∀ x ∈ p2, x.block < W.heap.size := by obtain ⟨m, hm⟩ := k2; exact DataW.trod_lt m _ _ _ hm
  have lt3 : ∀ x ∈ p3, x.block < W.heap.size := by obtain ⟨m, hm⟩ := k3; exact DataW.trod_lt m _ _ _ hm
  have lt4 : ∀ x ∈ p4, x.block < W.heap.size := by obtain ⟨m, hm⟩ := k4; exact DataW.trod_lt m _ _ _ hm
  have lt8 : ∀ x ∈ p8, x.block < W.heap.size := by obtain ⟨m, hm⟩ := k8; exact DataW.trod_lt m _ _ _ hm
  obtain ⟨dir, rfl, rfl, rfl, hdir⟩ := open_string Tryf.underlying9 (hval 0 9 v0 rfl rfl) h0
  obtain ⟨a1, n1, c1, rfl⟩ := okWide_slice Tryf.underlying22 (hval 1 22 v1 rfl rfl)
  obtain ⟨a2, n2, c2, rfl⟩ := okWide_slice Tryf.underlying22 (hval 2 22 v2 rfl rfl)
  obtain ⟨a3, n3, c3, rfl⟩ := okWide_slice Tryf.underlying23 (hval 3 23 v3 rfl rfl)
  obtain ⟨a4, n4, c4, rfl⟩ := okWide_slice Tryf.underlying23 (hval 4 23 v4 rfl rfl)
  obtain ⟨name, rfl, rfl, rfl, hname⟩ := open_string Tryf.underlying9 (hval 5 9 v5 rfl rfl) h5
  obtain ⟨ns, rfl, rfl, rfl, hns⟩ := open_string Tryf.underlying9 (hval 6 9 v6 rfl rfl) h6
  obtain ⟨nr, rfl, rfl, rfl, hnr⟩ := open_string Tryf.underlying9 (hval 7 9 v7 rfl rfl) h7
  obtain ⟨a5, n5, c5, rfl⟩ := okWide_slice Tryf.underlying22 (hval 8 22 v8 rfl rfl)
  obtain ⟨kk, rfl, rfl, rfl, wk⟩ := open_int Tryf.underlying3 (hval 9 3 v9 rfl rfl) h9
  obtain ⟨jj, rfl, rfl, rfl, wj⟩ := open_int Tryf.underlying3 (hval 10 3 v10 rfl rfl) h10
  have hr5 : n5 ≤ maxLen ∧ StrRow W a5 n5 := by
    obtain ⟨f1, g1⟩ := h8
    obtain ⟨b1, m1, e1, x1, l1, s1⟩ := open_strs_row g1
    simp [Value.cells] at x1
    obtain ⟨rfl, rfl, rfl⟩ := x1
    exact ⟨l1, s1⟩
  have hc : Came W maxLen a1 a2 a3 a4 n1 n2 n3 n4 := by
    obtain ⟨f1, g1⟩ := h1
    obtain ⟨f2, g2⟩ := h2
    obtain ⟨f3, g3⟩ := h3
    obtain ⟨f4, g4⟩ := h4
    obtain ⟨b1, m1, e1, x1, l1, s1⟩ := open_strs_row g1
    obtain ⟨b2, m2, e2, x2, l2, s2⟩ := open_strs_row g2
    obtain ⟨b3, m3, e3, x3, l3, s3⟩ := open_nest_row g3
    obtain ⟨b4, m4, e4, x4, l4, s4⟩ := open_nest_row g4
    simp [Value.cells] at x1 x2 x3 x4
    obtain ⟨rfl, rfl, rfl⟩ := x1
    obtain ⟨rfl, rfl, rfl⟩ := x2
    obtain ⟨rfl, rfl, rfl⟩ := x3
    obtain ⟨rfl, rfl, rfl⟩ := x4
    exact ⟨l1, l2, l3, l4, s1, s2, s3, s4⟩
  clear hA0 hval0
  refine (insert_any F.told dir name ns nr a1 a2 a3 a4 a5 n1 n2 n3 n4 n5 c1 c2 c3 c4 c5 kk jj W hF hdir hname hns hnr hc hr5.1 hr5.2).mono fun e W' ⟨he, bel⟩ => ?_
  subst he
  exact ⟨_, rfl, _, _, _, [], _, [], hW', trodAll_mk1 (shut_bool Tryf.underlying4 _),
    (trodAll_cons_mk (shut_string Tryf.underlying9 hdir) (trodAll_cons_mk (Below.trod Tryf.laidOut (by kernel_rfl) (of_decide_eq_true (by kernel_rfl)) k1 bel lt1) (trodAll_cons_mk (Below.trod Tryf.laidOut (by kernel_rfl) (of_decide_eq_true (by kernel_rfl)) k2 bel lt2)
      (trodAll_cons_mk (Below.trod Tryf.laidOut (by kernel_rfl) (of_decide_eq_true (by kernel_rfl)) k3 bel lt3) (trodAll_cons_mk (Below.trod Tryf.laidOut (by kernel_rfl) (of_decide_eq_true (by kernel_rfl)) k4 bel lt4) (trodAll_cons_mk (shut_string Tryf.underlying9 hname) (trodAll_cons_mk (shut_string Tryf.underlying9 hns) (trodAll_cons_mk (shut_string Tryf.underlying9 hnr) (trodAll_cons_mk (Below.trod Tryf.laidOut (by kernel_rfl) (of_decide_eq_true (by kernel_rfl)) k8 bel lt8) (trodAll_cons_mk (shut_int Tryf.underlying3 wk) (trodAll_cons_mk (shut_int Tryf.underlying3 wj) trodAll_mk0))))))))))), rfl, bel.frame _, fun h => by cases h⟩

/-- ████ THE STATEMENT ████ -/
theorem insert_holds : Rows.FnSiteOfFindsAnInsertedSiteAfterThePrefixToldSaid :=
  Claim7.holds_of_told_any 3 Tryf.f3 "fmt.errorf" [] [] _ _ _ (by kernel_rfl) rfl rfl rfl Tryf.laidOut (by kernel_rfl) rfl ⟨rfl, rfl, rfl, rfl, rfl, rfl, rfl⟩ rfl rfl (by kernel_rfl) (by kernel_rfl) Tryf.func3 (by kernel_rfl)
    (of_decide_eq_true (by kernel_rfl)) (of_decide_eq_true (by kernel_rfl)) Tryf.stops.symm rfl Tryf.stopKnobs.symm (by kernel_rfl)
    (by kernel_rfl) (by kernel_rfl) (by kernel_rfl) (by kernel_rfl) (by kernel_rfl) (by kernel_rfl) (by kernel_rfl) (by kernel_rfl) (by kernel_rfl) rfl (by kernel_rfl) rfl rfl
    rfl rfl
    rfl (by kernel_rfl) (by kernel_rfl) (by kernel_rfl) (by decide) (by kernel_rfl)
    (OpenClaim.moreEntering_of (by kernel_rfl) (by kernel_rfl) (by kernel_rfl) (by kernel_rfl) (by kernel_rfl) (by kernel_rfl) (by kernel_rfl) (by kernel_rfl) (by kernel_rfl) (by kernel_rfl))
    ⟨_, WideRow.started_initial, Tryf.quiet _⟩
    (fun os started _ H enc _ => insert_lifted os started H enc)
#print axioms insert_holds
end Go.Proofs.Qxb6630006aFmt
