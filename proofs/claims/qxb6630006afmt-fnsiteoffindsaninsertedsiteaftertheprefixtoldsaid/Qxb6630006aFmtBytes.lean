import Derived.Test.Qxb6630006aFmtMem
namespace Go.Proofs.Qxb6630006aFmt
open Go.RowKit

/-! ### WHAT CAME IN -/
/-- A slice of strings. -/
def StrRow (w : World) (ao : Option Addr) (n : Nat) : Prop := ∀ i, i < n → ∃ b o s, ao = some ⟨b, o, none⟩ ∧ w.cell? ⟨b, o + i, none⟩ = some (.string s) ∧ s.size ≤ maxLen
/-- A slice of slices of strings, none longer than B. -/
def NestRow (w : World) (B : Nat) (ao : Option Addr) (n : Nat) : Prop :=
  ∀ i, i < n → ∃ b o a' n' c', ao = some ⟨b, o, none⟩ ∧ w.cell? ⟨b, o + i, none⟩ = some (.slice a' n' c') ∧ n' ≤ B ∧ StrRow w a' n'
theorem StrRow.below {w w' : World} {ao : Option Addr} {n : Nat} (h : StrRow w ao n) (hb : Below w.heap.size w w') : StrRow w' ao n := fun i hi => by
  obtain ⟨b, o, s, e, c, l⟩ := h i hi
  exact ⟨b, o, s, e, cell_later hb c, l⟩
theorem NestRow.below {w w' : World} {B : Nat} {ao : Option Addr} {n : Nat} (h : NestRow w B ao n) (hb : Below w.heap.size w w') : NestRow w' B ao n := fun i hi => by
  obtain ⟨b, o, a', n', c', e, c, l, k⟩ := h i hi
  exact ⟨b, o, a', n', c', e, cell_later hb c, l, k.below hb⟩

/-- It hands back some number; the world is as it was. -/
def SomeInt (w : World) (e : Ending) (w' : World) : Prop := ∃ r : Int, e = .returned (.int .i64 r) ∧ w = w'
theorem addStr_any (acc : Int) (s : ByteArray) (w : World) (hs : s.size ≤ maxLen) :
    Calls Tryf.prog 15 #[.int .i64 acc, .string s] w (SomeInt w) := by
  unfold maxLen at hs
  by_cases h1 : 1048576 < acc
  · go_enter Tryf.func15, Tryf.ntmps15
    go_wp2
    go_ret
    exact ⟨_, rfl, rfl⟩
  · by_cases h2 : 1048576 < s.size
    · go_enter Tryf.func15, Tryf.ntmps15
      go_wp2
      go_ret
      exact ⟨_, rfl, rfl⟩
    · go_enter Tryf.func15, Tryf.ntmps15
      go_wp2
      go_ret
      exact ⟨_, rfl, rfl⟩

set_option maxHeartbeats 400000 in
theorem addStrs_any (acc : Int) (ao : Option Addr) (n cap : Nat) (w : World) (hn : n ≤ maxLen) (hr : StrRow w ao n) :
    Calls Tryf.prog 16 #[.int .i64 acc, .slice ao n cap] w (SomeInt w) := by
  unfold maxLen at hn
  have HR : Hid (StrRow w ao n) := hr
  clear hr
  by_cases h1 : 1048576 < acc
  · go_enter Tryf.func16, Tryf.ntmps16
    go_wp2
    go_ret
    exact ⟨_, rfl, rfl⟩
  by_cases h2 : 1048576 < n
  · go_enter Tryf.func16, Tryf.ntmps16
    go_wp2
    go_ret
    exact ⟨_, rfl, rfl⟩
  go_enter Tryf.func16, Tryf.ntmps16
  go_wp2
  go_loop [0, 5] (fun va vi => ∃ (a : Int) (k : Nat), k ≤ n ∧ va = .int .i64 a ∧ vi = .int .i64 k) (fun _ vi => n - (intOf vi).toNat)
  case atStart => exact ⟨_, 0, by omega, rfl, rfl⟩
  case round =>
    obtain ⟨a, k, hk, rfl, rfl⟩ := hrel
    by_cases h : k < n
    · obtain ⟨b, o, s, rfl, hc, hs⟩ := HR.out k h
      go_wp2_with (go_at_call 15; refine (addStr_any _ _ _ hs).mono ?_; rintro e w' ⟨r, rfl, rfl⟩)
      · go_ret
        exact ⟨_, rfl, rfl⟩
      · go_round
        case rel => exact ⟨_, k + 1, by omega, rfl, by go_num⟩
        case measure => simp [intOf]; omega
    · go_wp2
      go_ret
      exact ⟨_, rfl, rfl⟩

set_option maxHeartbeats 400000 in
theorem addNested_any (acc : Int) (B : Nat) (ao : Option Addr) (n cap : Nat) (w : World) (hn : n ≤ maxLen) (hB : B ≤ maxLen) (hr : NestRow w B ao n) :
    Calls Tryf.prog 19 #[.int .i64 acc, .slice ao n cap] w (SomeInt w) := by
  have HBB : Hid (B ≤ maxLen) := hB
  clear hB
  unfold maxLen at hn
  have HR : Hid (NestRow w B ao n) := hr
  clear hr
  by_cases h1 : 1048576 < acc
  · go_enter Tryf.func19, Tryf.ntmps19
    go_wp2
    go_ret
    exact ⟨_, rfl, rfl⟩
  by_cases h2 : 1048576 < n
  · go_enter Tryf.func19, Tryf.ntmps19
    go_wp2
    go_ret
    exact ⟨_, rfl, rfl⟩
  go_enter Tryf.func19, Tryf.ntmps19
  go_wp2
  go_loop [0, 5] (fun va vi => ∃ (a : Int) (k : Nat), k ≤ n ∧ va = .int .i64 a ∧ vi = .int .i64 k) (fun _ vi => n - (intOf vi).toNat)
  case atStart => exact ⟨_, 0, by omega, rfl, rfl⟩
  case round =>
    obtain ⟨a, k, hk, rfl, rfl⟩ := hrel
    by_cases h : k < n
    · obtain ⟨b, o, a', n', c', rfl, hc, hl, hs⟩ := HR.out k h
      have HL : Hid (n' ≤ maxLen) := Nat.le_trans hl HBB.out
      have HSR : Hid (StrRow w a' n') := hs
      clear hl hs
      go_wp2_with (go_at_call 16; refine (addStrs_any _ _ _ _ _ HL.out HSR.out).mono ?_; rintro e w' ⟨r, rfl, rfl⟩)
      · go_ret
        exact ⟨_, rfl, rfl⟩
      · go_round
        case rel => exact ⟨_, k + 1, by omega, rfl, by go_num⟩
        case measure => simp [intOf]; omega
    · go_wp2
      go_ret
      exact ⟨_, rfl, rfl⟩

/-- The four slices of the layout that came in. -/
structure Came (w : World) (B : Nat) (a1 a2 a3 a4 : Option Addr) (n1 n2 n3 n4 : Nat) : Prop where
  l1 : n1 ≤ B
  l2 : n2 ≤ B
  l3 : n3 ≤ B
  l4 : n4 ≤ B
  r1 : StrRow w a1 n1
  r2 : StrRow w a2 n2
  r3 : NestRow w B a3 n3
  r4 : NestRow w B a4 n4

set_option maxHeartbeats 400000 in
theorem layoutBytes_any (dir name : ByteArray) (a1 a2 a3 a4 : Option Addr) (n1 n2 n3 n4 c1 c2 c3 c4 : Nat) (w : World) (hd : dir.size ≤ maxLen) (hn : name.size ≤ maxLen) (h : Came w maxLen a1 a2 a3 a4 n1 n2 n3 n4) :
    Calls Tryf.prog 13 #[.string dir, .slice a1 n1 c1, .slice a2 n2 c2, .slice a3 n3 c3, .slice a4 n4 c4, .string name] w (SomeInt w) := by
  have H : Hid (Came w maxLen a1 a2 a3 a4 n1 n2 n3 n4) := h
  clear h
  go_enter Tryf.func13, Tryf.ntmps13
  go_wp2_with fail
  refine (addStr_any _ _ _ hd).mono ?_
  rintro e w' ⟨r1, rfl, rfl⟩
  go_wp2_with fail
  refine (addStr_any _ _ _ hn).mono ?_
  rintro e w' ⟨r2, rfl, rfl⟩
  go_wp2_with fail
  refine (addStrs_any _ _ _ _ _ H.out.l1 H.out.r1).mono ?_
  rintro e w' ⟨r3, rfl, rfl⟩
  go_wp2_with fail
  refine (addStrs_any _ _ _ _ _ H.out.l2 H.out.r2).mono ?_
  rintro e w' ⟨r4, rfl, rfl⟩
  go_wp2_with fail
  refine (addNested_any _ maxLen _ _ _ _ H.out.l3 (Nat.le_refl _) H.out.r3).mono ?_
  rintro e w' ⟨r5, rfl, rfl⟩
  go_wp2_with fail
  refine (addNested_any _ maxLen _ _ _ _ H.out.l4 (Nat.le_refl _) H.out.r4).mono ?_
  rintro e w' ⟨r6, rfl, rfl⟩
  go_wp2
  go_ret
  exact ⟨_, rfl, rfl⟩

set_option maxHeartbeats 400000 in
theorem insertBytes_any (dir name ns nr : ByteArray) (a1 a2 a3 a4 a5 : Option Addr) (n1 n2 n3 n4 n5 c1 c2 c3 c4 c5 : Nat) (w : World) (hd : dir.size ≤ maxLen) (hn : name.size ≤ maxLen) (hns : ns.size ≤ maxLen) (hnr : nr.size ≤ maxLen)
    (h : Came w maxLen a1 a2 a3 a4 n1 n2 n3 n4) (h5 : n5 ≤ maxLen) (r5 : StrRow w a5 n5) :
    Calls Tryf.prog 6 #[.string dir, .slice a1 n1 c1, .slice a2 n2 c2, .slice a3 n3 c3, .slice a4 n4 c4, .string name, .string ns, .string nr, .slice a5 n5 c5] w (SomeInt w) := by
  have H : Hid (Came w maxLen a1 a2 a3 a4 n1 n2 n3 n4) := h
  have HR : Hid (StrRow w a5 n5) := r5
  clear h r5
  go_enter Tryf.func6, Tryf.ntmps6
  go_wp2_with fail
  refine (layoutBytes_any _ _ _ _ _ _ _ _ _ _ _ _ _ _ _ hd hn H.out).mono ?_
  rintro e w' ⟨r1, rfl, rfl⟩
  go_wp2_with fail
  refine (addStr_any _ _ _ hns).mono ?_
  rintro e w' ⟨r2, rfl, rfl⟩
  go_wp2_with fail
  refine (addStr_any _ _ _ hnr).mono ?_
  rintro e w' ⟨r3, rfl, rfl⟩
  go_wp2_with fail
  refine (addStrs_any _ _ _ _ _ h5 HR.out).mono ?_
  rintro e w' ⟨r4, rfl, rfl⟩
  go_wp2
  go_ret
  exact ⟨_, rfl, rfl⟩
end Go.Proofs.Qxb6630006aFmt
