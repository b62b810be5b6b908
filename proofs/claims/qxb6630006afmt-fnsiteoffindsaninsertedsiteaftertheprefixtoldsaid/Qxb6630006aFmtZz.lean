import Derived.Test.Qxb6630006aFmtBytes
namespace Go.Proofs.Qxb6630006aFmt
open Go.RowKit

/-- It answers; and 'true' only where C holds; the world is as it was. -/
def ZzAns (w : World) (C : Prop) (e : Ending) (w' : World) : Prop := ∃ v : Bool, e = .returned (.bool v) ∧ w = w' ∧ (v = true → C)
/-- The first k slices are short. -/
def ShortTo (w : World) (ao : Option Addr) (k : Nat) : Prop := ∀ i, i < k → ∀ b o a' n' c', ao = some ⟨b, o, none⟩ → w.cell? ⟨b, o + i, none⟩ = some (.slice a' n' c') → n' ≤ 1048576
theorem ShortTo.step {w : World} {b o k : Nat} {a' : Option Addr} {n' c' : Nat} (h : ShortTo w (some ⟨b, o, none⟩) k) (hc : w.cell? ⟨b, o + k, none⟩ = some (.slice a' n' c')) (hn : n' ≤ 1048576) : ShortTo w (some ⟨b, o, none⟩) (k + 1) := by
  intro i hi b1 o1 a1 n1 c1 e hc1
  by_cases ei : i = k
  · subst ei
    simp only [Option.some.injEq, Addr.mk.injEq] at e
    obtain ⟨rfl, rfl, -⟩ := e
    rw [hc] at hc1
    simp only [Option.some.injEq, Value.slice.injEq] at hc1
    omega
  · exact h i (by omega) b1 o1 a1 n1 c1 e hc1
theorem ShortTo.eq {w : World} {ao : Option Addr} {k n : Nat} (h : ShortTo w ao k) (e : k = n) : ShortTo w ao n := e ▸ h
theorem NestRow.short {w : World} {B : Nat} {ao : Option Addr} {n : Nat} (h : NestRow w B ao n) (hs : ShortTo w ao n) : NestRow w 1048576 ao n := fun i hi => by
  obtain ⟨b, o, a', n', c', e, c, _, r⟩ := h i hi
  exact ⟨b, o, a', n', c', e, c, hs i hi b o a' n' c' e c, r⟩

set_option maxRecDepth 100000 in
set_option maxHeartbeats 4000000 in
theorem zz12 (dir name : ByteArray) (a1 a2 a3 a4 : Option Addr) (n1 n2 n3 n4 c1 c2 c3 c4 : Nat) (w : World) (hd : dir.size ≤ maxLen) (hn : name.size ≤ maxLen) (h : Came w maxLen a1 a2 a3 a4 n1 n2 n3 n4) :
    Calls Tryf.prog 12 #[.string dir, .slice a1 n1 c1, .slice a2 n2 c2, .slice a3 n3 c3, .slice a4 n4 c4, .string name] w (ZzAns w (Came w 1048576 a1 a2 a3 a4 n1 n2 n3 n4)) := by
  obtain ⟨l1, l2, l3, l4, r1, r2, r3, r4⟩ := h
  have R1 : Hid (StrRow w a1 n1) := r1
  have R2 : Hid (StrRow w a2 n2) := r2
  have R3 : Hid (NestRow w maxLen a3 n3) := r3
  have R4 : Hid (NestRow w maxLen a4 n4) := r4
  clear r1 r2 r3 r4
  unfold maxLen at hd hn l1 l2 l3 l4
  go_enter Tryf.func12, Tryf.ntmps12
  go_wp2
  all_goals try (go_ret; exact ⟨false, rfl, rfl, fun h => by cases h⟩)
  go_loop [13, 14] (fun vz vi => ∃ (z : Int) (k : Nat), 0 ≤ z ∧ z ≤ 1048576 ∧ k ≤ n1 ∧ vz = .int .i64 z ∧ vi = .int .i64 k) (fun _ vi => n1 - (intOf vi).toNat)
  case atStart => exact ⟨_, 0, by omega, by omega, by omega, rfl, rfl⟩
  case round =>
    obtain ⟨z, k, hz0, hz1, hk, rfl, rfl⟩ := hrel
    by_cases h : k < n1
    · obtain ⟨b, o, s, rfl, hc, hs⟩ := R1.out k h
      unfold maxLen at hs
      go_wp2
      all_goals first
        | (go_ret; exact ⟨false, rfl, rfl, fun h => by cases h⟩)
        | (go_round
           case rel => exact ⟨_, k + 1, by omega, by omega, by omega, rfl, by go_num⟩
           case measure => simp [intOf]; omega)
    · go_wp2
      all_goals try (go_ret; exact ⟨false, rfl, rfl, fun h => by cases h⟩)
      go_loop [13, 15] (fun vz vi => ∃ (z : Int) (k : Nat), 0 ≤ z ∧ z ≤ 1048576 ∧ k ≤ n2 ∧ vz = .int .i64 z ∧ vi = .int .i64 k) (fun _ vi => n2 - (intOf vi).toNat)
      case atStart => exact ⟨_, 0, by omega, by omega, by omega, rfl, rfl⟩
      case round =>
        obtain ⟨z, k, hz0, hz1, hk, rfl, rfl⟩ := hrel
        by_cases h : k < n2
        · obtain ⟨b, o, s, rfl, hc, hs⟩ := R2.out k h
          unfold maxLen at hs
          go_wp2
          all_goals first
            | (go_ret; exact ⟨false, rfl, rfl, fun h => by cases h⟩)
            | (go_round
               case rel => exact ⟨_, k + 1, by omega, by omega, by omega, rfl, by go_num⟩
               case measure => simp [intOf]; omega)
        · go_wp2
          all_goals try (go_ret; exact ⟨false, rfl, rfl, fun h => by cases h⟩)
          go_loop [13, 16] (fun vz vi => ∃ (z : Int) (k : Nat), 0 ≤ z ∧ z ≤ 1048576 ∧ k ≤ n3 ∧ vz = .int .i64 z ∧ vi = .int .i64 k ∧ Hid (ShortTo w a3 k)) (fun _ vi => n3 - (intOf vi).toNat)
          case atStart => exact ⟨_, 0, by omega, by omega, by omega, rfl, rfl, fun _ hi => by omega⟩
          case round =>
            obtain ⟨z, k, hz0, hz1, hk, rfl, rfl, HS⟩ := hrel
            by_cases h : k < n3
            · obtain ⟨b, o, a', n', c', rfl, hc, hl, hs⟩ := R3.out k h
              have HI : Hid (StrRow w a' n') := hs
              have HT : n' ≤ 1048576 → Hid (ShortTo w (some ⟨b, o, none⟩) (k + 1)) := fun h => HS.out.step hc h
              have HT' := hid HT
              unfold maxLen at hl
              clear hs HT
              go_wp2
              all_goals try (go_ret; exact ⟨false, rfl, rfl, fun h => by cases h⟩)
              go_loop [13, 17] (fun vz vi => ∃ (z : Int) (k : Nat), 0 ≤ z ∧ z ≤ 1048576 ∧ k ≤ n' ∧ vz = .int .i64 z ∧ vi = .int .i64 k) (fun _ vi => n' - (intOf vi).toNat)
              case atStart => exact ⟨_, 0, by omega, by omega, by omega, rfl, rfl⟩
              case round =>
                obtain ⟨z', k', hz0', hz1', hk', rfl, rfl⟩ := hrel
                by_cases h' : k' < n'
                · obtain ⟨b', o', s, rfl, hc', hs⟩ := HI.out k' h'
                  unfold maxLen at hs
                  go_wp2
                  all_goals first
                    | (go_ret; exact ⟨false, rfl, rfl, fun h => by cases h⟩)
                    | (go_round
                       case rel => exact ⟨_, k' + 1, by omega, by omega, by omega, rfl, by go_num⟩
                       case measure => simp [intOf]; omega)
                · go_wp2
                  go_round
                  case rel => exact ⟨_, k + 1, by omega, by omega, by omega, rfl, by go_num, HT'.out (by omega)⟩
                  case measure => simp [intOf]; omega
            · have S3 : Hid (ShortTo w a3 n3) := HS.out.eq (by omega)
              go_wp2
              all_goals try (go_ret; exact ⟨false, rfl, rfl, fun h => by cases h⟩)
              go_loop [13, 18] (fun vz vi => ∃ (z : Int) (k : Nat), 0 ≤ z ∧ z ≤ 1048576 ∧ k ≤ n4 ∧ vz = .int .i64 z ∧ vi = .int .i64 k ∧ Hid (ShortTo w a4 k)) (fun _ vi => n4 - (intOf vi).toNat)
              case atStart => exact ⟨_, 0, by omega, by omega, by omega, rfl, rfl, fun _ hi => by omega⟩
              case round =>
                obtain ⟨z, k, hz0, hz1, hk, rfl, rfl, HS⟩ := hrel
                by_cases h : k < n4
                · obtain ⟨b, o, a', n', c', rfl, hc, hl, hs⟩ := R4.out k h
                  have HI : Hid (StrRow w a' n') := hs
                  have HT : n' ≤ 1048576 → Hid (ShortTo w (some ⟨b, o, none⟩) (k + 1)) := fun h => HS.out.step hc h
                  have HT' := hid HT
                  unfold maxLen at hl
                  clear hs HT
                  go_wp2
                  all_goals try (go_ret; exact ⟨false, rfl, rfl, fun h => by cases h⟩)
                  go_loop [13, 19] (fun vz vi => ∃ (z : Int) (k : Nat), 0 ≤ z ∧ z ≤ 1048576 ∧ k ≤ n' ∧ vz = .int .i64 z ∧ vi = .int .i64 k) (fun _ vi => n' - (intOf vi).toNat)
                  case atStart => exact ⟨_, 0, by omega, by omega, by omega, rfl, rfl⟩
                  case round =>
                    obtain ⟨z', k', hz0', hz1', hk', rfl, rfl⟩ := hrel
                    by_cases h' : k' < n'
                    · obtain ⟨b', o', s, rfl, hc', hs⟩ := HI.out k' h'
                      unfold maxLen at hs
                      go_wp2
                      all_goals first
                        | (go_ret; exact ⟨false, rfl, rfl, fun h => by cases h⟩)
                        | (go_round
                           case rel => exact ⟨_, k' + 1, by omega, by omega, by omega, rfl, by go_num⟩
                           case measure => simp [intOf]; omega)
                    · go_wp2
                      go_round
                      case rel => exact ⟨_, k + 1, by omega, by omega, by omega, rfl, by go_num, HT'.out (by omega)⟩
                      case measure => simp [intOf]; omega
                · have S4 : Hid (ShortTo w a4 n4) := HS.out.eq (by omega)
                  go_wp2
                  all_goals try (go_ret; exact ⟨false, rfl, rfl, fun h => by cases h⟩)
                  go_ret
                  exact ⟨true, rfl, rfl, fun _ => ⟨by omega, by omega, by omega, by omega, R1.out, R2.out, R3.out.short S3.out, R4.out.short S4.out⟩⟩
end Go.Proofs.Qxb6630006aFmt
