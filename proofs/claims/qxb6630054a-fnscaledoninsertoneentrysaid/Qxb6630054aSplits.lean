import Derived.Test.Qxb6630054aScaled
import Derived.Test.Qxb6630054aEntries
import Derived.Test.Qxb6630054aBytes
namespace Go.Proofs.Qxb6630054a
open Go.RowKit

theorem EntRow.at {w : World} {b o : Nat} {es : List Ent} (h : EntRow w (some ⟨b, o, none⟩) es) (i : Nat) (hi : i < es.length) : w.cell? ⟨b, o + i * 2, none⟩ = some (.string es[i].1) ∧ w.cell? ⟨b, o + i * 2 + 1, none⟩ = some (.int .i64 es[i].2) := by
  obtain ⟨b', o', e, c⟩ := h i hi
  simp only [Option.some.injEq, Addr.mk.injEq, and_true] at e
  obtain ⟨rfl, rfl⟩ := e
  exact c
theorem StrRow.at {w : World} {b o : Nat} {ss : List ByteArray} (h : StrRow w (some ⟨b, o, none⟩) ss) (i : Nat) (hi : i < ss.length) : w.cell? ⟨b, o + i, none⟩ = some (.string ss[i]) := by
  obtain ⟨b', o', e, c⟩ := h i hi
  simp only [Option.some.injEq, Addr.mk.injEq, and_true] at e
  obtain ⟨rfl, rfl⟩ := e
  exact c
theorem EntRow.take {w : World} {ao : Option Addr} {es : List Ent} (h : EntRow w ao es) (c : Nat) : EntRow w ao (es.take c) := fun i hi => by
  have hi' : i < es.length := by simp at hi; omega
  obtain ⟨b, o, e, c0, c1⟩ := h i hi'
  exact ⟨b, o, e, by simpa using c0, by simpa using c1⟩
theorem EntRow.drop {w : World} {b o : Nat} {es : List Ent} (h : EntRow w (some ⟨b, o, none⟩) es) (c : Nat) : EntRow w (some ⟨b, o + c * 2, none⟩) (es.drop c) := fun i hi => by
  have hi' : c + i < es.length := by simp at hi; omega
  obtain ⟨c0, c1⟩ := h.at (c + i) hi'
  refine ⟨b, o + c * 2, rfl, ?_, ?_⟩
  · rw [show o + c * 2 + i * 2 = o + (c + i) * 2 by omega]; simpa using c0
  · rw [show o + c * 2 + i * 2 + 1 = o + (c + i) * 2 + 1 by omega]; simpa using c1

/-- A policy lies in block b. -/
structure Pol (w : World) (b : Nat) (m : ByteArray) (i1 i2 i3 i4 i5 i6 : Int) (p : ByteArray) (v : Value) : Prop where
  c0 : w.cell? ⟨b, 0, none⟩ = some (.string m)
  c1 : w.cell? ⟨b, 1, none⟩ = some (.int .i64 i1)
  c2 : w.cell? ⟨b, 2, none⟩ = some (.int .i64 i2)
  c3 : w.cell? ⟨b, 3, none⟩ = some (.int .i64 i3)
  c4 : w.cell? ⟨b, 4, none⟩ = some (.int .i64 i4)
  c5 : w.cell? ⟨b, 5, none⟩ = some (.int .i64 i5)
  c6 : w.cell? ⟨b, 6, none⟩ = some (.int .i64 i6)
  c7 : w.cell? ⟨b, 7, none⟩ = some (.string p)
  c8 : w.cell? ⟨b, 8, none⟩ = some v
theorem Pol.below {w w' : World} {b : Nat} {m : ByteArray} {i1 i2 i3 i4 i5 i6 : Int} {p : ByteArray} {v : Value} (h : Pol w b m i1 i2 i3 i4 i5 i6 p v) (k : Below w.heap.size w w') : Pol w' b m i1 i2 i3 i4 i5 i6 p v :=
  ⟨cell_later k h.c0, cell_later k h.c1, cell_later k h.c2, cell_later k h.c3, cell_later k h.c4, cell_later k h.c5, cell_later k h.c6, cell_later k h.c7, cell_later k h.c8⟩
theorem Pol.made (w : World) (m : ByteArray) (i1 i2 i3 i4 i5 i6 : Int) (p : ByteArray) (v : Value) : Pol (w.alloc (.cells (policyC m i1 i2 i3 i4 i5 i6 p v) 32)) w.heap.size m i1 i2 i3 i4 i5 i6 p v :=
  ⟨by simp, by simp, by simp, by simp, by simp, by simp, by simp, by simp, by simp⟩
theorem alloc_below (w : World) (o : Obj) : Below w.heap.size w (w.alloc o) := (Below.refl _ _).alloc (Nat.le_refl _) _
theorem nxt {w a b : World} (h : Below w.heap.size w a) (k : Below a.heap.size a b) : Below w.heap.size w b := h.trans (k.mono h.size)

/-- What came in as the list of entries. -/
structure Came (w : World) (ao : Option Addr) (n cap : Nat) (es : List Ent) : Prop where
  row : EntRow w ao es
  len : es.length = n
  le : n ≤ maxLen
  fits : n ≤ cap
  short : ∀ i (h : i < es.length), es[i].1.size ≤ maxLen
  nilA : ao = none → n = 0 ∧ cap = 0

set_option maxRecDepth 100000 in
set_option maxHeartbeats 4000000 in
theorem splits_walk (m p : ByteArray) (i1 i2 i3 i4 i5 i6 : Int) (ao : Option Addr) (n cap : Nat) (c : Int) (es : List Ent) (w : World) (hm : m.size ≤ maxLen) (hp : p.size ≤ maxLen) (hc : Came w ao n cap es) :
    Calls Try.prog 4 #[.string m, .int .i64 i1, .int .i64 i2, .int .i64 i3, .int .i64 i4, .int .i64 i5, .int .i64 i6, .string p, .slice ao n cap, .int .i64 c] w fun e w' => e = .returned (.bool true) ∧ Below w.heap.size w w' := by
  have HM := hid hm
  have HP := hid hp
  have HC := hid hc
  clear hm hp hc
  go_enter Try.func4, Try.ntmps4
  go_wp2_with fail
  refine (zz10 m p i1 i2 i3 i4 i5 i6 ao n cap c es w HM.out HP.out HC.out.short HC.out.len HC.out.le HC.out.row).mono ?_
  rintro e w' ⟨v, rfl, rfl, hv⟩
  cases v
  · clear hv
    go_wp2
    go_ret
    exact ⟨rfl, Below.refl _ _⟩
  have hn := hv rfl
  clear hv
  go_wp2_with fail
  refine (bytes6 m p ⟨#[]⟩ ao n cap es w HM.out HP.out (Nat.zero_le _) HC.out.short HC.out.len HC.out.le HC.out.row).mono ?_
  rintro e w' ⟨r0, rfl, rfl⟩
  by_cases hr0 : 1048576 < r0
  · go_wp2
    go_ret
    exact ⟨rfl, Below.refl _ _⟩
  by_cases hc0 : c ≤ 0
  · go_wp2
    go_ret
    exact ⟨rfl, Below.refl _ _⟩
  by_cases hc1 : (n : Int) ≤ c
  · go_wp2
    go_ret
    exact ⟨rfl, Below.refl _ _⟩
  obtain ⟨k, rfl⟩ : ∃ k : Nat, c = k := ⟨c.toNat, by omega⟩
  have hk0 : 0 < k := by omega
  have hkn : k < n := by omega
  clear hc0 hc1
  have hcap := HC.out.fits
  have hlen := HC.out.len
  obtain ⟨b0, o0, rfl, -⟩ := HC.out.row 0 (by omega)
  have HR := hid HC.out.row
  have HL := hid hlen
  clear HC HM HP hlen
  go_wp2_with fail
  refine (entries_some b0 o0 n cap es w HL.out (by omega) HR.out).mono ?_
  rintro e w1 ⟨r1, q1, rfl, hr1, hb1⟩
  have HB1 := hid hb1
  have R1 := hid hr1
  have HR1 := hid (HR.out.below hb1)
  clear hr1 hb1
  go_wp2_with fail
  refine (entries_some b0 o0 k cap (es.take k) w1 (by rw [List.length_take, HL.out]; omega) (by omega) (HR1.out.take k)).mono ?_
  rintro e w2 ⟨r2, q2, rfl, hr2, hb2⟩
  have HB2 := hid (nxt HB1.out hb2)
  have HR2 := hid (HR1.out.below hb2)
  have R12 := hid (R1.out.below hb2)
  have R2 := hid hr2
  clear HB1 HR1 R1 hr2 hb2
  go_wp2_with fail
  refine (entries_some b0 (o0 + k * 2) (n - k) (cap - k) (es.drop k) w2 (by rw [List.length_drop, HL.out]) (by omega) (HR2.out.drop k)).mono ?_
  rintro e w3 ⟨r3, q3, rfl, hr3, hb3⟩
  have HB3 := hid (nxt HB2.out hb3)
  have HR3 := hid (HR2.out.below hb3)
  have R13 := hid (R12.out.below hb3)
  have R23 := hid (R2.out.below hb3)
  have R33 := hid hr3
  clear HB2 HR2 R12 R2 hr3 hb3
  go_wp2_with fail
  refine (policy_any m i1 i2 i3 i4 i5 i6 p r1 n q1 w3).mono ?_
  rintro e w4 ⟨rfl, hb4⟩
  have hb4' := nxt hb4 (alloc_below w4 (.cells (policyC m i1 i2 i3 i4 i5 i6 p (.slice r1 n q1)) 32))
  have HB4 := hid (nxt HB3.out hb4')
  have HR4 := hid (HR3.out.below hb4')
  have R14 := hid (R13.out.below hb4')
  have R24 := hid (R23.out.below hb4')
  have R34 := hid (R33.out.below hb4')
  have P14 := hid (Pol.made w4 m i1 i2 i3 i4 i5 i6 p (.slice r1 n q1))
  clear HB3 HR3 R13 R23 R33 hb4 hb4'
  go_wp2_with fail
  refine (policy_any m i1 i2 i3 i4 i5 i6 p r2 k q2 _).mono ?_
  rintro e w5 ⟨rfl, hb5⟩
  have hb5' := nxt hb5 (alloc_below w5 (.cells (policyC m i1 i2 i3 i4 i5 i6 p (.slice r2 k q2)) 32))
  have HB5 := hid (nxt HB4.out hb5')
  have HR5 := hid (HR4.out.below hb5')
  have R15 := hid (R14.out.below hb5')
  have R25 := hid (R24.out.below hb5')
  have R35 := hid (R34.out.below hb5')
  have P15 := hid (P14.out.below hb5')
  have P25 := hid (Pol.made w5 m i1 i2 i3 i4 i5 i6 p (.slice r2 k q2))
  clear HB4 HR4 R14 R24 R34 P14 hb5 hb5'
  go_wp2_with fail
  refine (policy_any m i1 i2 i3 i4 i5 i6 p r3 (n - k) q3 _).mono ?_
  rintro e w6 ⟨rfl, hb6⟩
  have hb6' := nxt hb6 (alloc_below w6 (.cells (policyC m i1 i2 i3 i4 i5 i6 p (.slice r3 (n - k) q3)) 32))
  have HB6 := hid (nxt HB5.out hb6')
  have HR6 := hid (HR5.out.below hb6')
  have R16 := hid (R15.out.below hb6')
  have R26 := hid (R25.out.below hb6')
  have R36 := hid (R35.out.below hb6')
  have P16 := hid (P15.out.below hb6')
  have P26 := hid (P25.out.below hb6')
  have P36 := hid (Pol.made w6 m i1 i2 i3 i4 i5 i6 p (.slice r3 (n - k) q3))
  clear HB5 HR5 R15 R25 R35 P15 P25 hb6 hb6'
  obtain ⟨x0, x1, x2, x3, x4, x5, x6, x7, x8⟩ := P16.out
  go_wp2_with fail
  refine (scaled_some m i1 i2 i3 i4 i5 i6 p r1 n q1 es _ HL.out (by omega) (by omega) R16.out).mono ?_
  rintro e w7 ⟨sw, tw, rfl, hs7, hb7⟩
  have HB7 := hid (nxt HB6.out hb7)
  have HR7 := hid (HR6.out.below hb7)
  have R27 := hid (R26.out.below hb7)
  have R37 := hid (R36.out.below hb7)
  have P27 := hid (P26.out.below hb7)
  have P37 := hid (P36.out.below hb7)
  have S7 := hid hs7
  clear x0 x1 x2 x3 x4 x5 x6 x7 x8 HB6 HR6 R16 R26 R36 P16 P26 P36 hs7 hb7
  obtain ⟨x0, x1, x2, x3, x4, x5, x6, x7, x8⟩ := P27.out
  go_wp2_with fail
  refine (scaled_some m i1 i2 i3 i4 i5 i6 p r2 k q2 (es.take k) _ (by rw [List.length_take, HL.out]; omega) (by omega) (by omega) R27.out).mono ?_
  rintro e w8 ⟨sf, tf, rfl, hs8, hb8⟩
  have HB8 := hid (nxt HB7.out hb8)
  have HR8 := hid (HR7.out.below hb8)
  have R38 := hid (R37.out.below hb8)
  have P38 := hid (P37.out.below hb8)
  have S78 := hid (S7.out.below hb8)
  have S8 := hid hs8
  clear x0 x1 x2 x3 x4 x5 x6 x7 x8 HB7 HR7 R27 R37 P27 P37 S7 hs8 hb8
  obtain ⟨x0, x1, x2, x3, x4, x5, x6, x7, x8⟩ := P38.out
  go_wp2_with fail
  refine (scaled_some m i1 i2 i3 i4 i5 i6 p r3 (n - k) q3 (es.drop k) _ (by rw [List.length_drop, HL.out]) (by omega) (by omega) R38.out).mono ?_
  rintro e w9 ⟨sk, tk, rfl, hs9, hb9⟩
  have HB9 := hid (nxt HB8.out hb9)
  have HR9 := hid (HR8.out.below hb9)
  have S79 := hid (S78.out.below hb9)
  have S89 := hid (S8.out.below hb9)
  have S99 := hid hs9
  clear x0 x1 x2 x3 x4 x5 x6 x7 x8 HB8 HR8 R38 P38 S78 S8 hs9 hb9
  have hL := HL.out
  obtain ⟨bw, ow, rfl, -⟩ := S79.out 0 (by simp; omega)
  obtain ⟨bf, of, rfl, -⟩ := S89.out 0 (by simp; omega)
  obtain ⟨bk, ok, rfl, -⟩ := S99.out 0 (by simp; omega)
  have u0 := S79.out.at 0 (by simp; omega)
  have u1 := S79.out.at k (by simp; omega)
  have u2 := S79.out.at (n - 1) (by simp; omega)
  have v0 := (HR9.out.at 0 (by omega)).1
  have v1 := (HR9.out.at k (by omega)).1
  have v2 := (HR9.out.at (n - 1) (by omega)).1
  simp only [List.getElem_map] at u0 u1 u2
  have e1 : (k : Int) + ((n - k : Nat) : Int) = n := by omega
  have e2 : ((n : Int) - 1).toNat = n - 1 := by omega
  have hn1 : 1 ≤ n := by omega
  generalize es[0].1 = y0 at u0 v0
  generalize es[k].1 = y1 at u1 v1
  generalize es[n - 1].1 = y2 at u2 v2
  clear hL
  simp only [Nat.add_zero, Nat.zero_mul] at u0 v0
  go_wp2
  go_quiet (fail)
  clear u0 u1 u2 v0 v1 v2 HR9 HR
  go_wp2
  go_loopw [31] (fun v31 wr => ∃ j : Nat, j ≤ k ∧ v31 = .int .i64 j ∧ Hid (Below w9.heap.size w9 wr)) (fun v31 _ => k - (intOf v31).toNat)
  case atStart => exact ⟨0, by omega, rfl, below_drewN (Below.refl _ _) _⟩
  case round =>
    obtain ⟨j, hj, rfl, HBr⟩ := hrel
    have hL := HL.out
    by_cases h : j < k
    · have u0 := cell_later HBr.out (S79.out.at j (by simp; omega))
      have u1 := cell_later HBr.out (S89.out.at j (by simp; omega))
      simp only [List.getElem_map, List.getElem_take] at u0 u1
      generalize es[j].1 = y at u0 u1
      have hjn : j < n := by omega
      clear hL
      go_wp2
      go_quiet (fail)
      go_wp2
      go_roundw
      case rel => exact ⟨j + 1, by omega, by go_num, below_drewN HBr.out _⟩
      case measure => simp [intOf]; omega
    · have HBq := HBr
      clear hL HBr
      rename World => wq
      go_wp2
      go_loopw [32] (fun v32 wr => ∃ i : Nat, i ≤ n - k ∧ v32 = .int .i64 i ∧ Hid (Below w9.heap.size w9 wr)) (fun v32 _ => (n - k) - (intOf v32).toNat)
      case atStart => exact ⟨0, by omega, rfl, HBq.out⟩
      case round =>
        obtain ⟨i, hi, rfl, HBr⟩ := hrel
        have hL := HL.out
        by_cases h' : i < n - k
        · have u0 := cell_later HBr.out (S79.out.at (k + i) (by simp; omega))
          have u1 := cell_later HBr.out (S99.out.at i (by simp; omega))
          simp only [List.getElem_map, List.getElem_drop] at u0 u1
          generalize es[k + i].1 = y at u0 u1
          have hjn : k + i < n := by omega
          clear hL
          go_wp2
          go_quiet (fail)
          go_wp2
          go_roundw
          case rel => exact ⟨i + 1, by omega, by go_num, below_drewN HBr.out _⟩
          case measure => simp [intOf]; omega
        · have HE := hid (nxt HB9.out HBr.out)
          clear hL
          go_wp2
          go_ret
          exact ⟨rfl, HE.out⟩
end Go.Proofs.Qxb6630054a
