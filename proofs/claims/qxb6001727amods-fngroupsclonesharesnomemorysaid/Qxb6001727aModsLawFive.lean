/-
  THE WALK OF 'FnGroupsCloneSharesNoMemory' out of the contracts of Qxb6001727aModsGroups.lean.
-/
import Derived.Test.Qxb6001727aModsGroups
import Derived.LaidEqlPtr
namespace Go.Proofs.Qxb6001727aMods
open Go.RowKit

theorem size26 : (Trym.prog.info? 26).map (·.size) = some 2 := by kernel_rfl

set_option maxHeartbeats 2000000 in
theorem law5 (w : World) (hs : Bool) (a0 a1 a2 a3 : Option Addr) (c0 c1 c2 c3 : Nat) (z0 z1 z2 z3 : List Int) (h0 : Rd w (.slice a0 z0.length c0) z0) (h1 : Rd w (.slice a1 z1.length c1) z1)
    (h2 : Rd w (.slice a2 z2.length c2) z2) (h3 : Rd w (.slice a3 z3.length c3) z3) :
    Calls Trym.prog 5 #[.bool hs, .slice a0 z0.length c0, .slice a1 z1.length c1, .slice a2 z2.length c2, .slice a3 z3.length c3] w fun e w' => e = .returned (.bool true) ∧ Below w.heap.size w w' := by
  go_enter Trym.func5, Trym.ntmps5
  go_wp2_with fail
  refine (bytes15 _ hs a0 a1 a2 a3 _ _ _ _ c0 c1 c2 c3).mono ?_
  rintro e w' ⟨b, rfl, rfl⟩
  cases b with
  | false =>
    go_wp2
    go_ret
    exact ⟨rfl, Below.refl _ _⟩
  | true =>
    by_cases hl0 : z0.length ≤ 32768
    case neg =>
      go_wp2
      go_ret
      exact ⟨rfl, Below.refl _ _⟩
    by_cases hl1 : z1.length ≤ 32768
    case neg =>
      go_wp2
      go_ret
      exact ⟨rfl, Below.refl _ _⟩
    by_cases hl2 : z2.length ≤ 32768
    case neg =>
      go_wp2
      go_ret
      exact ⟨rfl, Below.refl _ _⟩
    by_cases hl3 : z3.length ≤ 32768
    case neg =>
      go_wp2
      go_ret
      exact ⟨rfl, Below.refl _ _⟩
    go_wp2_with fail
    refine (copy_any _ a0 _ c0 z0 h0 (by omega)).mono ?_
    rintro e w1 ⟨e0, f0, rfl, o0, B1⟩
    go_wp2_with fail
    refine (copy_any _ a1 _ c1 z1 (h1.below B1) (by omega)).mono ?_
    rintro e w2 ⟨e1, f1, rfl, o1, B2⟩
    go_wp2_with fail
    refine (copy_any _ a2 _ c2 z2 ((h2.below B1).below B2) (by omega)).mono ?_
    rintro e w3 ⟨e2, f2, rfl, o2, B3⟩
    go_wp2_with fail
    refine (copy_any _ a3 _ c3 z3 (((h3.below B1).below B2).below B3) (by omega)).mono ?_
    rintro e w4 ⟨e3, f3, rfl, o3, B4⟩
    have R0 : Rd w4 (.slice e0 z0.length f0) z0 := (((Own.rd o0).below B2).below B3).below B4
    have R1 : Rd w4 (.slice e1 z1.length f1) z1 := ((Own.rd o1).below B3).below B4
    have R2 : Rd w4 (.slice e2 z2.length f2) z2 := (Own.rd o2).below B4
    have R3 : Rd w4 (.slice e3 z3.length f3) z3 := Own.rd o3
    have B04 : Below w.heap.size w w4 := ((B1.trans (B2.mono B1.size)).trans (B3.mono (Nat.le_trans B1.size B2.size))).trans (B4.mono (Nat.le_trans B1.size (Nat.le_trans B2.size B3.size)))
    clear o0 o1 o2 o3 B1 B2 B3 B4 h0 h1 h2 h3
    go_wp2_with fail
    cases hs with
    | false =>
      refine (build_no _ e0 e1 e2 e3 _ _ _ _ f0 f1 f2 f3 z2 z3 R2 R3 (by omega) (by omega)).mono ?_
      rintro e w5 ⟨g2, g3, i2, i3, rfl, p2, p3, B5⟩
      go_wp2_with fail
      refine (zzgs_no _ g2 g3 _ _ i2 i3 z2 z3 ((Own.rd p2).alloc _) ((Own.rd p3).alloc _) (by omega) (by omega)).mono ?_
      rintro e w6 ⟨b2, b3, d2, d3, rfl, q2, q3, ap, B6⟩
      obtain ⟨v, hv⟩ : ∃ v, v = w5.alloc (.cells #[.pointer none, .slice g2 z2.length i2, .slice g3 z3.length i3] 28) := ⟨_, rfl⟩
      have hsv : v.heap.size = w5.heap.size + 1 := by rw [hv]; simp
      have D6 : Below v.heap.size v w6 := by rw [hv]; exact B6
      have P2 : Rd v (.slice e2 z2.length f2) z2 := by rw [hv]; exact (R2.below B5).alloc _
      have P3 : Rd v (.slice e3 z3.length f3) z3 := by rw [hv]; exact (R3.below B5).alloc _
      have G2 : Rd v (.slice g2 z2.length i2) z2 := by rw [hv]; exact (Own.rd p2).alloc _
      have G3 : Rd v (.slice g3 z3.length i3) z3 := by rw [hv]; exact (Own.rd p3).alloc _
      have T : Three v w5.heap.size (.pointer none) (.slice g2 z2.length i2) (.slice g3 z3.length i3) := by rw [hv]; exact Three.new _ _ _ _
      have B0v : Below w.heap.size w v := by rw [hv]; exact (B04.trans (B5.mono B04.size)).alloc (Nat.le_trans B04.size B5.size) _
      have Q2 : Own w6 v.heap.size (.slice b2 z2.length d2) z2 := by rw [hv]; exact q2
      have Q3 : Own w6 v.heap.size (.slice b3 z3.length d3) z3 := by rw [hv]; exact q3
      clear hv q2 q3 p2 p3 B5 B6 B04 R0 R1 R2 R3
      have T6 := T.below D6
      have t60 := T6.cell0
      have hl6 := T6.lt
      go_wp2_with fail
      refine (equalGroup_any _ b2 b3 e2 e3 _ _ _ _ d2 d3 f2 f3 z2 z3 ((Own.rd Q2).alloc _) ((Own.rd Q3).alloc _) ((P2.below D6).alloc _) ((P3.below D6).alloc _) (by omega) (by omega)).mono ?_
      rintro e w7 ⟨rfl, B7⟩
      have D7 : Below v.heap.size v w7 := (D6.alloc D6.size _).trans (B7.mono (by have := D6.size; simp; omega))
      have C7 := (Three.new w6 (.pointer none) (.slice b2 z2.length d2) (.slice b3 z3.length d3)).below B7
      have Q27 : Own w7 v.heap.size (.slice b2 z2.length d2) z2 := Own.below (Own.alloc Q2 _) B7
      have Q37 : Own w7 v.heap.size (.slice b3 z3.length d3) z3 := Own.below (Own.alloc Q3 _) B7
      have c70 := C7.cell0
      have c71 := C7.cell1
      clear B7 D6 Q2 Q3 T6 t60
      go_wp2_with fail
      refine (flip_any w7 v _ b2 e2 _ _ d2 f2 z2 z2 Q27 P2 D7 rfl (by omega) (fun k e => (World.ownsRow.lt Q27 k e).1)).mono ?_
      rintro e w8 ⟨rfl, G8⟩
      have C8 := C7.grown G8 (Own.ne_three Q27 C7)
      have D8 : Below v.heap.size v w8 := D7.grown G8 D7.size (fun k e => (World.ownsRow.lt Q27 k e).1)
      have Q38 : Own w8 v.heap.size (.slice b3 z3.length d3) z3 := Own.grown Q37 G8 ap
      have c82 := C8.cell2
      clear c70 c71 D7 Q27 Q37 C7 G8
      go_wp2_with fail
      refine (flip_any w8 v _ b3 e3 _ _ d3 f3 z3 z3 Q38 P3 D8 rfl (by omega) (fun k e => (World.ownsRow.lt Q38 k e).1)).mono ?_
      rintro e w9 ⟨rfl, G9⟩
      have D9 : Below v.heap.size v w9 := D8.grown G9 D8.size (fun k e => (World.ownsRow.lt Q38 k e).1)
      have T9 := T.below D9
      have t91 := T9.cell1
      have t92 := T9.cell2
      clear c82 D8 Q38 C8 G9
      go_wp2_with fail
      refine (equalGroup_any _ g2 g3 e2 e3 _ _ _ _ i2 i3 f2 f3 z2 z3 (G2.below D9) (G3.below D9) (P2.below D9) (P3.below D9) (by omega) (by omega)).mono ?_
      rintro e w10 ⟨rfl, B10⟩
      have D10 : Below v.heap.size v w10 := D9.trans (B10.mono D9.size)
      have t100 := (T.below D10).cell0
      go_wp2
      go_ret
      exact ⟨rfl, B0v.trans (D10.mono B0v.size)⟩
    | true =>
      refine (build_yes _ e0 e1 e2 e3 _ _ _ _ f0 f1 f2 f3 z0 z1 z2 z3 R0 R1 R2 R3 (by omega) (by omega) (by omega) (by omega)).mono ?_
      rintro e w5 ⟨S, g0, g1, g2, g3, i0, i1, i2, i3, rfl, hS, TS, p0, p1, p2, p3, B5⟩
      go_wp2_with fail
      refine (zzgs_yes _ S g0 g1 g2 g3 _ _ _ _ i0 i1 i2 i3 z0 z1 z2 z3 (TS.alloc _) ((Own.rd p0).alloc _) ((Own.rd p1).alloc _) ((Own.rd p2).alloc _) ((Own.rd p3).alloc _) (by omega) (by omega) (by omega) (by omega)).mono ?_
      rintro e w6 ⟨S', b0, b1, b2, b3, d0, d1, d2, d3, rfl, hS', TS', q0, q1, q2, q3, ap, B6⟩
      obtain ⟨v, hv⟩ : ∃ v, v = w5.alloc (.cells #[.pointer (some ⟨S, 0, none⟩), .slice g2 z2.length i2, .slice g3 z3.length i3] 28) := ⟨_, rfl⟩
      have hsv : v.heap.size = w5.heap.size + 1 := by rw [hv]; simp
      have D6 : Below v.heap.size v w6 := by rw [hv]; exact B6
      have P0 : Rd v (.slice e0 z0.length f0) z0 := by rw [hv]; exact (R0.below B5).alloc _
      have P1 : Rd v (.slice e1 z1.length f1) z1 := by rw [hv]; exact (R1.below B5).alloc _
      have P2 : Rd v (.slice e2 z2.length f2) z2 := by rw [hv]; exact (R2.below B5).alloc _
      have P3 : Rd v (.slice e3 z3.length f3) z3 := by rw [hv]; exact (R3.below B5).alloc _
      have G0 : Rd v (.slice g0 z0.length i0) z0 := by rw [hv]; exact (Own.rd p0).alloc _
      have G1 : Rd v (.slice g1 z1.length i1) z1 := by rw [hv]; exact (Own.rd p1).alloc _
      have G2 : Rd v (.slice g2 z2.length i2) z2 := by rw [hv]; exact (Own.rd p2).alloc _
      have G3 : Rd v (.slice g3 z3.length i3) z3 := by rw [hv]; exact (Own.rd p3).alloc _
      have T : Three v w5.heap.size (.pointer (some ⟨S, 0, none⟩)) (.slice g2 z2.length i2) (.slice g3 z3.length i3) := by rw [hv]; exact Three.new _ _ _ _
      have U : Two v S 26 (.slice g0 z0.length i0) (.slice g1 z1.length i1) := by rw [hv]; exact TS.alloc _
      have B0v : Below w.heap.size w v := by rw [hv]; exact (B04.trans (B5.mono B04.size)).alloc (Nat.le_trans B04.size B5.size) _
      have hSne : (⟨S', 0, none⟩ : Addr) ≠ ⟨S, 0, none⟩ := fun e => by
        have h1 := TS.lt
        have h2 : w5.heap.size + 1 ≤ S' := by simpa using hS'
        simp only [Addr.mk.injEq] at e
        omega
      have Q0 : Own w6 v.heap.size (.slice b0 z0.length d0) z0 := by rw [hv]; exact q0
      have Q1 : Own w6 v.heap.size (.slice b1 z1.length d1) z1 := by rw [hv]; exact q1
      have Q2 : Own w6 v.heap.size (.slice b2 z2.length d2) z2 := by rw [hv]; exact q2
      have Q3 : Own w6 v.heap.size (.slice b3 z3.length d3) z3 := by rw [hv]; exact q3
      clear hv q0 q1 q2 q3 p0 p1 p2 p3 B5 B6 B04 R0 R1 R2 R3 hS hS' TS
      have T6 := T.below D6
      have t60 := T6.cell0
      have hl6 := T6.lt
      go_wp2_with fail
      refine (equalGroup_any _ b2 b3 e2 e3 _ _ _ _ d2 d3 f2 f3 z2 z3 ((Own.rd Q2).alloc _) ((Own.rd Q3).alloc _) ((P2.below D6).alloc _) ((P3.below D6).alloc _) (by omega) (by omega)).mono ?_
      rintro e w7 ⟨rfl, B7⟩
      have D7 : Below v.heap.size v w7 := (D6.alloc D6.size _).trans (B7.mono (by have := D6.size; simp; omega))
      have C7 := (Three.new w6 (.pointer (some ⟨S', 0, none⟩)) (.slice b2 z2.length d2) (.slice b3 z3.length d3)).below B7
      have X7 := (TS'.alloc (.cells #[.pointer (some ⟨S', 0, none⟩), .slice b2 z2.length d2, .slice b3 z3.length d3] 28)).below B7
      have Q07 : Own w7 v.heap.size (.slice b0 z0.length d0) z0 := Own.below (Own.alloc Q0 _) B7
      have Q17 : Own w7 v.heap.size (.slice b1 z1.length d1) z1 := Own.below (Own.alloc Q1 _) B7
      have Q27 : Own w7 v.heap.size (.slice b2 z2.length d2) z2 := Own.below (Own.alloc Q2 _) B7
      have Q37 : Own w7 v.heap.size (.slice b3 z3.length d3) z3 := Own.below (Own.alloc Q3 _) B7
      have c70 := C7.cell0
      have x70 := X7.cell0
      have x71 := X7.cell1
      have t70 := (T.below D7).cell0
      obtain ⟨j, hj, hjs⟩ := Option.map_eq_some_iff.1 size26
      have hpt : (binOp .eql 23 (.pointer (some ⟨S', 0, none⟩)) (.pointer (some ⟨S, 0, none⟩))).run Trym.prog w7 = .ok (.bool false) w7 := run_eql_ptr_other w7 Trym.underlying23 hj (by rw [hjs]; decide) hSne X7 (U.below D7)
      clear B7 D6 Q0 Q1 Q2 Q3 T6 t60 TS'
      go_wp2_with fail
      refine (equalGroup_any _ b0 b1 e0 e1 _ _ _ _ d0 d1 f0 f1 z0 z1 (Own.rd Q07) (Own.rd Q17) (P0.below D7) (P1.below D7) (by omega) (by omega)).mono ?_
      rintro e w8 ⟨rfl, B8⟩
      have D8 : Below v.heap.size v w8 := D7.trans (B8.mono D7.size)
      have C8 := C7.below B8
      have X8 := X7.below B8
      have Q08 : Own w8 v.heap.size (.slice b0 z0.length d0) z0 := Own.below Q07 B8
      have Q18 : Own w8 v.heap.size (.slice b1 z1.length d1) z1 := Own.below Q17 B8
      have Q28 : Own w8 v.heap.size (.slice b2 z2.length d2) z2 := Own.below Q27 B8
      have Q38 : Own w8 v.heap.size (.slice b3 z3.length d3) z3 := Own.below Q37 B8
      have c80 := C8.cell0
      have x80 := X8.cell0
      clear c70 x70 x71 t70 hpt hj hjs D7 C7 X7 Q07 Q17 Q27 Q37 B8
      go_wp2_with fail
      refine (flip_any w8 v _ b0 e0 _ _ d0 f0 z0 z0 Q08 P0 D8 rfl (by omega) (fun k e => (World.ownsRow.lt Q08 k e).1)).mono ?_
      rintro e w9 ⟨rfl, H9⟩
      have D9 : Below v.heap.size v w9 := D8.grown H9 D8.size (fun k e => (World.ownsRow.lt Q08 k e).1)
      have C9 := C8.grown H9 (Own.ne_three Q08 C8)
      have X9 := X8.grown H9 (Own.ne_two Q08 X8)
      have Q19 : Own w9 v.heap.size (.slice b1 z1.length d1) z1 := Own.grown Q18 H9 ap.a01
      have Q29 : Own w9 v.heap.size (.slice b2 z2.length d2) z2 := Own.grown Q28 H9 ap.a02
      have Q39 : Own w9 v.heap.size (.slice b3 z3.length d3) z3 := Own.grown Q38 H9 ap.a03
      have c90 := C9.cell0
      have x91 := X9.cell1
      clear c80 x80 D8 C8 X8 Q08 Q18 Q28 Q38 H9
      go_wp2_with fail
      refine (flip_any w9 v _ b1 e1 _ _ d1 f1 z1 z1 Q19 P1 D9 rfl (by omega) (fun k e => (World.ownsRow.lt Q19 k e).1)).mono ?_
      rintro e w10 ⟨rfl, H10⟩
      have D10 : Below v.heap.size v w10 := D9.grown H10 D9.size (fun k e => (World.ownsRow.lt Q19 k e).1)
      have C10 := C9.grown H10 (Own.ne_three Q19 C9)
      have Q20 : Own w10 v.heap.size (.slice b2 z2.length d2) z2 := Own.grown Q29 H10 ap.a12
      have Q30 : Own w10 v.heap.size (.slice b3 z3.length d3) z3 := Own.grown Q39 H10 ap.a13
      have c101 := C10.cell1
      clear c90 x91 D9 C9 X9 Q19 Q29 Q39 H10
      go_wp2_with fail
      refine (flip_any w10 v _ b2 e2 _ _ d2 f2 z2 z2 Q20 P2 D10 rfl (by omega) (fun k e => (World.ownsRow.lt Q20 k e).1)).mono ?_
      rintro e w11 ⟨rfl, H11⟩
      have D11 : Below v.heap.size v w11 := D10.grown H11 D10.size (fun k e => (World.ownsRow.lt Q20 k e).1)
      have C11 := C10.grown H11 (Own.ne_three Q20 C10)
      have Q31 : Own w11 v.heap.size (.slice b3 z3.length d3) z3 := Own.grown Q30 H11 ap.a23
      have c112 := C11.cell2
      clear c101 D10 C10 Q20 Q30 H11
      go_wp2_with fail
      refine (flip_any w11 v _ b3 e3 _ _ d3 f3 z3 z3 Q31 P3 D11 rfl (by omega) (fun k e => (World.ownsRow.lt Q31 k e).1)).mono ?_
      rintro e w12 ⟨rfl, H12⟩
      have D12 : Below v.heap.size v w12 := D11.grown H12 D11.size (fun k e => (World.ownsRow.lt Q31 k e).1)
      have t121 := (T.below D12).cell1
      have t122 := (T.below D12).cell2
      clear c112 D11 C11 Q31 H12
      go_wp2_with fail
      refine (equalGroup_any _ g2 g3 e2 e3 _ _ _ _ i2 i3 f2 f3 z2 z3 (G2.below D12) (G3.below D12) (P2.below D12) (P3.below D12) (by omega) (by omega)).mono ?_
      rintro e w13 ⟨rfl, B13⟩
      have D13 : Below v.heap.size v w13 := D12.trans (B13.mono D12.size)
      have t130 := (T.below D13).cell0
      have u130 := (U.below D13).cell0
      have u131 := (U.below D13).cell1
      clear t121 t122 D12 B13
      go_wp2_with fail
      refine (equalGroup_any _ g0 g1 e0 e1 _ _ _ _ i0 i1 f0 f1 z0 z1 (G0.below D13) (G1.below D13) (P0.below D13) (P1.below D13) (by omega) (by omega)).mono ?_
      rintro e w14 ⟨rfl, B14⟩
      go_wp2
      go_ret
      exact ⟨rfl, (B0v.trans (D13.mono B0v.size)).trans (B14.mono (Nat.le_trans B0v.size D13.size))⟩

end Go.Proofs.Qxb6001727aMods
