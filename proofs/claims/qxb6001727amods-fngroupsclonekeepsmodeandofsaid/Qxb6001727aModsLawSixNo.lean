/-
  THE WALK OF 'FnGroupsCloneKeepsModeAndOf' out of the contracts of Qxb6001727aModsGroups.lean and Qxb6001727aModsModes.lean.
-/
import Derived.Test.Qxb6001727aModsModes
import Derived.Deep.RegionWith
import Derived.Deep.Cut
import Derived.Deep.CutRange
namespace Go.Proofs.Qxb6001727aMods
open Go.RowKit

set_option maxHeartbeats 2000000 in
theorem law6_no (w : World) (x : Int) (a0 a1 a2 a3 : Option Addr) (c0 c1 c2 c3 : Nat) (z0 z1 z2 z3 : List Int) (h0 : Rd w (.slice a0 z0.length c0) z0) (h1 : Rd w (.slice a1 z1.length c1) z1)
    (h2 : Rd w (.slice a2 z2.length c2) z2) (h3 : Rd w (.slice a3 z3.length c3) z3) :
    Calls Trym.prog 6 #[.bool false, .slice a0 z0.length c0, .slice a1 z1.length c1, .slice a2 z2.length c2, .slice a3 z3.length c3, .int .u64 x] w fun e w' => e = .returned (.bool true) ∧ Below w.heap.size w w' := by
  go_enter Trym.func6, Trym.ntmps6
  go_wp2_with fail
  refine (bytes19 _ false a0 a1 a2 a3 _ _ _ _ c0 c1 c2 c3 x).mono ?_
  rintro e w' ⟨b, rfl, rfl⟩
  cases b with
  | false =>
    go_wp2
    go_ret
    exact ⟨rfl, Below.refl _ _⟩
  | true =>
    by_cases hl0 : z0.length ≤ 32768
    case neg =>
      go_wp2
      go_ret
      exact ⟨rfl, Below.refl _ _⟩
    by_cases hl1 : z1.length ≤ 32768
    case neg =>
      go_wp2
      go_ret
      exact ⟨rfl, Below.refl _ _⟩
    by_cases hl2 : z2.length ≤ 32768
    case neg =>
      go_wp2
      go_ret
      exact ⟨rfl, Below.refl _ _⟩
    by_cases hl3 : z3.length ≤ 32768
    case neg =>
      go_wp2
      go_ret
      exact ⟨rfl, Below.refl _ _⟩
    go_wp2_with fail
    refine (copy_any _ a0 _ c0 z0 h0 (by omega)).mono ?_
    rintro e w1 ⟨e0, f0, rfl, o0, B1⟩
    go_wp2_with fail
    refine (copy_any _ a1 _ c1 z1 (h1.below B1) (by omega)).mono ?_
    rintro e w2 ⟨e1, f1, rfl, o1, B2⟩
    go_wp2_with fail
    refine (copy_any _ a2 _ c2 z2 ((h2.below B1).below B2) (by omega)).mono ?_
    rintro e w3 ⟨e2, f2, rfl, o2, B3⟩
    go_wp2_with fail
    refine (copy_any _ a3 _ c3 z3 (((h3.below B1).below B2).below B3) (by omega)).mono ?_
    rintro e w4 ⟨e3, f3, rfl, o3, B4⟩
    have R0 : Rd w4 (.slice e0 z0.length f0) z0 := (((Own.rd o0).below B2).below B3).below B4
    have R1 : Rd w4 (.slice e1 z1.length f1) z1 := ((Own.rd o1).below B3).below B4
    have R2 : Rd w4 (.slice e2 z2.length f2) z2 := (Own.rd o2).below B4
    have R3 : Rd w4 (.slice e3 z3.length f3) z3 := Own.rd o3
    have B04 : Below w.heap.size w w4 := ((B1.trans (B2.mono B1.size)).trans (B3.mono (Nat.le_trans B1.size B2.size))).trans (B4.mono (Nat.le_trans B1.size (Nat.le_trans B2.size B3.size)))
    clear o0 o1 o2 o3 B1 B2 B3 B4 h0 h1 h2 h3
    go_wp2_with fail
    refine (build_no _ e0 e1 e2 e3 _ _ _ _ f0 f1 f2 f3 z2 z3 R2 R3 (by omega) (by omega)).mono ?_
    rintro e w5 ⟨g2, g3, i2, i3, rfl, p2, p3, B5⟩
    go_wp2_with fail
    refine (zzgs_no _ g2 g3 _ _ i2 i3 z2 z3 ((Own.rd p2).alloc _) ((Own.rd p3).alloc _) (by omega) (by omega)).mono ?_
    rintro e w6 ⟨b2, b3, d2, d3, rfl, q2, q3, ap, B6⟩
    have T6 := (Three.new w5 (.pointer none) (.slice g2 z2.length i2) (.slice g3 z3.length i3)).below B6
    have G2 := ((Own.rd p2).alloc (.cells #[.pointer none, .slice g2 z2.length i2, .slice g3 z3.length i3] 28)).below B6
    have G3 := ((Own.rd p3).alloc (.cells #[.pointer none, .slice g2 z2.length i2, .slice g3 z3.length i3] 28)).below B6
    have Q2 := Own.rd q2
    have Q3 := Own.rd q3
    have B06 : Below w.heap.size w w6 := ((B04.trans (B5.mono B04.size)).alloc (Nat.le_trans B04.size B5.size) _).trans (B6.mono (by have h4 := B04.size; have h5 := B5.size; simp; omega))
    clear R0 R1 R2 R3 B04 p2 p3 q2 q3 ap B5 B6
    have C6 := Three.new w6 (.pointer none) (.slice b2 z2.length d2) (.slice b3 z3.length d3)
    have T7 := T6.alloc (.cells #[.pointer none, .slice b2 z2.length d2, .slice b3 z3.length d3] 28)
    replace G2 := G2.alloc (.cells #[.pointer none, .slice b2 z2.length d2, .slice b3 z3.length d3] 28)
    replace G3 := G3.alloc (.cells #[.pointer none, .slice b2 z2.length d2, .slice b3 z3.length d3] 28)
    replace Q2 := Q2.alloc (.cells #[.pointer none, .slice b2 z2.length d2, .slice b3 z3.length d3] 28)
    replace Q3 := Q3.alloc (.cells #[.pointer none, .slice b2 z2.length d2, .slice b3 z3.length d3] 28)
    replace B06 := B06.alloc (B06.size) (.cells #[.pointer none, .slice b2 z2.length d2, .slice b3 z3.length d3] 28)
    go_wp2_with fail
    generalize w6.alloc (.cells #[.pointer none, .slice b2 z2.length d2, .slice b3 z3.length d3] 28) = v at *
    go_cut [57] from 51 to 57 (fun s57 wx => s57 = .bool false ∧ Below v.heap.size v wx)
    case first =>
      have c0' := C6.cell0
      have c1' := C6.cell1
      have c2' := C6.cell2
      have t0' := T7.cell0
      have t1' := T7.cell1
      have t2' := T7.cell2
      have t0'' : ∀ o, (v.alloc o).cell? ⟨w5.heap.size, 0, none⟩ = some (.pointer none) := fun o => (T7.alloc o).cell0
      have t1'' : ∀ o, (v.alloc o).cell? ⟨w5.heap.size, 1, none⟩ = some (.slice g2 z2.length i2) := fun o => (T7.alloc o).cell1
      have t2'' : ∀ o, (v.alloc o).cell? ⟨w5.heap.size, 2, none⟩ = some (.slice g3 z3.length i3) := fun o => (T7.alloc o).cell2
      go_region_with (go_at_call 10; refine (mode_no _ _ _ _ _ _ _ _).mono ?_; rintro e w' ⟨rfl, rfl⟩)
      all_goals
        go_wp2_with fail
        go_meet
        case rel => exact ⟨rfl, (((Below.refl _ v).alloc (Nat.le_refl _) _).alloc (by simp) _).drew⟩
    case rest =>
      obtain ⟨rfl, hwc⟩ := hcut
      have C7 := C6.below hwc
      have T8 := T7.below hwc
      have c0' := C7.cell0
      have c1' := C7.cell1
      have c2' := C7.cell2
      have t0' := T8.cell0
      have t1' := T8.cell1
      have t2' := T8.cell2
      have t0'' : ∀ o1 o2 o3, (((wc.alloc o1).alloc o2).alloc o3).cell? ⟨w5.heap.size, 0, none⟩ = some (.pointer none) := fun o1 o2 o3 => (((T8.alloc o1).alloc o2).alloc o3).cell0
      have t1'' : ∀ o1 o2 o3, (((wc.alloc o1).alloc o2).alloc o3).cell? ⟨w5.heap.size, 1, none⟩ = some (.slice g2 z2.length i2) := fun o1 o2 o3 => (((T8.alloc o1).alloc o2).alloc o3).cell1
      have t2'' : ∀ o1 o2 o3, (((wc.alloc o1).alloc o2).alloc o3).cell? ⟨w5.heap.size, 2, none⟩ = some (.slice g3 z3.length i3) := fun o1 o2 o3 => (((T8.alloc o1).alloc o2).alloc o3).cell2
      have b2' := Q2.below hwc
      have b3' := Q3.below hwc
      have g2' := G2.below hwc
      have g3' := G3.below hwc
      have m2 : z2.length ≤ 1048576 := by omega
      have m3 : z3.length ≤ 1048576 := by omega
      have fin : Hid (∀ o1 o2 o3 o4 o5 o6 w', Below (six wc o1 o2 o3 o4 o5 o6).heap.size (six wc o1 o2 o3 o4 o5 o6) w' → Below w.heap.size w w') := fun o1 o2 o3 o4 o5 o6 w' h => by
        have k1 := B06.trans (hwc.mono B06.size)
        exact (below_six k1 k1.size o1 o2 o3 o4 o5 o6).trans (h.mono (Nat.le_trans k1.size (size_six wc o1 o2 o3 o4 o5 o6)))
      clear C6 T6 T7 T8 C7 hwc B06 Q2 Q3 G2 G3
      go_wp2_with fail
      go_region_with (first | (go_at_call 13; refine (of_no _ _ _ _ _ _ _ _).mono ?_; rintro e w' ⟨rfl, rfl⟩) | (go_at_call 14; refine (sameGroup_any _ b2 b3 g2 g3 _ _ _ _ d2 d3 i2 i3 z2 z3 (b2'.six _ _ _ _ _ _) (b3'.six _ _ _ _ _ _) (g2'.six _ _ _ _ _ _) (g3'.six _ _ _ _ _ _) m2 m3).mono ?_; rintro e w' ⟨rfl, hb⟩; replace hb := fin.out _ _ _ _ _ _ w' hb))
      all_goals
        go_wp2
        go_ret
        exact ⟨rfl, by assumption⟩

end Go.Proofs.Qxb6001727aMods
