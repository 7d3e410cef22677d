/-
  THE WALK OF 'FnGroupCloneSharesNoMemory' out of the contracts of Qxb6001727aModsParts.lean.
-/
import Derived.Test.Qxb6001727aModsParts
namespace Go.Proofs.Qxb6001727aMods
open Go.RowKit

set_option maxHeartbeats 1000000 in
theorem law7 (w : World) (a0 a1 : Option Addr) (c0 c1 : Nat) (z0 z1 : List Int) (h0 : Rd w (.slice a0 z0.length c0) z0) (h1 : Rd w (.slice a1 z1.length c1) z1) :
    Calls Trym.prog 7 #[.slice a0 z0.length c0, .slice a1 z1.length c1] w fun e w' => e = .returned (.bool true) ∧ Below w.heap.size w w' := by
  go_enter Trym.func7, Trym.ntmps7
  go_wp2_with fail
  refine (bytes20 _ a0 a1 _ _ c0 c1).mono ?_
  rintro e w' ⟨b, rfl, rfl⟩
  cases b with
  | false =>
    go_wp2
    go_ret
    exact ⟨rfl, Below.refl _ _⟩
  | true =>
    by_cases hl0 : z0.length ≤ 65536
    case neg =>
      go_wp2
      go_ret
      exact ⟨rfl, Below.refl _ _⟩
    by_cases hl1 : z1.length ≤ 65536
    case neg =>
      go_wp2
      go_ret
      exact ⟨rfl, Below.refl _ _⟩
    go_wp2_with fail
    refine (copy_any _ a0 _ c0 z0 h0 (by omega)).mono ?_
    rintro e w1 ⟨a2, c2, rfl, o1, B1⟩
    go_wp2_with fail
    refine (copy_any _ a1 _ c1 z1 (h1.below B1) (by omega)).mono ?_
    rintro e w2 ⟨a3, c3, rfl, o2, B2⟩
    go_wp2_with fail
    refine (copy_any _ a2 _ c2 z0 ((Own.rd o1).below B2) (by omega)).mono ?_
    rintro e w3 ⟨a4, c4, rfl, o3, B3⟩
    go_wp2_with fail
    refine (copy_any _ a3 _ c3 z1 ((Own.rd o2).below B3) (by omega)).mono ?_
    rintro e w4 ⟨a5, c5, rfl, o4, B4⟩
    have R2 : Rd w4 (.slice a2 z0.length c2) z0 := (((Own.rd o1).below B2).below B3).below B4
    have R3 : Rd w4 (.slice a3 z1.length c3) z1 := ((Own.rd o2).below B3).below B4
    have R4 : Rd w4 (.slice a4 z0.length c4) z0 := (Own.rd o3).below B4
    have R5 : Rd w4 (.slice a5 z1.length c5) z1 := Own.rd o4
    have B04 : Below w.heap.size w w4 := ((B1.trans (B2.mono B1.size)).trans (B3.mono (Nat.le_trans B1.size B2.size))).trans (B4.mono (Nat.le_trans B1.size (Nat.le_trans B2.size B3.size)))
    clear o1 o2 o3 o4 B1 B2 B3 B4 h0 h1
    go_wp2_with fail
    refine (zzclone_any _ a4 a5 _ _ c4 c5 z0 z1 (R4.alloc _) (R5.alloc _) (by omega) (by omega)).mono ?_
    rintro e w5 ⟨b0, b1, d0, d1, rfl, o5, o6, ap, B5⟩
    have G5 := (Two.new w4 26 (.slice a4 z0.length c4) (.slice a5 z1.length c5)).below B5
    go_wp2_with fail
    refine (equalGroup_any _ b0 b1 a2 a3 _ _ _ _ d0 d1 c2 c3 z0 z1 ((Own.rd o5).alloc _) ((Own.rd o6).alloc _) (((R2.alloc _).below B5).alloc _) (((R3.alloc _).below B5).alloc _) (by omega) (by omega)).mono ?_
    rintro e w6 ⟨rfl, B6⟩
    have C6 := (Two.new w5 26 (.slice b0 z0.length d0) (.slice b1 z1.length d1)).below B6
    have O5 : Own w6 (w4.heap.size + 1) (.slice b0 z0.length d0) z0 := Own.below (Own.below (by simpa using o5) ((Below.refl _ w5).alloc (Nat.le_refl _) _)) B6
    have O6 : Own w6 (w4.heap.size + 1) (.slice b1 z1.length d1) z1 := Own.below (Own.below (by simpa using o6) ((Below.refl _ w5).alloc (Nat.le_refl _) _)) B6
    -- what lies below w4.heap.size + 1 (the arguments' copies, g and g's slices) has not turned
    obtain ⟨v4, hv4⟩ : ∃ v4, v4 = w4.alloc (.cells #[.slice a4 z0.length c4, .slice a5 z1.length c5] 26) := ⟨_, rfl⟩
    have hs4 : v4.heap.size = w4.heap.size + 1 := by rw [hv4]; simp
    have D6 : Below v4.heap.size v4 w6 := by
      rw [hv4]
      exact (B5.alloc (by have := B5.size; omega) _).trans (B6.mono (by have := B5.size; simp at this ⊢; omega))
    have P2 : Rd v4 (.slice a2 z0.length c2) z0 := by rw [hv4]; exact R2.alloc _
    have P3 : Rd v4 (.slice a3 z1.length c3) z1 := by rw [hv4]; exact R3.alloc _
    have P4 : Rd v4 (.slice a4 z0.length c4) z0 := by rw [hv4]; exact R4.alloc _
    have P5 : Rd v4 (.slice a5 z1.length c5) z1 := by rw [hv4]; exact R5.alloc _
    have G4 : Two v4 w4.heap.size 26 (.slice a4 z0.length c4) (.slice a5 z1.length c5) := by rw [hv4]; exact Two.new _ _ _ _
    have B0v : Below w.heap.size w v4 := by rw [hv4]; exact B04.alloc B04.size _
    have nb0 : (Value.slice b0 z0.length d0).ownBlock ≠ some w5.heap.size := fun e => by have := (World.ownsRow.lt o5 _ e).2; omega
    have lo0 : ∀ k, (Value.slice b0 z0.length d0).ownBlock = some k → w4.heap.size + 1 ≤ k := fun k e => (World.ownsRow.lt O5 k e).1
    have lo1 : ∀ k, (Value.slice b1 z1.length d1).ownBlock = some k → w4.heap.size + 1 ≤ k := fun k e => (World.ownsRow.lt O6 k e).1
    have HV : Hid (v4 = w4.alloc (.cells #[.slice a4 z0.length c4, .slice a5 z1.length c5] 26)) := hv4
    clear hv4 R2 R3 R4 R5 o5 o6 B5 B6 B04 G5
    have c60 := C6.cell0
    have c61 := C6.cell1
    go_wp2_with fail
    refine (flip_any w6 v4 _ b0 a2 _ _ d0 c2 z0 z0 O5 P2 D6 rfl (by omega) (by rw [hs4]; exact lo0)).mono ?_
    rintro e w7 ⟨rfl, G7⟩
    have C7 := C6.grown G7 nb0
    have c70 := C7.cell0
    have c71 := C7.cell1
    have O67 : Own w7 (w4.heap.size + 1) (.slice b1 z1.length d1) z1 := Own.grown O6 G7 ap
    have D7 : Below v4.heap.size v4 w7 := D6.grown G7 D6.size (by rw [hs4]; exact lo0)
    clear c60 c61
    go_wp2_with fail
    refine (flip_any w7 v4 _ b1 a3 _ _ d1 c3 z1 z1 O67 P3 D7 rfl (by omega) (by rw [hs4]; exact lo1)).mono ?_
    rintro e w8 ⟨rfl, G8⟩
    have D8 : Below v4.heap.size v4 w8 := D7.grown G8 D7.size (by rw [hs4]; exact lo1)
    have G8 := G4.below D8
    have g80 := G8.cell0
    have g81 := G8.cell1
    clear c70 c71
    go_wp2_with fail
    refine (equalGroup_any _ a4 a5 a2 a3 _ _ _ _ c4 c5 c2 c3 z0 z1 (P4.below D8) (P5.below D8) (P2.below D8) (P3.below D8) (by omega) (by omega)).mono ?_
    rintro e w9 ⟨rfl, B9⟩
    go_wp2
    go_ret
    exact ⟨rfl, (B0v.trans (D8.mono B0v.size)).trans (B9.mono (Nat.le_trans B0v.size D8.size))⟩

end Go.Proofs.Qxb6001727aMods
