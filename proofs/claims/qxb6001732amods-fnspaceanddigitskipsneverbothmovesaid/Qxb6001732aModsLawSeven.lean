/-
  THE WALK OF 'FnSpaceAndDigitSkipsNeverBothMove' out of the contracts of Qxb6001732aModsParts.lean.
-/
import Derived.Test.Qxb6001732aModsParts
namespace Go.Proofs.Qxb6001732aMods
open Go.RowKit

/-- A byte is never both space and digit. -/
theorem sp_dg (q : Int) (h : spB q = true) (k : dgB q = true) : False := by
  simp only [spB, dgB, Bool.or_eq_true, beq_iff_eq, Bool.and_eq_true, decide_eq_true_eq] at h k
  omega

/-- So not both skips move on. -/
theorem never_both {zs : List Int} {x s d : Int} (h0 : 0 ≤ x) (hs : Skip spB zs x s) (hd : Skip dgB zs x d) (hne : s ≠ x) : d = x := by
  have h1 := hs.le
  have h2 := hd.le
  by_cases e : d = x
  · exact e
  · exfalso
    exact sp_dg _ (hs.all x.toNat (by omega) (by omega)) (hd.all x.toNat (by omega) (by omega))

set_option maxHeartbeats 1000000 in
theorem law7 (w : World) (a : Option Addr) (c : Nat) (zs : List Int) (x : Int) (hx : x ≤ 9223372036854775807) (h : Rd w (.slice a zs.length c) zs) :
    Calls Trym.prog 7 #[.slice a zs.length c, .int .i64 x] w fun e w' => e = .returned (.bool true) ∧ Below w.heap.size w w' := by
  go_enter Trym.func7, Trym.ntmps7
  go_wp2_with fail
  refine (bytes17 _ a _ c x).mono ?_
  rintro e w' ⟨b, rfl, rfl⟩
  cases b with
  | false =>
    go_wp2
    go_ret
    exact ⟨rfl, Below.refl _ _⟩
  | true =>
    by_cases hl : zs.length ≤ 1048576
    case neg =>
      go_wp2
      go_ret
      exact ⟨rfl, Below.refl _ _⟩
    by_cases h0 : x < 0
    · go_wp2
      go_ret
      exact ⟨rfl, Below.refl _ _⟩
    go_wp2_with fail
    refine (copy_any _ a _ c zs h hl).mono ?_
    rintro e w1 ⟨a', c', rfl, o1, B1⟩
    have R1 := Own.rd o1
    clear o1 h
    go_wp2_with fail
    refine (zzSkipSpace_any _ a' c' zs x hl (by omega) hx R1).mono ?_
    rintro e w2 ⟨s, rfl, hs, B2⟩
    have R2 := R1.below B2
    have B02 : Below w.heap.size w w2 := B1.trans (B2.mono B1.size)
    clear B1 B2 R1
    go_wp2_with fail
    refine (zzSkipDigits_any _ a' c' zs x hl (by omega) hx R2).mono ?_
    rintro e w3 ⟨d, rfl, hd, B3⟩
    have B03 : Below w.heap.size w w3 := B02.trans (B3.mono B02.size)
    clear B02 B3 R2
    by_cases he : s = x
    · subst he
      clear hs hd
      go_wp2
      go_ret
      exact ⟨rfl, B03⟩
    · obtain rfl := never_both (by omega) hs hd he
      have hne : (s == d) = false := by simpa using he
      clear hs hd
      go_wp2
      go_ret
      exact ⟨by simp, B03⟩

end Go.Proofs.Qxb6001732aMods
