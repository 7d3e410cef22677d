/-
  THE WALK OF 'FnSkipDigitsStopsAtFirstNonDigit' out of the contracts of Qxb6001732aModsParts.lean.
-/
import Derived.Test.Qxb6001732aModsParts
namespace Go.Proofs.Qxb6001732aMods
open Go.RowKit

set_option maxHeartbeats 1000000 in
theorem law5 (w : World) (a : Option Addr) (c : Nat) (zs : List Int) (x : Int) (hx : x ≤ 9223372036854775807) (h : Rd w (.slice a zs.length c) zs) :
    Calls Trym.prog 5 #[.slice a zs.length c, .int .i64 x] w fun e w' => e = .returned (.bool true) ∧ Below w.heap.size w w' := by
  go_enter Trym.func5, Trym.ntmps5
  go_wp2_with fail
  refine (bytes13 _ a _ c x).mono ?_
  rintro e w' ⟨b, rfl, rfl⟩
  cases b with
  | false =>
    go_wp2
    go_ret
    exact ⟨rfl, Below.refl _ _⟩
  | true =>
    by_cases hl : zs.length ≤ 1048576
    case neg =>
      go_wp2
      go_ret
      exact ⟨rfl, Below.refl _ _⟩
    by_cases h0 : x < 0
    · go_wp2
      go_ret
      exact ⟨rfl, Below.refl _ _⟩
    go_wp2_with fail
    refine (copy_any _ a _ c zs h hl).mono ?_
    rintro e w1 ⟨a', c', rfl, o1, B1⟩
    have R1 := Own.rd o1
    clear o1 h
    go_wp2_with fail
    refine (zzSkipDigits_any _ a' c' zs x hl (by omega) hx R1).mono ?_
    rintro e w2 ⟨r, rfl, hs, B2⟩
    have L2 : Hid (Lies w2 a' zs) := (R1.below B2).lies
    have B02 : Below w.heap.size w w2 := B1.trans (B2.mono B1.size)
    clear B1 B2 R1
    have hs1 := hs.le
    have hs2 := hs.top
    have hs3 : Hid (∀ i : Nat, x ≤ i → (i : Int) < r → dgB (zs.getD i 0) = true) := hs.all
    have hs4 : Hid (∀ i : Nat, (i : Int) = r → i < zs.length → dgB (zs.getD i 0) = false) := hs.stop
    clear hs
    by_cases hxn : (zs.length : Int) ≤ x
    · obtain rfl : r = x := by omega
      go_wp2
      go_ret
      exact ⟨by simp, B02⟩
    · have hrn : r ≤ zs.length := by omega
      clear hs2
      go_wp2
      go_loop [6] (fun t => ∃ k : Int, t = .int .i64 k ∧ x ≤ k ∧ k ≤ r) (fun t => (r - intOf t).toNat)
      case atStart => exact ⟨x, rfl, Int.le_refl _, hs1⟩
      case round =>
        obtain ⟨k, rfl, hxk, hkr⟩ := hrel
        by_cases hlt : k < r
        · obtain ⟨i, rfl⟩ : ∃ i : Nat, k = i := ⟨k.toNat, by omega⟩
          have hi : i < zs.length := by omega
          obtain ⟨b, off, rfl, hc⟩ := L2.out (by omega)
          have hci := hc i hi
          have hq := hs3.out i hxk hlt
          generalize zs.getD i 0 = q at hci hq
          clear hc
          go_wp2_with (go_at_call 15; refine (isDigit_any _ q).mono ?_; rintro e w' ⟨rfl, rfl⟩)
          go_round
          case rel => exact ⟨(i : Int) + 1, rfl, by omega, by omega⟩
          case measure => simp [intOf]; omega
        · by_cases hrl : r < zs.length
          · obtain ⟨i, rfl⟩ : ∃ i : Nat, r = i := ⟨r.toNat, by omega⟩
            have hi : i < zs.length := by omega
            obtain ⟨b, off, rfl, hc⟩ := L2.out (by omega)
            have hci := hc i hi
            have hq := hs4.out i rfl hi
            generalize zs.getD i 0 = q at hci hq
            clear hc
            go_wp2_with (go_at_call 15; refine (isDigit_any _ q).mono ?_; rintro e w' ⟨rfl, rfl⟩)
            go_ret
            exact ⟨rfl, B02⟩
          · go_wp2
            go_ret
            exact ⟨rfl, B02⟩

end Go.Proofs.Qxb6001732aMods
