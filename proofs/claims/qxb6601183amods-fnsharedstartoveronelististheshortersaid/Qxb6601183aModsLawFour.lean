/-
  THE WALK OF 'FnSharedStartOverOneListIsTheShorter' out of the contracts.
-/
import Derived.Test.Qxb6601183aModsShared
namespace Go.Proofs.Qxb6601183aMods
open Go.RowKit

theorem bdrewN {B : Nat} {a w : World} (h : Below B a w) (n : Nat) : Below B a (w.drewN n) := ⟨h.os, h.tape, h.output, h.size, h.block⟩

set_option maxHeartbeats 2000000 in
theorem law4 (w : World) (a a' : Option Addr) (c c' : Nat) (ss ts : List ByteArray) (x y : Int) (hL : Lies w a ss) (hL' : Lies w a' ts) :
    Calls Trym.prog 4 #[.slice a ss.length c, .slice a' ts.length c', .int .i64 x, .int .i64 y] w fun e w' => e = .returned (.bool true) ∧ Below w.heap.size w w' := by
  obtain ⟨n, hn⟩ : ∃ n, ss.length = n := ⟨_, rfl⟩
  obtain ⟨n', hn'⟩ : ∃ n', ts.length = n' := ⟨_, rfl⟩
  rw [hn, hn']
  have HN : Hid (ss.length = n) := hn
  have HN' : Hid (ts.length = n') := hn'
  have HL : Hid (Lies w a ss) := hL
  have HL' : Hid (Lies w a' ts) := hL'
  clear hn hn' hL hL'
  go_enter Trym.func4, Trym.ntmps4
  go_wp2_with fail
  refine (bytes13 _ a a' n n' c c' ss ts x y HN HN' HL HL').mono ?_
  rintro e w' ⟨⟨b, rfl⟩, rfl⟩
  cases b with
  | false =>
    go_wp2
    go_ret
    exact ⟨rfl, Below.refl _ _⟩
  | true =>
    by_cases hl : n ≤ 65536
    case neg =>
      go_wp2
      go_ret
      exact ⟨rfl, Below.refl _ _⟩
    by_cases hl' : n' ≤ 65536
    case neg =>
      go_wp2
      go_ret
      exact ⟨rfl, Below.refl _ _⟩
    go_wp2_with fail
    refine (strs_any _ a n c ss HN HL).mono ?_
    rintro e w' ⟨⟨z1, rfl⟩, rfl⟩
    go_wp2_with fail
    refine (strs_any _ a' n' c' ts HN' HL').mono ?_
    rintro e w' ⟨⟨z2, rfl⟩, rfl⟩
    by_cases hnn : n = n'
    case neg =>
      have hne : ((n : Int) == (n' : Int)) = false := by simp; omega
      go_wp2
      all_goals
        go_ret
        exact ⟨rfl, Below.refl _ _⟩
    subst hnn
    by_cases hxy : 0 ≤ x ∧ x ≤ n ∧ 0 ≤ y ∧ y ≤ n
    case neg =>
      go_wp2
      all_goals
        go_ret
        exact ⟨rfl, Below.refl _ _⟩
    obtain ⟨hx0, hxn, hy0, hyn⟩ := hxy
    obtain ⟨j, rfl⟩ : ∃ j : Nat, x = j := ⟨x.toNat, by omega⟩
    obtain ⟨k, rfl⟩ : ∃ k : Nat, y = k := ⟨y.toNat, by omega⟩
    have hjn : j ≤ n := by omega
    have hkn : k ≤ n := by omega
    go_wp2_with fail
    · go_ret
      exact ⟨rfl, Below.refl _ _⟩
    refine (toCmds_any _ a a' n c c' ss ts HN HN' hl HL HL').mono ?_
    rintro e w1 ⟨rfl, hC, hb⟩
    have hj6 : j ≤ 65536 := by omega
    have hk6 : k ≤ 65536 := by omega
    by_cases hkj : k < j
    · have el : lesser j k = k := if_pos hkj
      have Z1 : Hid (∀ W : World, Calls Trym.prog 12 #[.slice (some ⟨w.heap.size, 0, none⟩) j n, .slice (some ⟨w.heap.size, 0, none⟩) k n] W fun e w' => e = .returned (.int .i64 (k : Nat)) ∧ ∃ m, w' = W.drewN m) := fun W => by
        have := zz_same W w.heap.size j k n n hj6 hk6
        rwa [el] at this
      have HC : Hid (Cmds w1 w.heap.size n n ss ts) := hC
      have EL : Hid (lesser j k = k) := el
      have hlt1 : w.heap.size < w1.heap.size := hC.lt
      clear hC el
      go_wp2
      go_quiet ((go_at_call 12; exact Calls.quiet_of (Z1.out _)))
      go_wp2_with fail
      refine (clone_any (w1.drewN nq) w.heap.size n k n ss ts (HC.out.block rfl) hl hkn).mono ?_
      rintro e w2 ⟨rfl, hC2, hb2⟩
      have Z2 : Calls Trym.prog 12 #[.slice (some ⟨w.heap.size, 0, none⟩) j n, .slice (some ⟨w1.heap.size, 0, none⟩) k k] w2 fun e w' => e = .returned (.int .i64 (k : Nat)) ∧ ∃ m, w' = w2.drewN m := by
        have hC1 : Cmds (w1.drewN nq) w.heap.size n n ss ts := HC.out.block rfl
        have := zz_other w2 w.heap.size w1.heap.size n k j k n k ss ts hj6 hk6 (by omega) (hC1.below hb2) hC2 hjn (Nat.le_refl _)
        rwa [EL.out] at this
      have B2 : Below w.heap.size w w2 := (bdrewN hb nq).trans (hb2.mono (by show _ ≤ w1.heap.size; omega))
      have HZ : Hid (Calls Trym.prog 12 #[.slice (some ⟨w.heap.size, 0, none⟩) j n, .slice (some ⟨w1.heap.size, 0, none⟩) k k] w2 fun e w' => e = .returned (.int .i64 (k : Nat)) ∧ ∃ m, w' = w2.drewN m) := Z2
      clear Z1 Z2 hC2 hb2 hb
      go_wp2_with fail
      refine HZ.out.mono ?_
      rintro e w3 ⟨rfl, m, rfl⟩
      go_wp2
      go_ret
      exact ⟨by simp, bdrewN B2 m⟩
    · have el : lesser j k = j := if_neg hkj
      have Z1 : Hid (∀ W : World, Calls Trym.prog 12 #[.slice (some ⟨w.heap.size, 0, none⟩) j n, .slice (some ⟨w.heap.size, 0, none⟩) k n] W fun e w' => e = .returned (.int .i64 (j : Nat)) ∧ ∃ m, w' = W.drewN m) := fun W => by
        have := zz_same W w.heap.size j k n n hj6 hk6
        rwa [el] at this
      have HC : Hid (Cmds w1 w.heap.size n n ss ts) := hC
      have EL : Hid (lesser j k = j) := el
      have hlt1 : w.heap.size < w1.heap.size := hC.lt
      clear hC el
      go_wp2
      go_quiet ((go_at_call 12; exact Calls.quiet_of (Z1.out _)))
      go_wp2_with fail
      refine (clone_any (w1.drewN nq) w.heap.size n k n ss ts (HC.out.block rfl) hl hkn).mono ?_
      rintro e w2 ⟨rfl, hC2, hb2⟩
      have Z2 : Calls Trym.prog 12 #[.slice (some ⟨w.heap.size, 0, none⟩) j n, .slice (some ⟨w1.heap.size, 0, none⟩) k k] w2 fun e w' => e = .returned (.int .i64 (j : Nat)) ∧ ∃ m, w' = w2.drewN m := by
        have hC1 : Cmds (w1.drewN nq) w.heap.size n n ss ts := HC.out.block rfl
        have := zz_other w2 w.heap.size w1.heap.size n k j k n k ss ts hj6 hk6 (by omega) (hC1.below hb2) hC2 hjn (Nat.le_refl _)
        rwa [EL.out] at this
      have B2 : Below w.heap.size w w2 := (bdrewN hb nq).trans (hb2.mono (by show _ ≤ w1.heap.size; omega))
      have HZ : Hid (Calls Trym.prog 12 #[.slice (some ⟨w.heap.size, 0, none⟩) j n, .slice (some ⟨w1.heap.size, 0, none⟩) k k] w2 fun e w' => e = .returned (.int .i64 (j : Nat)) ∧ ∃ m, w' = w2.drewN m) := Z2
      clear Z1 Z2 hC2 hb2 hb
      go_wp2_with fail
      refine HZ.out.mono ?_
      rintro e w3 ⟨rfl, m, rfl⟩
      go_wp2
      go_ret
      exact ⟨by simp, bdrewN B2 m⟩

end Go.Proofs.Qxb6601183aMods
