/-
  sharedStart: over one list's memory; over a list and its copy.
-/
import Derived.Test.Qxb6601183aModsCmds
namespace Go.Proofs.Qxb6601183aMods
open Go.RowKit

theorem size45 : (Trym.prog.info? 45).map (·.size) = some 2 := by kernel_rfl

set_option maxHeartbeats 400000 in
theorem shared_zero (w : World) (a a' : Option Addr) (n n' c c' : Nat) (h : n = 0 ∨ n' = 0) :
    Calls Trym.prog 27 #[.slice a n c, .slice a' n' c'] w fun e w' => e = .returned (.int .i64 0) ∧ ∃ m, w' = w.drewN m := by
  have hd : decide ((0 : Int) < (0 : Int)) = false := by decide
  rcases Nat.lt_or_ge n' n with hlt | hge
  · obtain rfl : n' = 0 := by omega
    have hlt' : (0 : Nat) < n := hlt
    go_enter Trym.func27, Trym.ntmps27
    go_wp2
    go_quiet (fail)
    go_wp2
    refine wp_loop_rounds 1 ?_
    rw [rounds_succ]
    go_wp2
    go_quiet (fail)
    go_wp2
    go_ret
    exact ⟨rfl, _, World.drewN_drewN ..⟩
  · obtain rfl : n = 0 := by omega
    go_enter Trym.func27, Trym.ntmps27
    go_wp2
    go_quiet (fail)
    go_wp2
    refine wp_loop_rounds 1 ?_
    rw [rounds_succ]
    go_wp2
    go_quiet (fail)
    go_wp2
    go_ret
    exact ⟨rfl, _, World.drewN_drewN ..⟩

/-- OVER ONE MEMORY: the shorter length at once. -/
theorem shared_same (w : World) (g n n' c c' : Nat) (hn : n ≤ 65536) (hn' : n' ≤ 65536) (h0 : 0 < n) (h0' : 0 < n') :
    Calls Trym.prog 27 #[.slice (some ⟨g, 0, none⟩) n c, .slice (some ⟨g, 0, none⟩) n' c'] w fun e w' => e = .returned (.int .i64 (if n' < n then n' else n : Nat)) ∧ ∃ m, w' = w.drewN m := by
  obtain ⟨j, hj, hjs⟩ := Option.map_eq_some_iff.1 size45
  have hpt : ∀ W : World, (binOp .eql 55 (.pointer (some ⟨g, 0, none⟩)) (.pointer (some ⟨g, 0, none⟩))).run Trym.prog W = .ok (.bool true) W := fun W => run_eql_ptr_same W _ Trym.underlying55 hj
  have hp : (0 : Int) < (n : Int) := by omega
  have hp' : (0 : Int) < (n' : Int) := by omega
  by_cases hlt : n' < n
  · rw [if_pos hlt]
    go_enter Trym.func27, Trym.ntmps27
    go_wp2
    go_quiet (fail)
    go_wp2
    go_ret
    exact ⟨rfl, _, rfl⟩
  · rw [if_neg hlt]
    go_enter Trym.func27, Trym.ntmps27
    go_wp2
    go_quiet (fail)
    go_wp2
    go_ret
    exact ⟨rfl, _, rfl⟩

set_option maxHeartbeats 1000000 in
/-- OVER A LIST AND ITS COPY ELSEWHERE: the shorter length, command by command. -/
theorem shared_other (w : World) (g g' m m' n n' c c' : Nat) (ss ts : List ByteArray) (hn : n ≤ 65536) (hn' : n' ≤ 65536) (h0 : 0 < n) (h0' : 0 < n') (hne : g ≠ g') (hC : Hid (Cmds w g m m ss ts)) (hC' : Hid (Cmds w g' m' m' ss ts)) (hnm : n ≤ m) (hnm' : n' ≤ m') :
    Calls Trym.prog 27 #[.slice (some ⟨g, 0, none⟩) n c, .slice (some ⟨g', 0, none⟩) n' c'] w fun e w' => e = .returned (.int .i64 (if n' < n then n' else n : Nat)) ∧ ∃ m, w' = w.drewN m := by
  obtain ⟨j, hj, hjs⟩ := Option.map_eq_some_iff.1 size45
  have hpt : ∀ k, (binOp .eql 55 (.pointer (some ⟨g, 0, none⟩)) (.pointer (some ⟨g', 0, none⟩))).run Trym.prog (w.drewN k) = .ok (.bool false) (w.drewN k) := fun k => by
    obtain ⟨cur, hh, _⟩ := hC.out
    obtain ⟨cur', hh', _⟩ := hC'.out
    exact run_eql_ptr_other (w.drewN k) Trym.underlying55 hj (by rw [hjs]; decide) (fun e => hne (Addr.mk.inj e).1) hh hh'
  have hp : (0 : Int) < (n : Int) := by omega
  have hp' : (0 : Int) < (n' : Int) := by omega
  by_cases hlt : n' < n
  · rw [if_pos hlt]
    go_enter Trym.func27, Trym.ntmps27
    go_wp2
    go_quiet (fail)
    go_wp2
    go_loopw [6] (fun i wr => ∃ k q : Nat, k ≤ n' ∧ i = .int .i64 k ∧ wr = w.drewN q) (fun i _ => n' - (intOf i).toNat)
    case atStart => exact ⟨0, _, Nat.zero_le _, rfl, rfl⟩
    case round =>
      obtain ⟨k, q, hk, rfl, rfl⟩ := hrel
      by_cases hkn : k < n'
      · have e1 := hC.out.cell0 k (by omega)
        have e2 := hC.out.cell1 k (by omega)
        have e3 := hC'.out.cell0 k (by omega)
        have e4 := hC'.out.cell1 k (by omega)
        generalize ss.getD k ByteArray.empty = q1 at *
        generalize ts.getD k ByteArray.empty = q2 at *
        have hki : (k : Int) < (n' : Int) := by omega
        have hki2 : (k : Int) < (n : Int) := by omega
        go_wp2
        go_quiet (fail)
        go_wp2
        go_roundw
        case rel => exact ⟨k + 1, _, by omega, by go_num, rfl⟩
        case measure => simp [intOf]; omega
      · obtain rfl : k = n' := by omega
        have hd : decide ((k : Int) < (k : Int)) = false := by simp
        go_wp2
        go_quiet (fail)
        go_wp2
        go_ret
        exact ⟨rfl, _, World.drewN_drewN ..⟩
  · rw [if_neg hlt]
    go_enter Trym.func27, Trym.ntmps27
    go_wp2
    go_quiet (fail)
    go_wp2
    go_loopw [6] (fun i wr => ∃ k q : Nat, k ≤ n ∧ i = .int .i64 k ∧ wr = w.drewN q) (fun i _ => n - (intOf i).toNat)
    case atStart => exact ⟨0, _, Nat.zero_le _, rfl, rfl⟩
    case round =>
      obtain ⟨k, q, hk, rfl, rfl⟩ := hrel
      by_cases hkn : k < n
      · have e1 := hC.out.cell0 k (by omega)
        have e2 := hC.out.cell1 k (by omega)
        have e3 := hC'.out.cell0 k (by omega)
        have e4 := hC'.out.cell1 k (by omega)
        generalize ss.getD k ByteArray.empty = q1 at *
        generalize ts.getD k ByteArray.empty = q2 at *
        have hki : (k : Int) < (n : Int) := by omega
        have hki2 : (k : Int) < (n' : Int) := by omega
        go_wp2
        go_quiet (fail)
        go_wp2
        go_roundw
        case rel => exact ⟨k + 1, _, by omega, by go_num, rfl⟩
        case measure => simp [intOf]; omega
      · obtain rfl : k = n := by omega
        have hd : decide ((k : Int) < (k : Int)) = false := by simp
        go_wp2
        go_quiet (fail)
        go_wp2
        go_ret
        exact ⟨rfl, _, World.drewN_drewN ..⟩

/-- The shorter length. (A name that the walk does not open.) -/
def lesser (n n' : Nat) : Nat := if n' < n then n' else n

/-- ZZSharedStart: the shorter length, over one memory and over a copy. -/
theorem zz_same (w : World) (g n n' c c' : Nat) (hn : n ≤ 65536) (hn' : n' ≤ 65536) :
    Calls Trym.prog 12 #[.slice (some ⟨g, 0, none⟩) n c, .slice (some ⟨g, 0, none⟩) n' c'] w fun e w' => e = .returned (.int .i64 (lesser n n' : Nat)) ∧ ∃ m, w' = w.drewN m := by
  have key : Calls Trym.prog 27 #[.slice (some ⟨g, 0, none⟩) n c, .slice (some ⟨g, 0, none⟩) n' c'] w fun e w' => e = .returned (.int .i64 (lesser n n' : Nat)) ∧ ∃ m, w' = w.drewN m := by
    by_cases h0 : 0 < n ∧ 0 < n'
    · exact shared_same w g n n' c c' hn hn' h0.1 h0.2
    · have e : lesser n n' = 0 := by unfold lesser; split <;> omega
      rw [e]
      exact shared_zero w _ _ n n' c c' (by omega)
  go_enter Trym.func12, Trym.ntmps12
  go_wp2_with fail
  refine key.mono ?_
  rintro e w' ⟨rfl, m, rfl⟩
  go_wp2
  go_ret
  exact ⟨rfl, m, rfl⟩

theorem zz_other (w : World) (g g' m m' n n' c c' : Nat) (ss ts : List ByteArray) (hn : n ≤ 65536) (hn' : n' ≤ 65536) (hne : g ≠ g') (hC : Cmds w g m m ss ts) (hC' : Cmds w g' m' m' ss ts) (hnm : n ≤ m) (hnm' : n' ≤ m') :
    Calls Trym.prog 12 #[.slice (some ⟨g, 0, none⟩) n c, .slice (some ⟨g', 0, none⟩) n' c'] w fun e w' => e = .returned (.int .i64 (lesser n n' : Nat)) ∧ ∃ m, w' = w.drewN m := by
  have key : Calls Trym.prog 27 #[.slice (some ⟨g, 0, none⟩) n c, .slice (some ⟨g', 0, none⟩) n' c'] w fun e w' => e = .returned (.int .i64 (lesser n n' : Nat)) ∧ ∃ m, w' = w.drewN m := by
    by_cases h0 : 0 < n ∧ 0 < n'
    · exact shared_other w g g' m m' n n' c c' ss ts hn hn' h0.1 h0.2 hne hC hC' hnm hnm'
    · have e : lesser n n' = 0 := by unfold lesser; split <;> omega
      rw [e]
      exact shared_zero w _ _ n n' c c' (by omega)
  clear hC hC' hne hnm hnm'
  go_enter Trym.func12, Trym.ntmps12
  go_wp2_with fail
  refine key.mono ?_
  rintro e w' ⟨rfl, m, rfl⟩
  go_wp2
  go_ret
  exact ⟨rfl, m, rfl⟩

end Go.Proofs.Qxb6601183aMods
