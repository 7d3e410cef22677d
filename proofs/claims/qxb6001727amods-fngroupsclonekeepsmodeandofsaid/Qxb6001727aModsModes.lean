/-
  CONTRACTS OF Mode, Of, sameGroup (for 'FnGroupsCloneKeepsModeAndOf').
-/
import Derived.Test.Qxb6001727aModsGroups
namespace Go.Proofs.Qxb6001727aMods
open Go.RowKit

set_option maxHeartbeats 400000 in
theorem roundOf_any (w : World) (x : Int) :
    Calls Trym.prog 24 #[.int .u64 x] w fun e w' => e = .returned (.int .u64 (bits .and .u64 x 4294967295)) ∧ w = w' := by
  go_enter Trym.func24, Trym.ntmps24
  go_wp2
  go_ret
  exact ⟨rfl, rfl⟩

set_option maxHeartbeats 400000 in
theorem mode_no (w : World) (a2 a3 : Option Addr) (n2 n3 c2 c3 : Nat) (x : Int) :
    Calls Trym.prog 10 #[.agg #[.pointer none, .slice a2 n2 c2, .slice a3 n3 c3], .int .u64 x] w fun e w' => e = .returned (.string ⟨#[114, 101, 115, 105, 108, 105, 101, 110, 116]⟩) ∧ w' = w.alloc (.cells #[.pointer none, .slice a2 n2 c2, .slice a3 n3 c3] 28) := by
  go_enter Trym.func10, Trym.ntmps10
  go_wp2
  go_ret
  exact ⟨rfl, rfl⟩

set_option maxHeartbeats 400000 in
theorem mode_sav (w : World) (A : Addr) (a2 a3 : Option Addr) (n2 n3 c2 c3 : Nat) (x : Int) (hx : (bits .and .u64 x 4294967295 == 0) = true) :
    Calls Trym.prog 10 #[.agg #[.pointer (some A), .slice a2 n2 c2, .slice a3 n3 c3], .int .u64 x] w fun e w' => e = .returned (.string ⟨#[115, 97, 118, 105, 110, 103]⟩) ∧ w' = w.alloc (.cells #[.pointer (some A), .slice a2 n2 c2, .slice a3 n3 c3] 28) := by
  go_enter Trym.func10, Trym.ntmps10
  go_wp2_with (go_at_call 24; refine (roundOf_any _ _).mono ?_; rintro e w' ⟨rfl, rfl⟩)
  go_ret
  exact ⟨rfl, rfl⟩

set_option maxHeartbeats 400000 in
theorem mode_res (w : World) (A : Addr) (a2 a3 : Option Addr) (n2 n3 c2 c3 : Nat) (x : Int) (hx : (bits .and .u64 x 4294967295 == 0) = false) :
    Calls Trym.prog 10 #[.agg #[.pointer (some A), .slice a2 n2 c2, .slice a3 n3 c3], .int .u64 x] w fun e w' => e = .returned (.string ⟨#[114, 101, 115, 105, 108, 105, 101, 110, 116]⟩) ∧ w' = w.alloc (.cells #[.pointer (some A), .slice a2 n2 c2, .slice a3 n3 c3] 28) := by
  go_enter Trym.func10, Trym.ntmps10
  go_wp2_with (go_at_call 24; refine (roundOf_any _ _).mono ?_; rintro e w' ⟨rfl, rfl⟩)
  go_ret
  exact ⟨rfl, rfl⟩

theorem Rd.drew {w : World} {v : Value} {zs : List Int} (h : Rd w v zs) : Rd w.drew v zs := h.below (Below.refl _ w).drew

/-- Six new blocks and a draw (two calls of Of inside a region that draws). -/
abbrev six (u : World) (o1 o2 o3 o4 o5 o6 : Obj) : World := ((((((u.alloc o1).alloc o2).alloc o3).alloc o4).alloc o5).alloc o6).drew
theorem below_six {B : Nat} {a u : World} (h : Below B a u) (hB : B ≤ u.heap.size) (o1 o2 o3 o4 o5 o6 : Obj) : Below B a (six u o1 o2 o3 o4 o5 o6) :=
  ((((((h.alloc hB o1).alloc (by simp; omega) o2).alloc (by simp; omega) o3).alloc (by simp; omega) o4).alloc (by simp; omega) o5).alloc (by simp; omega) o6).drew
theorem size_six (u : World) (o1 o2 o3 o4 o5 o6 : Obj) : u.heap.size ≤ (six u o1 o2 o3 o4 o5 o6).heap.size := (below_six (Below.refl _ u) (Nat.le_refl _) o1 o2 o3 o4 o5 o6).size
theorem Rd.six {u : World} {v : Value} {zs : List Int} (h : Rd u v zs) (o1 o2 o3 o4 o5 o6 : Obj) : Rd (six u o1 o2 o3 o4 o5 o6) v zs := h.below (below_six (Below.refl _ u) (Nat.le_refl _) o1 o2 o3 o4 o5 o6)

set_option maxHeartbeats 400000 in
theorem of_no (w : World) (a2 a3 : Option Addr) (n2 n3 c2 c3 : Nat) (x : Int) :
    Calls Trym.prog 13 #[.agg #[.pointer none, .slice a2 n2 c2, .slice a3 n3 c3], .int .u64 x] w fun e w' => e = .returned (.agg #[.slice a2 n2 c2, .slice a3 n3 c3]) ∧ w' = ((w.alloc (.cells #[.pointer none, .slice a2 n2 c2, .slice a3 n3 c3] 28)).alloc (.cells #[.slice a2 n2 c2, .slice a3 n3 c3] 26)).alloc (.cells #[.pointer none, .slice a2 n2 c2, .slice a3 n3 c3] 28) := by
  go_enter Trym.func13, Trym.ntmps13
  go_wp2_with (go_at_call 10; refine (mode_no _ _ _ _ _ _ _ _).mono ?_; rintro e w' ⟨rfl, rfl⟩)
  exact bodyPost_ret (v := .agg #[.slice a2 n2 c2, .slice a3 n3 c3]) (by simp [results, Trym.results13, go_sem]) rfl ⟨rfl, rfl⟩

set_option maxHeartbeats 400000 in
theorem of_res (w : World) (A : Addr) (a2 a3 : Option Addr) (n2 n3 c2 c3 : Nat) (x : Int) (hx : (bits .and .u64 x 4294967295 == 0) = false) :
    Calls Trym.prog 13 #[.agg #[.pointer (some A), .slice a2 n2 c2, .slice a3 n3 c3], .int .u64 x] w fun e w' => e = .returned (.agg #[.slice a2 n2 c2, .slice a3 n3 c3]) ∧ w' = ((w.alloc (.cells #[.pointer (some A), .slice a2 n2 c2, .slice a3 n3 c3] 28)).alloc (.cells #[.slice a2 n2 c2, .slice a3 n3 c3] 26)).alloc (.cells #[.pointer (some A), .slice a2 n2 c2, .slice a3 n3 c3] 28) := by
  go_enter Trym.func13, Trym.ntmps13
  go_wp2_with (go_at_call 10; refine (mode_res _ _ _ _ _ _ _ _ _ hx).mono ?_; rintro e w' ⟨rfl, rfl⟩)
  exact bodyPost_ret (v := .agg #[.slice a2 n2 c2, .slice a3 n3 c3]) (by simp [results, Trym.results13, go_sem]) rfl ⟨rfl, rfl⟩

set_option maxHeartbeats 400000 in
theorem of_sav (w : World) (S : Nat) (a0 a1 a2 a3 : Option Addr) (n0 n1 n2 n3 c0 c1 c2 c3 : Nat) (x : Int) (hx : (bits .and .u64 x 4294967295 == 0) = true) (hS : Two w S 26 (.slice a0 n0 c0) (.slice a1 n1 c1)) :
    Calls Trym.prog 13 #[.agg #[.pointer (some ⟨S, 0, none⟩), .slice a2 n2 c2, .slice a3 n3 c3], .int .u64 x] w fun e w' => e = .returned (.agg #[.slice a0 n0 c0, .slice a1 n1 c1]) ∧ w' = ((w.alloc (.cells #[.pointer (some ⟨S, 0, none⟩), .slice a2 n2 c2, .slice a3 n3 c3] 28)).alloc (.cells #[.slice a0 n0 c0, .slice a1 n1 c1] 26)).alloc (.cells #[.pointer (some ⟨S, 0, none⟩), .slice a2 n2 c2, .slice a3 n3 c3] 28) := by
  have s0 : ∀ o1 o2 o3, (((w.alloc o1).alloc o2).alloc o3).cell? ⟨S, 0, none⟩ = some (.slice a0 n0 c0) := fun o1 o2 o3 => (((hS.alloc o1).alloc o2).alloc o3).cell0
  have s1 : ∀ o1 o2 o3, (((w.alloc o1).alloc o2).alloc o3).cell? ⟨S, 1, none⟩ = some (.slice a1 n1 c1) := fun o1 o2 o3 => (((hS.alloc o1).alloc o2).alloc o3).cell1
  go_enter Trym.func13, Trym.ntmps13
  go_wp2_with (go_at_call 10; refine (mode_sav _ _ _ _ _ _ _ _ _ hx).mono ?_; rintro e w' ⟨rfl, rfl⟩)
  exact bodyPost_ret (v := .agg #[.slice a0 n0 c0, .slice a1 n1 c1]) (by simp [results, Trym.results13, go_sem]) rfl ⟨rfl, rfl⟩

set_option maxHeartbeats 400000 in
theorem sameGroup_any (w : World) (a0 a1 b0 b1 : Option Addr) (n0 n1 m0 m1 c0 c1 d0 d1 : Nat) (z0 z1 : List Int) (h0 : Rd w (.slice a0 n0 c0) z0) (h1 : Rd w (.slice a1 n1 c1) z1)
    (k0 : Rd w (.slice b0 m0 d0) z0) (k1 : Rd w (.slice b1 m1 d1) z1) (hm0 : z0.length ≤ 1048576) (hm1 : z1.length ≤ 1048576) :
    Calls Trym.prog 14 #[.agg #[.slice a0 n0 c0, .slice a1 n1 c1], .agg #[.slice b0 m0 d0, .slice b1 m1 d1]] w fun e w' => e = .returned (.bool true) ∧ Below w.heap.size w w' := by
  go_enter Trym.func14, Trym.ntmps14
  go_wp2_with fail
  refine (equal_any _ a0 b0 n0 m0 c0 d0 z0 ((h0.alloc _).alloc _) ((k0.alloc _).alloc _) hm0).mono ?_
  rintro e w' ⟨rfl, m, rfl⟩
  go_wp2_with fail
  refine (equal_any _ a1 b1 n1 m1 c1 d1 z1 (((h1.alloc _).alloc _).drewN _) (((k1.alloc _).alloc _).drewN _) hm1).mono ?_
  rintro e w' ⟨rfl, m', rfl⟩
  go_wp2
  go_ret
  exact ⟨rfl, bdrewN (((Below.refl _ w).alloc (Nat.le_refl _) _).alloc (by simp) _) _⟩

end Go.Proofs.Qxb6001727aMods
