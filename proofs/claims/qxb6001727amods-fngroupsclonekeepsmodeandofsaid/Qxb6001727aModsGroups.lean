/-
  CONTRACTS OVER Groups (a pointer to a Group and a Group): buildGroups, (Groups).clone, ZZGroupsClone.
-/
import Derived.Test.Qxb6001727aModsParts
namespace Go.Proofs.Qxb6001727aMods
open Go.RowKit

/-! ### A block of three cells (a Groups) -/

def Three (w : World) (B : Nat) (x y z : Value) : Prop := w.heap[B]? = some (.cells #[x, y, z] 28 (0, 0))
theorem Three.lt {w : World} {B : Nat} {x y z : Value} (h : Three w B x y z) : B < w.heap.size := (Array.getElem?_eq_some_iff.1 h).1
theorem Three.cell0 {w : World} {B : Nat} {x y z : Value} (h : Three w B x y z) : w.cell? ⟨B, 0, none⟩ = some x := by unfold Three at h; simp [World.cell?, h]
theorem Three.cell1 {w : World} {B : Nat} {x y z : Value} (h : Three w B x y z) : w.cell? ⟨B, 1, none⟩ = some y := by unfold Three at h; simp [World.cell?, h]
theorem Three.cell2 {w : World} {B : Nat} {x y z : Value} (h : Three w B x y z) : w.cell? ⟨B, 2, none⟩ = some z := by unfold Three at h; simp [World.cell?, h]
theorem Three.frozen {w : World} {B : Nat} {x y z : Value} (h : Three w B x y z) (i : Nat) : w.frozen? ⟨B, i, none⟩ = false := by unfold Three at h; simp [World.frozen?, h]
theorem Three.set0 {w : World} {B : Nat} {x y z : Value} (h : Three w B x y z) (v : Value) : Three (w.setCell ⟨B, 0, none⟩ v) B v y z := by
  unfold Three at h ⊢; simp [World.setCell, Array.getElem?_modify, h]
theorem Three.block {w w' : World} {B : Nat} {x y z : Value} (h : Three w B x y z) (e : w'.heap[B]? = w.heap[B]?) : Three w' B x y z := e.trans h
theorem Three.below {w w' : World} {B : Nat} {x y z : Value} (h : Three w B x y z) (hb : Below w.heap.size w w') : Three w' B x y z := h.block (hb.block B h.lt)
theorem Three.alloc {w : World} {B : Nat} {x y z : Value} (h : Three w B x y z) (o : Obj) : Three (w.alloc o) B x y z := h.block (Below.heap_alloc w o B h.lt)
theorem Three.other {w : World} {B : Nat} {x y z : Value} (h : Three w B x y z) (A o : Nat) (hne : B ≠ A) (v : Value) : Three (w.setCell ⟨A, o, none⟩ v) B x y z := h.block (Below.heap_setCell w ⟨A, o, none⟩ v B hne)
theorem Three.new (w : World) (x y z : Value) : Three (w.alloc (.cells #[x, y, z] 28)) w.heap.size x y z := by
  show (w.heap.push (.cells #[x, y, z] 28))[w.heap.size]? = _
  simp
theorem Three.grown {w w' : World} {B : Nat} {x y z : Value} {row : Option Nat} (h : Three w B x y z) (hg : w.grownBy w' row) (hne : row ≠ some B) : Three w' B x y z := h.block (hg.block B h.lt (fun e => hne e.symm))

/-- An int row's block is no Groups' block. -/
theorem Own.ne_three {w : World} {base : Nat} {v : Value} {zs : List Int} {B : Nat} {x y z : Value} (h : Own w base v zs) (t : Three w B x y z) : v.ownBlock ≠ some B := by
  intro e
  rcases h.2 with ⟨hv, _⟩ | ⟨g, cap, cur, hv, _, hh, _⟩
  · rw [hv] at e; cases e
  · rw [hv] at e
    simp only [Value.ownBlock, Option.some.injEq] at e
    unfold Three at t
    rw [e, t] at hh
    simp at hh

/-- An int row's block is no Group's block. -/
theorem Own.ne_two {w : World} {base : Nat} {v : Value} {zs : List Int} {B : Nat} {x y : Value} (h : Own w base v zs) (t : Two w B 26 x y) : v.ownBlock ≠ some B := by
  intro e
  rcases h.2 with ⟨hv, _⟩ | ⟨g, cap, cur, hv, _, hh, _⟩
  · rw [hv] at e; cases e
  · rw [hv] at e
    simp only [Value.ownBlock, Option.some.injEq] at e
    unfold Two at t
    rw [e, t] at hh
    simp at hh

theorem Own.alloc {w : World} {base : Nat} {v : Value} {zs : List Int} (h : Own w base v zs) (o : Obj) : Own (w.alloc o) base v zs := World.ownsRow.alloc h o

/-- A store into a block that is not the row's own. -/
theorem Own.aside {w : World} {base : Nat} {v : Value} {zs : List Int} (h : Own w base v zs) (B o : Nat) (hB : v.ownBlock ≠ some B) (u : Value) : Own (w.setCell ⟨B, o, none⟩ u) base v zs := by
  obtain ⟨h1, h2⟩ := h
  refine ⟨h1, ?_⟩
  rcases h2 with h2 | ⟨g, cap, cur, hv, hg, hh, r⟩
  · exact .inl h2
  · refine .inr ⟨g, cap, cur, hv, hg, ?_, r⟩
    rw [Below.heap_setCell _ _ _ _ (fun e => hB (by rw [hv]; simp [Value.ownBlock, e]))]
    exact hh

/-! ### buildGroups -/

set_option maxHeartbeats 400000 in
theorem build_no (w : World) (a0 a1 a2 a3 : Option Addr) (n0 n1 n2 n3 c0 c1 c2 c3 : Nat) (z2 z3 : List Int) (h2 : Rd w (.slice a2 n2 c2) z2) (h3 : Rd w (.slice a3 n3 c3) z3)
    (hm2 : z2.length ≤ 1048576) (hm3 : z3.length ≤ 1048576) :
    Calls Trym.prog 9 #[.bool false, .slice a0 n0 c0, .slice a1 n1 c1, .slice a2 n2 c2, .slice a3 n3 c3] w fun e w' => ∃ b2 b3 d2 d3,
      e = .returned (.agg #[.pointer none, .slice b2 z2.length d2, .slice b3 z3.length d3]) ∧
      Own w' w.heap.size (.slice b2 z2.length d2) z2 ∧ Own w' w.heap.size (.slice b3 z3.length d3) z3 ∧ Below w.heap.size w w' := by
  go_enter Trym.func9, Trym.ntmps9
  go_wp2_with fail
  refine (copy_any _ a2 n2 c2 z2 (h2.alloc _) hm2).mono ?_
  rintro e w1 ⟨b2, d2, rfl, o2, B1⟩
  have R3 := (h3.alloc _).below B1
  have T1 := (Three.new w (.pointer none) (.slice none 0 0) (.slice none 0 0)).below B1
  go_wp2_with fail
  refine (copy_any _ a3 n3 c3 z3 R3 hm3).mono ?_
  rintro e w2 ⟨b3, d3, rfl, o3, B2⟩
  have T2 := T1.below B2
  have t20 := T2.cell0
  have t21 := T2.cell1
  have t22 := T2.cell2
  have t2f := T2.frozen
  have hl2 := T2.lt
  go_wp2
  have hs0 : (w.alloc (.cells #[.pointer none, .slice none 0 0, .slice none 0 0] 28)).heap.size = w.heap.size + 1 := by simp
  rw [hs0] at o2
  have hs1 : w.heap.size + 1 ≤ w1.heap.size := T1.lt
  have Bel : Below w.heap.size w w2 := (((Below.refl _ w).alloc (Nat.le_refl _) _).trans (B1.mono (by rw [hs0]; omega))).trans (B2.mono (by omega))
  refine bodyPost_ret (v := .agg #[.pointer none, .slice b2 z2.length d2, .slice b3 z3.length d3]) (by simp [results, Trym.results9, go_sem, t20, t21, t22, hl2]) rfl ⟨b2, b3, d2, d3, rfl, ?_, ?_, ?_⟩
  · exact Own.mono (Own.alloc (Own.low (Own.low (Own.low (Own.below o2 B2) w.heap.size 0 (by omega) _) w.heap.size 1 (by omega) _) w.heap.size 2 (by omega) _) _) (by omega)
  · exact Own.mono (Own.alloc (Own.low (Own.low (Own.low (Own.mono o3 hs1) w.heap.size 0 (by omega) _) w.heap.size 1 (by omega) _) w.heap.size 2 (by omega) _) _) (by omega)
  · exact (((Bel.setCell (p := ⟨w.heap.size, 0, none⟩) (Nat.le_refl _) _).setCell (p := ⟨w.heap.size, 1, none⟩) (Nat.le_refl _) _).setCell (p := ⟨w.heap.size, 2, none⟩) (Nat.le_refl _) _).alloc (by simp; omega) _

set_option maxHeartbeats 400000 in
theorem build_yes (w : World) (a0 a1 a2 a3 : Option Addr) (n0 n1 n2 n3 c0 c1 c2 c3 : Nat) (z0 z1 z2 z3 : List Int) (h0 : Rd w (.slice a0 n0 c0) z0) (h1 : Rd w (.slice a1 n1 c1) z1) (h2 : Rd w (.slice a2 n2 c2) z2) (h3 : Rd w (.slice a3 n3 c3) z3)
    (hm0 : z0.length ≤ 1048576) (hm1 : z1.length ≤ 1048576) (hm2 : z2.length ≤ 1048576) (hm3 : z3.length ≤ 1048576) :
    Calls Trym.prog 9 #[.bool true, .slice a0 n0 c0, .slice a1 n1 c1, .slice a2 n2 c2, .slice a3 n3 c3] w fun e w' => ∃ S b0 b1 b2 b3 d0 d1 d2 d3,
      e = .returned (.agg #[.pointer (some ⟨S, 0, none⟩), .slice b2 z2.length d2, .slice b3 z3.length d3]) ∧ w.heap.size ≤ S ∧ Two w' S 26 (.slice b0 z0.length d0) (.slice b1 z1.length d1) ∧
      Own w' w.heap.size (.slice b0 z0.length d0) z0 ∧ Own w' w.heap.size (.slice b1 z1.length d1) z1 ∧ Own w' w.heap.size (.slice b2 z2.length d2) z2 ∧ Own w' w.heap.size (.slice b3 z3.length d3) z3 ∧ Below w.heap.size w w' := by
  go_enter Trym.func9, Trym.ntmps9
  go_wp2_with fail
  refine (copy_any _ a2 n2 c2 z2 (h2.alloc _) hm2).mono ?_
  rintro e w1 ⟨b2, d2, rfl, o2, B1⟩
  have T1 := (Three.new w (.pointer none) (.slice none 0 0) (.slice none 0 0)).below B1
  go_wp2_with fail
  refine (copy_any _ a3 n3 c3 z3 ((h3.alloc _).below B1) hm3).mono ?_
  rintro e w2 ⟨b3, d3, rfl, o3, B2⟩
  have T2 := T1.below B2
  have hl2 := T2.lt
  go_wp2_with fail
  refine (copy_any _ a0 n0 c0 z0 ((((h0.alloc _).below B1).below B2).alloc _) hm0).mono ?_
  rintro e w3 ⟨b0, d0, rfl, o0, B3⟩
  go_wp2_with fail
  refine (copy_any _ a1 n1 c1 z1 (((((h1.alloc _).below B1).below B2).alloc _).below B3) hm1).mono ?_
  rintro e w4 ⟨b1, d1, rfl, o1, B4⟩
  have T4 := ((T2.alloc (.cells #[.pointer none, .slice b2 z2.length d2, .slice b3 z3.length d3] 28)).below B3).below B4
  have U4 := ((Three.new w2 (.pointer none) (.slice b2 z2.length d2) (.slice b3 z3.length d3)).below B3).below B4
  have t40 := T4.cell0
  have t41 := T4.cell1
  have t42 := T4.cell2
  have t4f := T4.frozen
  have hl4 := T4.lt
  have u40 := U4.cell0
  have u41 := U4.cell1
  have u42 := U4.cell2
  have u4f := U4.frozen
  have hu4 := U4.lt
  have hs0 : (w.alloc (.cells #[.pointer none, .slice none 0 0, .slice none 0 0] 28)).heap.size = w.heap.size + 1 := by simp
  have hs1 : w.heap.size + 1 ≤ w1.heap.size := T1.lt
  have O2 : Own w4 (w.heap.size + 1) (.slice b2 z2.length d2) z2 := by rw [hs0] at o2; exact Own.below (Own.below (Own.alloc (Own.below o2 B2) _) B3) B4
  have O3 : Own w4 (w.heap.size + 1) (.slice b3 z3.length d3) z3 := Own.below (Own.below (Own.alloc (Own.mono o3 hs1) _) B3) B4
  have O0 : Own w4 (w.heap.size + 1) (.slice b0 z0.length d0) z0 := Own.below (Own.mono o0 (by have := B2.size; simp; omega)) B4
  have O1 : Own w4 (w.heap.size + 1) (.slice b1 z1.length d1) z1 := Own.mono o1 (by have h2s := B2.size; have h3s := B3.size; simp at h3s; omega)
  have Bel : Below w.heap.size w w4 := (((((Below.refl _ w).alloc (Nat.le_refl _) _).trans (B1.mono (by rw [hs0]; omega))).trans (B2.mono (by omega))).alloc (by omega) _).trans ((B3.mono (by simp; omega)).trans (B4.mono (by have h2s := B2.size; have h3s := B3.size; simp at h3s; omega)))
  clear o0 o1 o2 o3 T1 T2 hs0 hs1 B1 B2 B3 B4
  go_wp2
  have n0 := Own.ne_three O0 U4
  have n1 := Own.ne_three O1 U4
  have n2 := Own.ne_three O2 U4
  have n3 := Own.ne_three O3 U4
  have fin : ∀ {v : Value} {zs : List Int}, Own w4 (w.heap.size + 1) v zs → v.ownBlock ≠ some w2.heap.size → ∀ p q r s o, Own (((((w4.setCell ⟨w2.heap.size, 0, none⟩ p).setCell ⟨w.heap.size, 0, none⟩ q).setCell ⟨w.heap.size, 1, none⟩ r).setCell ⟨w.heap.size, 2, none⟩ s).alloc o) w.heap.size v zs :=
    fun h hn p q r s o => Own.mono (Own.alloc (Own.low (Own.low (Own.low (Own.aside h _ 0 hn _) w.heap.size 0 (by omega) _) w.heap.size 1 (by omega) _) w.heap.size 2 (by omega) _) _) (by omega)
  refine bodyPost_ret (v := .agg #[.pointer (some ⟨w4.heap.size, 0, none⟩), .slice b2 z2.length d2, .slice b3 z3.length d3]) (by simp [results, Trym.results9, go_sem, t40, t41, t42, hl4]) rfl
    ⟨w4.heap.size, b0, b1, b2, b3, d0, d1, d2, d3, rfl, by omega, Two.new' _ _ (by simp) _ _ _, fin O0 n0 _ _ _ _ _, fin O1 n1 _ _ _ _ _, fin O2 n2 _ _ _ _ _, fin O3 n3 _ _ _ _ _, ?_⟩
  exact ((((Bel.setCell (p := ⟨w2.heap.size, 0, none⟩) (by show _ ≤ w2.heap.size; omega) _).setCell (p := ⟨w.heap.size, 0, none⟩) (Nat.le_refl _) _).setCell (p := ⟨w.heap.size, 1, none⟩) (Nat.le_refl _) _).setCell (p := ⟨w.heap.size, 2, none⟩) (Nat.le_refl _) _).alloc (by simp; omega) _

/-! ### (Groups).clone -/

set_option maxHeartbeats 400000 in
theorem gsclone_no (w : World) (a2 a3 : Option Addr) (n2 n3 c2 c3 : Nat) (z2 z3 : List Int) (h2 : Rd w (.slice a2 n2 c2) z2) (h3 : Rd w (.slice a3 n3 c3) z3)
    (hm2 : z2.length ≤ 1048576) (hm3 : z3.length ≤ 1048576) :
    Calls Trym.prog 26 #[.agg #[.pointer none, .slice a2 n2 c2, .slice a3 n3 c3]] w fun e w' => ∃ b2 b3 d2 d3,
      e = .returned (.agg #[.pointer none, .slice b2 z2.length d2, .slice b3 z3.length d3]) ∧
      Own w' w.heap.size (.slice b2 z2.length d2) z2 ∧ Own w' w.heap.size (.slice b3 z3.length d3) z3 ∧ Apart (.slice b2 z2.length d2) (.slice b3 z3.length d3) ∧ Below w.heap.size w w' := by
  go_enter Trym.func26, Trym.ntmps26
  go_wp2_with fail
  refine (gclone_any _ a2 a3 n2 n3 c2 c3 z2 z3 ((h2.alloc _).alloc _) ((h3.alloc _).alloc _) hm2 hm3).mono ?_
  rintro e w1 ⟨b2, b3, d2, d3, rfl, o2, o3, ap, B1⟩
  have T1 := ((Three.new w (.pointer none) (.slice a2 n2 c2) (.slice a3 n3 c3)).alloc _).below B1
  have hs : (w.alloc (.cells #[.pointer none, .slice a2 n2 c2, .slice a3 n3 c3] 28)).heap.size = w.heap.size + 1 := by simp
  have S1 := (Three.new (w.alloc (.cells #[.pointer none, .slice a2 n2 c2, .slice a3 n3 c3] 28)) (.pointer none) (.slice none 0 0) (.slice none 0 0)).below B1
  rw [hs] at S1
  have t10 := T1.cell0
  have t11 := T1.cell1
  have t12 := T1.cell2
  have s10 := S1.cell0
  have s11 := S1.cell1
  have s12 := S1.cell2
  have s1f := S1.frozen
  have hl1 := T1.lt
  have hl2 := S1.lt
  go_wp2
  have hs2 : ((w.alloc (.cells #[.pointer none, .slice a2 n2 c2, .slice a3 n3 c3] 28)).alloc (.cells #[.pointer none, .slice none 0 0, .slice none 0 0] 28)).heap.size = w.heap.size + 2 := by simp
  rw [hs2] at o2 o3
  have Bel : Below w.heap.size w w1 := (((Below.refl _ w).alloc (Nat.le_refl _) _).alloc (by simp) _).trans (B1.mono (by rw [hs2]; omega))
  have fin : ∀ {v : Value} {zs : List Int}, Own w1 (w.heap.size + 2) v zs → ∀ p q r o, Own ((((w1.setCell ⟨w.heap.size + 1, 0, none⟩ p).setCell ⟨w.heap.size + 1, 1, none⟩ q).setCell ⟨w.heap.size + 1, 2, none⟩ r).alloc o) w.heap.size v zs :=
    fun h p q r o => Own.mono (Own.alloc (Own.low (Own.low (Own.low h (w.heap.size + 1) 0 (by omega) _) (w.heap.size + 1) 1 (by omega) _) (w.heap.size + 1) 2 (by omega) _) _) (by omega)
  refine bodyPost_ret (v := .agg #[.pointer none, .slice b2 z2.length d2, .slice b3 z3.length d3]) (by simp [results, Trym.results26, go_sem, s10, s11, s12, hl2]) rfl
    ⟨b2, b3, d2, d3, rfl, fin o2 _ _ _ _, fin o3 _ _ _ _, ap, ?_⟩
  exact (((Bel.setCell (p := ⟨w.heap.size + 1, 0, none⟩) (by simp) _).setCell (p := ⟨w.heap.size + 1, 1, none⟩) (by simp) _).setCell (p := ⟨w.heap.size + 1, 2, none⟩) (by simp) _).alloc (by simp; omega) _

theorem Apart.symm {v v' : Value} (h : Apart v v') : Apart v' v := fun g g' hg hg' e => h g' g hg' hg e.symm

/-- Four slices, each of its own block. -/
structure Parted (v0 v1 v2 v3 : Value) : Prop where
  a01 : Apart v0 v1
  a02 : Apart v0 v2
  a03 : Apart v0 v3
  a12 : Apart v1 v2
  a13 : Apart v1 v3
  a23 : Apart v2 v3

set_option maxHeartbeats 400000 in
theorem gsclone_yes (w : World) (S : Nat) (a0 a1 a2 a3 : Option Addr) (n0 n1 n2 n3 c0 c1 c2 c3 : Nat) (z0 z1 z2 z3 : List Int) (hS : Two w S 26 (.slice a0 n0 c0) (.slice a1 n1 c1)) (h0 : Rd w (.slice a0 n0 c0) z0) (h1 : Rd w (.slice a1 n1 c1) z1)
    (h2 : Rd w (.slice a2 n2 c2) z2) (h3 : Rd w (.slice a3 n3 c3) z3) (hm0 : z0.length ≤ 1048576) (hm1 : z1.length ≤ 1048576) (hm2 : z2.length ≤ 1048576) (hm3 : z3.length ≤ 1048576) :
    Calls Trym.prog 26 #[.agg #[.pointer (some ⟨S, 0, none⟩), .slice a2 n2 c2, .slice a3 n3 c3]] w fun e w' => ∃ S' b0 b1 b2 b3 d0 d1 d2 d3,
      e = .returned (.agg #[.pointer (some ⟨S', 0, none⟩), .slice b2 z2.length d2, .slice b3 z3.length d3]) ∧ w.heap.size ≤ S' ∧ Two w' S' 26 (.slice b0 z0.length d0) (.slice b1 z1.length d1) ∧
      Own w' w.heap.size (.slice b0 z0.length d0) z0 ∧ Own w' w.heap.size (.slice b1 z1.length d1) z1 ∧ Own w' w.heap.size (.slice b2 z2.length d2) z2 ∧ Own w' w.heap.size (.slice b3 z3.length d3) z3 ∧
      Parted (.slice b0 z0.length d0) (.slice b1 z1.length d1) (.slice b2 z2.length d2) (.slice b3 z3.length d3) ∧ Below w.heap.size w w' := by
  go_enter Trym.func26, Trym.ntmps26
  go_wp2_with fail
  refine (gclone_any _ a2 a3 n2 n3 c2 c3 z2 z3 ((h2.alloc _).alloc _) ((h3.alloc _).alloc _) hm2 hm3).mono ?_
  rintro e w1 ⟨b2, b3, d2, d3, rfl, o2, o3, ap, B1⟩
  have T1 := ((Three.new w (.pointer (some ⟨S, 0, none⟩)) (.slice a2 n2 c2) (.slice a3 n3 c3)).alloc _).below B1
  have hs : (w.alloc (.cells #[.pointer (some ⟨S, 0, none⟩), .slice a2 n2 c2, .slice a3 n3 c3] 28)).heap.size = w.heap.size + 1 := by simp
  have S1 := (Three.new (w.alloc (.cells #[.pointer (some ⟨S, 0, none⟩), .slice a2 n2 c2, .slice a3 n3 c3] 28)) (.pointer none) (.slice none 0 0) (.slice none 0 0)).below B1
  rw [hs] at S1
  have Q1 := ((hS.alloc _).alloc _).below B1
  have t10 := T1.cell0
  have q10 := Q1.cell0
  have q11 := Q1.cell1
  have hl1 := T1.lt
  have hl2 := S1.lt
  have hq := Q1.lt
  have hs2 : ((w.alloc (.cells #[.pointer (some ⟨S, 0, none⟩), .slice a2 n2 c2, .slice a3 n3 c3] 28)).alloc (.cells #[.pointer none, .slice none 0 0, .slice none 0 0] 28)).heap.size = w.heap.size + 2 := by simp
  rw [hs2] at o2 o3
  have Bel1 : Below w.heap.size w w1 := (((Below.refl _ w).alloc (Nat.le_refl _) _).alloc (by simp) _).trans (B1.mono (by rw [hs2]; omega))
  clear B1 hs hs2
  go_wp2_with fail
  refine (gclone_any _ a0 a1 n0 n1 c0 c1 z0 z1 ((h0.below Bel1).alloc _) ((h1.below Bel1).alloc _) hm0 hm1).mono ?_
  rintro e w2 ⟨b0, b1, d0, d1, rfl, o0, o1, ap', B2⟩
  have hs3 : (w1.alloc (.cells #[.pointer none, .slice b2 z2.length d2, .slice b3 z3.length d3] 28)).heap.size = w1.heap.size + 1 := by simp
  have U2 := (Three.new w1 (.pointer none) (.slice b2 z2.length d2) (.slice b3 z3.length d3)).below B2
  have S2 := (S1.alloc _).below B2
  have P : Parted (.slice b0 z0.length d0) (.slice b1 z1.length d1) (.slice b2 z2.length d2) (.slice b3 z3.length d3) :=
    ⟨ap', (Own.apart o2 o0 (by rw [hs3]; omega)).symm, (Own.apart o3 o0 (by rw [hs3]; omega)).symm, (Own.apart o2 o1 (by rw [hs3]; omega)).symm, (Own.apart o3 o1 (by rw [hs3]; omega)).symm, ap⟩
  have O2 : Own w2 (w.heap.size + 2) (.slice b2 z2.length d2) z2 := Own.below (Own.alloc o2 _) B2
  have O3 : Own w2 (w.heap.size + 2) (.slice b3 z3.length d3) z3 := Own.below (Own.alloc o3 _) B2
  have O0 : Own w2 (w.heap.size + 2) (.slice b0 z0.length d0) z0 := Own.mono o0 (by rw [hs3]; omega)
  have O1 : Own w2 (w.heap.size + 2) (.slice b1 z1.length d1) z1 := Own.mono o1 (by rw [hs3]; omega)
  have Bel : Below w.heap.size w w2 := (Bel1.alloc (by omega) _).trans (B2.mono (by rw [hs3]; omega))
  have u20 := U2.cell0
  have u21 := U2.cell1
  have u22 := U2.cell2
  have u2f := U2.frozen
  have hu2 := U2.lt
  have s20 := S2.cell0
  have s21 := S2.cell1
  have s22 := S2.cell2
  have s2f := S2.frozen
  have hs2 := S2.lt
  clear t10 q10 q11 o0 o1 o2 o3 ap ap' B2 Bel1 T1 S1 Q1 hs3
  go_wp2
  have fin : ∀ {v : Value} {zs : List Int}, Own w2 (w.heap.size + 2) v zs → ∀ p q r s o, Own (((((w2.setCell ⟨w1.heap.size, 0, none⟩ p).setCell ⟨w.heap.size + 1, 0, none⟩ q).setCell ⟨w.heap.size + 1, 1, none⟩ r).setCell ⟨w.heap.size + 1, 2, none⟩ s).alloc o) w.heap.size v zs :=
    fun h p q r s o => Own.mono (Own.alloc (Own.low (Own.low (Own.low (Own.aside h _ 0 (Own.ne_three h U2) _) (w.heap.size + 1) 0 (by omega) _) (w.heap.size + 1) 1 (by omega) _) (w.heap.size + 1) 2 (by omega) _) _) (by omega)
  refine bodyPost_ret (v := .agg #[.pointer (some ⟨w2.heap.size, 0, none⟩), .slice b2 z2.length d2, .slice b3 z3.length d3]) (by simp [results, Trym.results26, go_sem, s20, s21, s22, hs2]) rfl
    ⟨w2.heap.size, b0, b1, b2, b3, d0, d1, d2, d3, rfl, by omega, Two.new' _ _ (by simp) _ _ _, fin O0 _ _ _ _ _, fin O1 _ _ _ _ _, fin O2 _ _ _ _ _, fin O3 _ _ _ _ _, P, ?_⟩
  exact ((((Bel.setCell (p := ⟨w1.heap.size, 0, none⟩) (by show _ ≤ w1.heap.size; omega) _).setCell (p := ⟨w.heap.size + 1, 0, none⟩) (by simp) _).setCell (p := ⟨w.heap.size + 1, 1, none⟩) (by simp) _).setCell (p := ⟨w.heap.size + 1, 2, none⟩) (by simp) _).alloc (by simp; omega) _

/-! ### ZZGroupsClone -/

set_option maxHeartbeats 400000 in
theorem zzgs_no (w : World) (a2 a3 : Option Addr) (n2 n3 c2 c3 : Nat) (z2 z3 : List Int) (h2 : Rd w (.slice a2 n2 c2) z2) (h3 : Rd w (.slice a3 n3 c3) z3)
    (hm2 : z2.length ≤ 1048576) (hm3 : z3.length ≤ 1048576) :
    Calls Trym.prog 16 #[.agg #[.pointer none, .slice a2 n2 c2, .slice a3 n3 c3]] w fun e w' => ∃ b2 b3 d2 d3,
      e = .returned (.agg #[.pointer none, .slice b2 z2.length d2, .slice b3 z3.length d3]) ∧
      Own w' w.heap.size (.slice b2 z2.length d2) z2 ∧ Own w' w.heap.size (.slice b3 z3.length d3) z3 ∧ Apart (.slice b2 z2.length d2) (.slice b3 z3.length d3) ∧ Below w.heap.size w w' := by
  go_enter Trym.func16, Trym.ntmps16
  go_wp2_with fail
  refine (gsclone_no _ a2 a3 n2 n3 c2 c3 z2 z3 ((h2.alloc _).alloc _) ((h3.alloc _).alloc _) hm2 hm3).mono ?_
  rintro e w1 ⟨b2, b3, d2, d3, rfl, o2, o3, ap, B1⟩
  have hs : (w.alloc (.cells #[.pointer none, .slice a2 n2 c2, .slice a3 n3 c3] 28)).heap.size = w.heap.size + 1 := by simp
  have S1 := (Three.new (w.alloc (.cells #[.pointer none, .slice a2 n2 c2, .slice a3 n3 c3] 28)) (.pointer none) (.slice none 0 0) (.slice none 0 0)).below B1
  rw [hs] at S1
  have s10 := S1.cell0
  have s11 := S1.cell1
  have s12 := S1.cell2
  have s1f := S1.frozen
  have hl2 := S1.lt
  go_wp2
  have hs2 : ((w.alloc (.cells #[.pointer none, .slice a2 n2 c2, .slice a3 n3 c3] 28)).alloc (.cells #[.pointer none, .slice none 0 0, .slice none 0 0] 28)).heap.size = w.heap.size + 2 := by simp
  rw [hs2] at o2 o3
  have Bel : Below w.heap.size w w1 := (((Below.refl _ w).alloc (Nat.le_refl _) _).alloc (by simp) _).trans (B1.mono (by rw [hs2]; omega))
  have fin : ∀ {v : Value} {zs : List Int}, Own w1 (w.heap.size + 2) v zs → ∀ p q r, Own (((w1.setCell ⟨w.heap.size + 1, 0, none⟩ p).setCell ⟨w.heap.size + 1, 1, none⟩ q).setCell ⟨w.heap.size + 1, 2, none⟩ r) w.heap.size v zs :=
    fun h p q r => Own.mono (Own.low (Own.low (Own.low h (w.heap.size + 1) 0 (by omega) _) (w.heap.size + 1) 1 (by omega) _) (w.heap.size + 1) 2 (by omega) _) (by omega)
  refine bodyPost_ret (v := .agg #[.pointer none, .slice b2 z2.length d2, .slice b3 z3.length d3]) (by simp [results, Trym.results16, go_sem, s10, s11, s12]) rfl
    ⟨b2, b3, d2, d3, rfl, fin o2 _ _ _, fin o3 _ _ _, ap, ?_⟩
  exact ((Bel.setCell (p := ⟨w.heap.size + 1, 0, none⟩) (by simp) _).setCell (p := ⟨w.heap.size + 1, 1, none⟩) (by simp) _).setCell (p := ⟨w.heap.size + 1, 2, none⟩) (by simp) _

theorem Two.low {w : World} {B t : Nat} {x y : Value} (h : Two w B t x y) (A o : Nat) (hne : B ≠ A) (v : Value) : Two (w.setCell ⟨A, o, none⟩ v) B t x y := h.other hne v

set_option maxHeartbeats 400000 in
theorem zzgs_yes (w : World) (S : Nat) (a0 a1 a2 a3 : Option Addr) (n0 n1 n2 n3 c0 c1 c2 c3 : Nat) (z0 z1 z2 z3 : List Int) (hS : Two w S 26 (.slice a0 n0 c0) (.slice a1 n1 c1)) (h0 : Rd w (.slice a0 n0 c0) z0) (h1 : Rd w (.slice a1 n1 c1) z1)
    (h2 : Rd w (.slice a2 n2 c2) z2) (h3 : Rd w (.slice a3 n3 c3) z3) (hm0 : z0.length ≤ 1048576) (hm1 : z1.length ≤ 1048576) (hm2 : z2.length ≤ 1048576) (hm3 : z3.length ≤ 1048576) :
    Calls Trym.prog 16 #[.agg #[.pointer (some ⟨S, 0, none⟩), .slice a2 n2 c2, .slice a3 n3 c3]] w fun e w' => ∃ S' b0 b1 b2 b3 d0 d1 d2 d3,
      e = .returned (.agg #[.pointer (some ⟨S', 0, none⟩), .slice b2 z2.length d2, .slice b3 z3.length d3]) ∧ w.heap.size ≤ S' ∧ Two w' S' 26 (.slice b0 z0.length d0) (.slice b1 z1.length d1) ∧
      Own w' w.heap.size (.slice b0 z0.length d0) z0 ∧ Own w' w.heap.size (.slice b1 z1.length d1) z1 ∧ Own w' w.heap.size (.slice b2 z2.length d2) z2 ∧ Own w' w.heap.size (.slice b3 z3.length d3) z3 ∧
      Parted (.slice b0 z0.length d0) (.slice b1 z1.length d1) (.slice b2 z2.length d2) (.slice b3 z3.length d3) ∧ Below w.heap.size w w' := by
  go_enter Trym.func16, Trym.ntmps16
  go_wp2_with fail
  refine (gsclone_yes _ S a0 a1 a2 a3 n0 n1 n2 n3 c0 c1 c2 c3 z0 z1 z2 z3 ((hS.alloc _).alloc _) ((h0.alloc _).alloc _) ((h1.alloc _).alloc _) ((h2.alloc _).alloc _) ((h3.alloc _).alloc _) hm0 hm1 hm2 hm3).mono ?_
  rintro e w1 ⟨S', b0, b1, b2, b3, d0, d1, d2, d3, rfl, hS', T1, o0, o1, o2, o3, P, B1⟩
  have hs : (w.alloc (.cells #[.pointer (some ⟨S, 0, none⟩), .slice a2 n2 c2, .slice a3 n3 c3] 28)).heap.size = w.heap.size + 1 := by simp
  have S1 := (Three.new (w.alloc (.cells #[.pointer (some ⟨S, 0, none⟩), .slice a2 n2 c2, .slice a3 n3 c3] 28)) (.pointer none) (.slice none 0 0) (.slice none 0 0)).below B1
  rw [hs] at S1
  have s10 := S1.cell0
  have s11 := S1.cell1
  have s12 := S1.cell2
  have s1f := S1.frozen
  have hl2 := S1.lt
  have hs2 : ((w.alloc (.cells #[.pointer (some ⟨S, 0, none⟩), .slice a2 n2 c2, .slice a3 n3 c3] 28)).alloc (.cells #[.pointer none, .slice none 0 0, .slice none 0 0] 28)).heap.size = w.heap.size + 2 := by simp
  rw [hs2] at o0 o1 o2 o3 hS'
  have Bel : Below w.heap.size w w1 := (((Below.refl _ w).alloc (Nat.le_refl _) _).alloc (by simp) _).trans (B1.mono (by rw [hs2]; omega))
  clear hs hs2
  go_wp2
  have fin : ∀ {v : Value} {zs : List Int}, Own w1 (w.heap.size + 2) v zs → ∀ p q r, Own (((w1.setCell ⟨w.heap.size + 1, 0, none⟩ p).setCell ⟨w.heap.size + 1, 1, none⟩ q).setCell ⟨w.heap.size + 1, 2, none⟩ r) w.heap.size v zs :=
    fun h p q r => Own.mono (Own.low (Own.low (Own.low h (w.heap.size + 1) 0 (by omega) _) (w.heap.size + 1) 1 (by omega) _) (w.heap.size + 1) 2 (by omega) _) (by omega)
  refine bodyPost_ret (v := .agg #[.pointer (some ⟨S', 0, none⟩), .slice b2 z2.length d2, .slice b3 z3.length d3]) (by simp [results, Trym.results16, go_sem, s10, s11, s12]) rfl
    ⟨S', b0, b1, b2, b3, d0, d1, d2, d3, rfl, by omega, ((T1.low _ 0 (by omega) _).low _ 1 (by omega) _).low _ 2 (by omega) _, fin o0 _ _ _, fin o1 _ _ _, fin o2 _ _ _, fin o3 _ _ _, P, ?_⟩
  exact ((Bel.setCell (p := ⟨w.heap.size + 1, 0, none⟩) (by simp) _).setCell (p := ⟨w.heap.size + 1, 1, none⟩) (by simp) _).setCell (p := ⟨w.heap.size + 1, 2, none⟩) (by simp) _

/-! ### The bounds on lengths: whatever they answer -/

set_option maxHeartbeats 400000 in
theorem bytes15 (w : World) (h : Bool) (a0 a1 a2 a3 : Option Addr) (n0 n1 n2 n3 c0 c1 c2 c3 : Nat) :
    Calls Trym.prog 15 #[.bool h, .slice a0 n0 c0, .slice a1 n1 c1, .slice a2 n2 c2, .slice a3 n3 c3] w fun e w' => ∃ b, e = .returned (.bool b) ∧ w = w' := by
  go_enter Trym.func15, Trym.ntmps15
  go_wp2
  all_goals
    go_ret
    exact ⟨_, rfl, rfl⟩

set_option maxHeartbeats 400000 in
theorem bytes19 (w : World) (h : Bool) (a0 a1 a2 a3 : Option Addr) (n0 n1 n2 n3 c0 c1 c2 c3 : Nat) (v : Int) :
    Calls Trym.prog 19 #[.bool h, .slice a0 n0 c0, .slice a1 n1 c1, .slice a2 n2 c2, .slice a3 n3 c3, .int .u64 v] w fun e w' => ∃ b, e = .returned (.bool b) ∧ w = w' := by
  go_enter Trym.func19, Trym.ntmps19
  go_wp2
  all_goals
    go_ret
    exact ⟨_, rfl, rfl⟩

end Go.Proofs.Qxb6001727aMods
