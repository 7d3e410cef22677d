/-
  ROWS OF Commands IN MEMORY; toCmds, cloneCmds.
-/
import Derived.Test.Qxb6601183aModsParts
import Derived.BigRegion
namespace Go.Proofs.Qxb6601183aMods
open Go.RowKit

/-- BLOCK g IS A ROW OF m Commands, none frozen; THE FIRST k OF THEM ARE (ss i, ts i). -/
def Cmds (w : World) (g m k : Nat) (ss ts : List ByteArray) : Prop :=
  ∃ cur, w.heap[g]? = some (.cells cur 45 (0, 0)) ∧ cur.size = m * 2 ∧ ∀ i, i < k → cur[i * 2]? = some (.string (ss.getD i ByteArray.empty)) ∧ cur[i * 2 + 1]? = some (.string (ts.getD i ByteArray.empty))

theorem Cmds.lt {w : World} {g m k : Nat} {ss ts : List ByteArray} (h : Cmds w g m k ss ts) : g < w.heap.size := by
  obtain ⟨cur, hh, _⟩ := h
  exact (Array.getElem?_eq_some_iff.1 hh).1
theorem Cmds.block {w w' : World} {g m k : Nat} {ss ts : List ByteArray} (h : Cmds w g m k ss ts) (e : w'.heap[g]? = w.heap[g]?) : Cmds w' g m k ss ts := by
  obtain ⟨cur, hh, r⟩ := h
  exact ⟨cur, e.trans hh, r⟩
theorem Cmds.below {w w' : World} {g m k : Nat} {ss ts : List ByteArray} (h : Cmds w g m k ss ts) (hb : Below w.heap.size w w') : Cmds w' g m k ss ts := h.block (hb.block g h.lt)
theorem Cmds.cell0 {w : World} {g m k : Nat} {ss ts : List ByteArray} (h : Cmds w g m k ss ts) (i : Nat) (hi : i < k) : w.cell? ⟨g, i * 2, none⟩ = some (.string (ss.getD i ByteArray.empty)) := by
  obtain ⟨cur, hh, _, hc⟩ := h
  simp [World.cell?, hh, (hc i hi).1]
theorem Cmds.cell1 {w : World} {g m k : Nat} {ss ts : List ByteArray} (h : Cmds w g m k ss ts) (i : Nat) (hi : i < k) : w.cell? ⟨g, i * 2 + 1, none⟩ = some (.string (ts.getD i ByteArray.empty)) := by
  obtain ⟨cur, hh, _, hc⟩ := h
  simp [World.cell?, hh, (hc i hi).2]
theorem Cmds.some {w : World} {g m k : Nat} {ss ts : List ByteArray} (h : Cmds w g m k ss ts) (i : Nat) (hi : i < m * 2) : ∃ u, w.cell? ⟨g, i, none⟩ = .some u := by
  obtain ⟨cur, hh, hs, _⟩ := h
  exact ⟨cur[i]'(by omega), by simp [World.cell?, hh]⟩
theorem Cmds.frozen {w : World} {g m k : Nat} {ss ts : List ByteArray} (h : Cmds w g m k ss ts) (i : Nat) : w.frozen? ⟨g, i, none⟩ = false := by
  obtain ⟨cur, hh, _⟩ := h
  simp [World.frozen?, hh]
/-- One Command more is laid. -/
theorem Cmds.step {w : World} {g m k : Nat} {ss ts : List ByteArray} (h : Cmds w g m k ss ts) (hk : k < m) :
    Cmds ((w.setCell ⟨g, k * 2, none⟩ (.string (ss.getD k ByteArray.empty))).setCell ⟨g, k * 2 + 1, none⟩ (.string (ts.getD k ByteArray.empty))) g m (k + 1) ss ts := by
  obtain ⟨cur, hh, hs, hc⟩ := h
  refine ⟨(cur.setIfInBounds (k * 2) (.string (ss.getD k ByteArray.empty))).setIfInBounds (k * 2 + 1) (.string (ts.getD k ByteArray.empty)), ?_, by simpa using hs, fun i hi => ?_⟩
  · simp [World.setCell, Array.getElem?_modify, hh]
  · simp only [Array.getElem?_setIfInBounds]
    by_cases e : i = k
    · subst e
      constructor
      · rw [if_neg (by omega), if_pos rfl]
        simp; omega
      · rw [if_pos rfl]
        simp; omega
    · have := hc i (by omega)
      constructor
      · rw [if_neg (by omega), if_neg (by omega)]
        exact this.1
      · rw [if_neg (by omega), if_neg (by omega)]
        exact this.2

set_option maxHeartbeats 1000000 in
theorem toCmds_any (w : World) (a a' : Option Addr) (m c c' : Nat) (ss ts : List ByteArray) (hn : Hid (ss.length = m)) (hn' : Hid (ts.length = m)) (hm : m ≤ 65536) (hL : Hid (Lies w a ss)) (hL' : Hid (Lies w a' ts)) :
    Calls Trym.prog 11 #[.slice a m c, .slice a' m c'] w fun e w' => e = .returned (.slice (some ⟨w.heap.size, 0, none⟩) m m) ∧ Cmds w' w.heap.size m m ss ts ∧ Below w.heap.size w w' := by
  obtain ⟨i0, hi, hz0, hz1, hz2⟩ := info_parts info45
  go_enter Trym.func11, Trym.ntmps11
  go_wp2_with (at_make; refine wpList_make_full _ rfl _ _ 25 rfl w.heap.size 45 i0 (.agg #[.string ByteArray.empty, .string ByteArray.empty]) 2 Trym.underlying25 hi hz0 hz1 .i64 .i64 m m m rfl rfl rfl rfl ?qb ?qm (Nat.le_refl _) ?_)
  case qb => rw [hz2]; omega
  case qm => unfold maxLen; omega
  intro w1 hown hgrow
  have h0 : Cmds w1 w.heap.size m 0 ss ts := by
    rcases hown.2 with ⟨h', _⟩ | ⟨g, cap, cur, h', hb, hg, hnc, hcm, hcs, _⟩
    · simp at h'
    · simp only [Value.slice.injEq, Option.some.injEq, Addr.mk.injEq, and_true, true_and] at h'
      obtain ⟨rfl, rfl⟩ := h'
      exact ⟨cur, hg, hcs, fun i hi => by omega⟩
  have hbel : Below w.heap.size w w1 := (Below.refl _ w).grown hgrow (Nat.le_refl _) (by intro k hk; cases hk)
  clear hown hgrow
  go_wp2
  go_loopw [6] (fun i wr => ∃ k : Nat, k ≤ m ∧ i = .int .i64 k ∧ Cmds wr w.heap.size m k ss ts ∧ Below w.heap.size w wr) (fun i _ => m - (intOf i).toNat)
  case atStart => exact ⟨0, Nat.zero_le _, rfl, h0, hbel⟩
  case round =>
    obtain ⟨k, hk, rfl, hC, hb⟩ := hrel
    by_cases hlt : k < m
    · obtain ⟨b1, off1, rfl, hl1, hc1⟩ := hL.out (by have := hn.out; omega)
      obtain ⟨b2, off2, rfl, hl2, hc2⟩ := hL'.out (by have := hn'.out; omega)
      have k1 : wr.cell? ⟨b1, off1 + k, none⟩ = some (.string (ss.getD k ByteArray.empty)) := (hb.cell (p := ⟨b1, off1 + k, none⟩) hl1).trans (hc1 k (by have := hn.out; omega))
      have k2 : wr.cell? ⟨b2, off2 + k, none⟩ = some (.string (ts.getD k ByteArray.empty)) := (hb.cell (p := ⟨b2, off2 + k, none⟩) hl2).trans (hc2 k (by have := hn'.out; omega))
      have R := hC.step hlt
      have R' := (hb.setCell (p := ⟨w.heap.size, k * 2, none⟩) (Nat.le_refl _) (.string (ss.getD k ByteArray.empty))).setCell (p := ⟨w.heap.size, k * 2 + 1, none⟩) (Nat.le_refl _) (.string (ts.getD k ByteArray.empty))
      obtain ⟨u0, hu0⟩ := hC.some (k * 2) (by omega)
      obtain ⟨u1, hu1⟩ := hC.some (k * 2 + 1) (by omega)
      have hf := hC.frozen
      have hli : (k : Int) < (m : Int) := by omega
      clear hc1 hc2 hC hb h0 hbel
      generalize ss.getD k ByteArray.empty = q1 at *
      generalize ts.getD k ByteArray.empty = q2 at *
      go_wp2
      go_region
      go_wp2
      go_roundw
      case rel => exact ⟨k + 1, by omega, by go_num, R.block rfl, R'.drew⟩
      case measure => simp [intOf]; omega
    · have hkn : k = m := by omega
      subst hkn
      go_wp2
      go_ret
      exact ⟨rfl, hC, hb⟩

set_option maxHeartbeats 1000000 in
theorem clone_any (w : World) (g m n c : Nat) (ss ts : List ByteArray) (hC0 : Hid (Cmds w g m m ss ts)) (hm : m ≤ 65536) (hn : n ≤ m) :
    Calls Trym.prog 14 #[.slice (some ⟨g, 0, none⟩) n c] w fun e w' => e = .returned (.slice (some ⟨w.heap.size, 0, none⟩) n n) ∧ Cmds w' w.heap.size n n ss ts ∧ Below w.heap.size w w' := by
  obtain ⟨i0, hi, hz0, hz1, hz2⟩ := info_parts info45
  go_enter Trym.func14, Trym.ntmps14
  go_wp2_with (at_make; refine wpList_make_full _ rfl _ _ 25 rfl w.heap.size 45 i0 (.agg #[.string ByteArray.empty, .string ByteArray.empty]) 2 Trym.underlying25 hi hz0 hz1 .i64 .i64 n n n rfl rfl rfl rfl ?qb ?qm (Nat.le_refl _) ?_)
  case qb => rw [hz2]; omega
  case qm => unfold maxLen; omega
  intro w1 hown hgrow
  have h0 : Cmds w1 w.heap.size n 0 ss ts := by
    rcases hown.2 with ⟨h', _⟩ | ⟨g', cap, cur, h', hb, hg, hnc, hcm, hcs, _⟩
    · simp at h'
    · simp only [Value.slice.injEq, Option.some.injEq, Addr.mk.injEq, and_true, true_and] at h'
      obtain ⟨rfl, rfl⟩ := h'
      exact ⟨cur, hg, hcs, fun i hi => by omega⟩
  have hbel : Below w.heap.size w w1 := (Below.refl _ w).grown hgrow (Nat.le_refl _) (by intro k hk; cases hk)
  clear hown hgrow
  go_wp2
  go_loopw [4] (fun i wr => ∃ k : Nat, k ≤ n ∧ i = .int .i64 k ∧ Cmds wr w.heap.size n k ss ts ∧ Below w.heap.size w wr) (fun i _ => n - (intOf i).toNat)
  case atStart => exact ⟨0, Nat.zero_le _, rfl, h0, hbel⟩
  case round =>
    obtain ⟨k, hk, rfl, hC, hb⟩ := hrel
    by_cases hlt : k < n
    · have hS := hC0.out.below hb
      have k1 := hS.cell0 k (by omega)
      have k2 := hS.cell1 k (by omega)
      have R := hC.step hlt
      have R' := (hb.setCell (p := ⟨w.heap.size, k * 2, none⟩) (Nat.le_refl _) (.string (ss.getD k ByteArray.empty))).setCell (p := ⟨w.heap.size, k * 2 + 1, none⟩) (Nat.le_refl _) (.string (ts.getD k ByteArray.empty))
      obtain ⟨u0, hu0⟩ := hC.some (k * 2) (by omega)
      obtain ⟨u1, hu1⟩ := hC.some (k * 2 + 1) (by omega)
      have hf := hC.frozen
      have hli : (k : Int) < (n : Int) := by omega
      clear hS hC hb h0 hbel
      generalize ss.getD k ByteArray.empty = q1 at *
      generalize ts.getD k ByteArray.empty = q2 at *
      go_wp2
      go_roundw
      case rel => exact ⟨k + 1, by omega, by go_num, R.block rfl, R'⟩
      case measure => simp [intOf]; omega
    · have hkn : k = n := by omega
      subst hkn
      go_wp2
      go_ret
      exact ⟨rfl, hC, hb⟩

end Go.Proofs.Qxb6601183aMods
