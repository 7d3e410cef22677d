/-
  THE PARTS OF THE SEAT's THREE LAWS: facts on slices of ints in memory, and a contract for each function on the roads.
-/
import Derived.Test.Qxb6001727aModsRows
import Derived.WalkKit
import Derived.WalkSpells
import Derived.WalkLawsBesides
import Derived.Below
import Derived.Deep.QuietTactic
import Derived.BigQuiet
namespace Go.Proofs.Qxb6001727aMods
open Go.RowKit
open Go.WideShapes (add_plain)

theorem info3 : (Trym.prog.info? 3).map (fun i => (i.zero, i.size, i.bytes)) = some (some (.int .i64 0), 1, 8) := by kernel_rfl

/-! ### Slices of ints that can be read -/

/-- v IS A SLICE WHOSE ELEMENTS READ AS zs IN w: nil; empty; or over a block that is there. -/
def Rd (w : World) (v : Value) (zs : List Int) : Prop :=
  (v = .slice none 0 0 ∧ zs = []) ∨ (∃ a cap, v = .slice (some a) 0 cap ∧ zs = []) ∨
  ∃ b off cap, v = .slice (some ⟨b, off, none⟩) zs.length cap ∧ 0 < zs.length ∧ b < w.heap.size ∧ ∀ i, i < zs.length → w.cell? ⟨b, off + i, none⟩ = some (.int .i64 (zs.getD i 0))

/-- v IS A SLICE OF ITS OWN BLOCK (from 'base' on), ITS ELEMENTS zs. -/
abbrev Own (w : World) (base : Nat) (v : Value) (zs : List Int) : Prop := w.ownsRow base 3 1 v zs.length (zs.map (Value.int .i64))

theorem Rd.below {w w' : World} {v : Value} {zs : List Int} (h : Rd w v zs) (hb : Below w.heap.size w w') : Rd w' v zs := by
  rcases h with h | h | ⟨b, off, cap, hv, hn, hlt, hc⟩
  · exact .inl h
  · exact .inr (.inl h)
  · exact .inr (.inr ⟨b, off, cap, hv, hn, Nat.lt_of_lt_of_le hlt hb.size, fun i hi => (hb.cell (p := ⟨b, off + i, none⟩) hlt).trans (hc i hi)⟩)

theorem Own.rd {w : World} {base : Nat} {v : Value} {zs : List Int} (h : Own w base v zs) : Rd w v zs := by
  have h0 := h
  obtain ⟨_, h2⟩ := h
  rcases h2 with ⟨hv, hn⟩ | ⟨g, cap, cur, hv, hg, hh, hnc, hcm, hcs, hcur⟩
  · exact .inl ⟨hv, List.eq_nil_of_length_eq_zero hn⟩
  · subst hv
    have hlt : g < w.heap.size := (Array.getElem?_eq_some_iff.1 hh).1
    by_cases hz : zs.length = 0
    · refine .inr (.inl ⟨⟨g, 0, none⟩, cap, by rw [hz], List.eq_nil_of_length_eq_zero hz⟩)
    · refine .inr (.inr ⟨g, 0, cap, rfl, by omega, hlt, fun i hi => ?_⟩)
      have := World.ownsRow.cellAt h0 i (by omega)
      rw [Nat.zero_add, this]
      simp [hi]

theorem Own.below {w w' : World} {base : Nat} {v : Value} {zs : List Int} (h : Own w base v zs) (hb : Below w.heap.size w w') : Own w' base v zs := by
  obtain ⟨h1, h2⟩ := h
  refine ⟨h1, ?_⟩
  rcases h2 with h2 | ⟨g, cap, cur, hv, hg, hh, r⟩
  · exact .inl h2
  · exact .inr ⟨g, cap, cur, hv, hg, by rw [hb.block g (Array.getElem?_eq_some_iff.1 hh).1]; exact hh, r⟩

theorem Own.mono {w : World} {base base' : Nat} {v : Value} {zs : List Int} (h : Own w base v zs) (hb : base' ≤ base) : Own w base' v zs := by
  obtain ⟨h1, h2⟩ := h
  refine ⟨h1, ?_⟩
  rcases h2 with h2 | ⟨g, cap, cur, hv, hg, r⟩
  · exact .inl h2
  · exact .inr ⟨g, cap, cur, hv, by omega, r⟩

/-- A store below the base. -/
theorem Own.low {w : World} {base : Nat} {v : Value} {zs : List Int} (h : Own w base v zs) (B o : Nat) (hB : B < base) (u : Value) : Own (w.setCell ⟨B, o, none⟩ u) base v zs := ownsRow_setCell_below h (a := ⟨B, o, none⟩) hB u

theorem Own.shape {w : World} {base : Nat} {v : Value} {zs : List Int} (h : Own w base v zs) : ∃ a cap, v = .slice a zs.length cap := by
  obtain ⟨_, h2⟩ := h
  rcases h2 with ⟨hv, hn⟩ | ⟨g, cap, cur, hv, _⟩
  · exact ⟨none, 0, by rw [hv, hn]⟩
  · exact ⟨_, cap, hv⟩

theorem Rd.shape {w : World} {v : Value} {zs : List Int} (h : Rd w v zs) : ∃ a cap, v = .slice a zs.length cap := by
  rcases h with ⟨hv, hz⟩ | ⟨a, cap, hv, hz⟩ | ⟨b, off, cap, hv, _⟩
  · exact ⟨none, 0, by rw [hv, hz]; rfl⟩
  · exact ⟨some a, cap, by rw [hv, hz]; rfl⟩
  · exact ⟨_, cap, hv⟩

theorem Rd.alloc {w : World} {v : Value} {zs : List Int} (h : Rd w v zs) (o : Obj) : Rd (w.alloc o) v zs := h.below ((Below.refl _ w).alloc (Nat.le_refl _) o)
theorem bdrewN {B : Nat} {a w : World} (h : Below B a w) (n : Nat) : Below B a (w.drewN n) := ⟨h.os, h.tape, h.output, h.size, h.block⟩
theorem Rd.drewN {w : World} {v : Value} {zs : List Int} (h : Rd w v zs) (n : Nat) : Rd (w.drewN n) v zs := h.below (bdrewN (Below.refl _ w) n)
theorem bcell {W w1 : World} (hb : Below W.heap.size W w1) : (∀ b o, b < W.heap.size → w1.cell? ⟨b, o, none⟩ = W.cell? ⟨b, o, none⟩) ∧ (∀ b o, b < W.heap.size → w1.frozen? ⟨b, o, none⟩ = W.frozen? ⟨b, o, none⟩) :=
  ⟨fun b o h => hb.cell (p := ⟨b, o, none⟩) h, fun b o h => hb.frozen (p := ⟨b, o, none⟩) h⟩

/-! ### A block of two cells (a Group) -/

def Two (w : World) (B : Nat) (t : TypeId) (x y : Value) : Prop := w.heap[B]? = some (.cells #[x, y] t (0, 0))
theorem Two.lt {w : World} {B t : Nat} {x y : Value} (h : Two w B t x y) : B < w.heap.size := (Array.getElem?_eq_some_iff.1 h).1
theorem Two.cell0 {w : World} {B t : Nat} {x y : Value} (h : Two w B t x y) : w.cell? ⟨B, 0, none⟩ = some x := by unfold Two at h; simp [World.cell?, h]
theorem Two.cell1 {w : World} {B t : Nat} {x y : Value} (h : Two w B t x y) : w.cell? ⟨B, 1, none⟩ = some y := by unfold Two at h; simp [World.cell?, h]
theorem Two.frozen {w : World} {B t : Nat} {x y : Value} (h : Two w B t x y) (i : Nat) : w.frozen? ⟨B, i, none⟩ = false := by unfold Two at h; simp [World.frozen?, h]
theorem Two.set0 {w : World} {B t : Nat} {x y : Value} (h : Two w B t x y) (v : Value) : Two (w.setCell ⟨B, 0, none⟩ v) B t v y := by
  unfold Two at h ⊢; simp [World.setCell, Array.getElem?_modify, h]
theorem Two.set1 {w : World} {B t : Nat} {x y : Value} (h : Two w B t x y) (v : Value) : Two (w.setCell ⟨B, 1, none⟩ v) B t x v := by
  unfold Two at h ⊢; simp [World.setCell, Array.getElem?_modify, h]
theorem Two.block {w w' : World} {B t : Nat} {x y : Value} (h : Two w B t x y) (e : w'.heap[B]? = w.heap[B]?) : Two w' B t x y := e.trans h
theorem Two.below {w w' : World} {B t : Nat} {x y : Value} (h : Two w B t x y) (hb : Below w.heap.size w w') : Two w' B t x y := h.block (hb.block B h.lt)
theorem Two.alloc {w : World} {B t : Nat} {x y : Value} (h : Two w B t x y) (o : Obj) : Two (w.alloc o) B t x y := h.block (Below.heap_alloc w o B h.lt)
theorem Two.other {w : World} {B t : Nat} {x y : Value} (h : Two w B t x y) {a : Addr} (hne : B ≠ a.block) (v : Value) : Two (w.setCell a v) B t x y := h.block (Below.heap_setCell w a v B hne)
theorem Two.new (w : World) (t : TypeId) (x y : Value) : Two (w.alloc (.cells #[x, y] t)) w.heap.size t x y := by
  show (w.heap.push (.cells #[x, y] t))[w.heap.size]? = _
  simp
theorem Two.new' (w : World) (n : Nat) (hn : n = w.heap.size) (t : TypeId) (x y : Value) : Two (w.alloc (.cells #[x, y] t)) n t x y := by
  subst hn; exact Two.new w t x y

/-- An argument, as the row's frame hands it. -/
theorem rd_of_cells {w : World} {x : Addr} {len cap : Nat} {zs : List Int} (hl : len ≤ cap) (hz : zs.length = cap) (hc : ∀ i, i < zs.length → w.cell? (x.add i) = some (.int .i64 (zs.getD i 0))) :
    (zs.take len).length = len ∧ Rd w (.slice (some x) len cap) (zs.take len) := by
  have hlen : (zs.take len).length = len := by simp; omega
  refine ⟨hlen, ?_⟩
  by_cases h0 : len = 0
  · subst h0
    exact .inr (.inl ⟨x, cap, rfl, by simp⟩)
  · obtain ⟨b, off, spot⟩ := x
    have h1 := hc 0 (by omega)
    have hspot : spot = none := by simpa [Addr.add] using World.cell?_spot h1
    subst hspot
    have hlt : b < w.heap.size := World.block_lt_of_cell? w _ h1
    refine .inr (.inr ⟨b, off, cap, by rw [hlen], by omega, hlt, fun i hi => ?_⟩)
    have hi2 : i < len := by omega
    have := hc i (by omega)
    rw [add_plain] at this
    rw [this]
    simp [List.getD, hi2]

theorem Own.grown {w w' : World} {base : Nat} {v v' : Value} {zs : List Int} (h : Own w base v' zs) (hg : w.grownBy w' v.ownBlock) (ap : ∀ g g', v.ownBlock = some g → v'.ownBlock = some g' → g ≠ g') : Own w' base v' zs := by
  refine World.ownsRow.kept h hg ?_
  cases h1 : v'.ownBlock with
  | none => exact .inl rfl
  | some g' =>
    right
    intro h2
    exact ap g' g' h2.symm h1 rfl

theorem Two.grown {w w' : World} {B t : Nat} {x y : Value} {row : Option Nat} (h : Two w B t x y) (hg : w.grownBy w' row) (hne : row ≠ some B) : Two w' B t x y := h.block (hg.block B h.lt (fun e => hne e.symm))

/-! ### copyInts -/

/-- A ROUND OF THE COPY: k cells have been copied. -/
theorem copy_step {w : World} {base n cap k g : Nat} {zs : List Int} (hn : zs.length = n) (hk : k < n)
    (h : w.ownsRow base 3 1 (.slice (some ⟨g, 0, none⟩) n cap) n (((zs.take k).map (Value.int .i64)) ++ List.replicate (n - k) (.int .i64 0))) :
    (w.setCell ⟨g, k, none⟩ (.int .i64 (zs.getD k 0))).ownsRow base 3 1 (.slice (some ⟨g, 0, none⟩) n cap) n (((zs.take (k + 1)).map (Value.int .i64)) ++ List.replicate (n - (k + 1)) (.int .i64 0)) := by
  have := h.stored k (.int .i64 (zs.getD k 0))
  have e : (((zs.take k).map (Value.int .i64)) ++ List.replicate (n - k) (Value.int .i64 0)).set k (.int .i64 (zs.getD k 0)) = ((zs.take (k + 1)).map (Value.int .i64)) ++ List.replicate (n - (k + 1)) (.int .i64 0) := by
    apply List.ext_getElem?
    intro i
    simp only [List.getElem?_set, List.getElem?_append, List.length_map, List.length_take, List.getElem?_map, List.getElem?_take, List.getElem?_replicate, List.length_append, List.length_replicate]
    have hm : min k zs.length = k := by omega
    have hm1 : min (k + 1) zs.length = k + 1 := by omega
    rw [hm, hm1]
    by_cases hik : k = i
    · subst hik
      simp [hn, hk]
      omega
    · by_cases hlt : i < k
      · simp [hik, hlt, show i < k + 1 by omega]
      · have hiff : (i - k < n - k) ↔ (i - (k + 1) < n - (k + 1)) := by omega
        simp [hik, hlt, show ¬ i < k + 1 by omega, hiff]
  rw [e] at this
  exact this.1

set_option maxHeartbeats 400000 in
theorem copy_nil (w : World) : Calls Trym.prog 12 #[.slice none 0 0] w fun e w' => e = .returned (.slice none 0 0) ∧ w = w' := by
  have q24 : ∀ (w : World) (a : Option Addr) (n c n' c' : Nat), (binOp .eql 24 (.slice a n c) (.slice none n' c')).run Trym.prog w = .ok (.bool a.isNone) w := fun w a n c n' c' => Lib.run_eql_slice_nil w _ _ a n c n' c' Trym.underlying24
  go_enter Trym.func12, Trym.ntmps12
  go_wp2
  go_ret
  exact ⟨rfl, rfl⟩

/-- WHAT A SLICE THAT IS NOT nil GIVES TO A WALK. -/
def At (w : World) (A : Addr) (n : Nat) (zs : List Int) : Prop := 0 < n → ∃ b off, A = ⟨b, off, none⟩ ∧ b < w.heap.size ∧ ∀ i, i < n → w.cell? ⟨b, off + i, none⟩ = some (.int .i64 (zs.getD i 0))

set_option maxHeartbeats 400000 in
theorem copy_row (w : World) (A : Addr) (n cap : Nat) (zs : List Int) (hn : zs.length = n) (hm : n ≤ 1048576) (hA : Hid (At w A n zs)) :
    Calls Trym.prog 12 #[.slice (some A) n cap] w fun e w' => e = .returned (.slice (some ⟨w.heap.size, 0, none⟩) n n) ∧ w'.ownsRow w.heap.size 3 1 (.slice (some ⟨w.heap.size, 0, none⟩) n n) n (zs.map (Value.int .i64)) ∧ Below w.heap.size w w' := by
  have q24 : ∀ (w : World) (a : Option Addr) (n c n' c' : Nat), (binOp .eql 24 (.slice a n c) (.slice none n' c')).run Trym.prog w = .ok (.bool a.isNone) w := fun w a n c n' c' => Lib.run_eql_slice_nil w _ _ a n c n' c' Trym.underlying24
  obtain ⟨i0, hi, hz0, hz1, hz2⟩ := info_parts info3
  have HN : Hid (zs.length = n) := hn
  clear hn
  go_enter Trym.func12, Trym.ntmps12
  go_wp2_with (at_make; refine wpList_make_full _ rfl _ _ 24 rfl w.heap.size 3 i0 (.int .i64 0) 1 Trym.underlying24 hi hz0 hz1 .i64 .i64 n n n rfl rfl rfl rfl ?qb ?qm (Nat.le_refl _) ?_)
  case qb => rw [hz2]; omega
  case qm => unfold maxLen; omega
  intro w1 hown hgrow
  have h0 : w1.ownsRow w.heap.size 3 1 (.slice (some ⟨w.heap.size, 0, none⟩) n n) n (((zs.take 0).map (Value.int .i64)) ++ List.replicate (n - 0) (.int .i64 0)) := by
    rw [toList_madeCells_one] at hown
    simpa using hown
  have hbel : Below w.heap.size w w1 := (Below.refl _ w).grown hgrow (Nat.le_refl _) (by intro k hk; cases hk)
  clear hown hgrow
  go_wp2
  go_loopw [4] (fun i wr => ∃ k : Nat, k ≤ n ∧ i = .int .i64 k ∧ wr.ownsRow w.heap.size 3 1 (.slice (some ⟨w.heap.size, 0, none⟩) n n) n (((zs.take k).map (Value.int .i64)) ++ List.replicate (n - k) (.int .i64 0)) ∧ Below w.heap.size w wr)
    (fun i _ => n - (intOf i).toNat)
  case atStart => exact ⟨0, Nat.zero_le _, rfl, h0, hbel⟩
  case round =>
    obtain ⟨k, hk, rfl, hown, hb⟩ := hrel
    by_cases hlt : k < n
    · obtain ⟨b, off, rfl, hbl, hc⟩ := hA.out (by omega)
      have hcx : wr.cell? ⟨b, off + k, none⟩ = some (.int .i64 (zs.getD k 0)) := (hb.cell (p := ⟨b, off + k, none⟩) hbl).trans (hc k hlt)
      have hfz : wr.frozen? ⟨w.heap.size, k, none⟩ = false := hown.frozenAt k
      obtain ⟨u, hu⟩ : ∃ u, wr.cell? ⟨w.heap.size, k, none⟩ = some u := by
        rw [hown.cellAt k (by omega)]
        exact ⟨_, List.getElem?_eq_getElem (by have := hown.1; omega)⟩
      have R := copy_step (zs := zs) HN.out hlt hown
      have hb' := hb.setCell (p := ⟨w.heap.size, k, none⟩) (Nat.le_refl _) (.int .i64 (zs.getD k 0))
      clear hc hown hb h0 hbel
      go_wp2
      go_roundw
      case rel => exact ⟨k + 1, by omega, by go_num, R, hb'⟩
      case measure => simp [intOf]; omega
    · have hkn : k = n := by omega
      subst hkn
      go_wp2
      go_ret
      refine ⟨rfl, ?_, hb⟩
      rw [Nat.sub_self, List.take_of_length_le (by have := HN.out; omega)] at hown
      simpa using hown

theorem At.of_rd {w : World} {A : Addr} {cap : Nat} {zs : List Int} {m : Nat} (h : Rd w (.slice (some A) m cap) zs) : m = zs.length ∧ At w A zs.length zs := by
  rcases h with ⟨hv, _⟩ | ⟨a, c, hv, hz⟩ | ⟨b, off, c, hv, _, hlt, hc⟩
  · cases hv
  · simp only [Value.slice.injEq] at hv
    refine ⟨by rw [hv.2.1, hz]; rfl, fun h0 => ?_⟩
    rw [hz] at h0
    simp at h0
  · simp only [Value.slice.injEq, Option.some.injEq] at hv
    exact ⟨hv.2.1, fun _ => ⟨b, off, hv.1, hlt, hc⟩⟩

theorem Rd.of_at {w : World} {A : Addr} {cap : Nat} {zs : List Int} (h : At w A zs.length zs) : Rd w (.slice (some A) zs.length cap) zs := by
  by_cases h0 : 0 < zs.length
  · obtain ⟨b, off, hA, hlt, hc⟩ := h h0
    exact .inr (.inr ⟨b, off, cap, by rw [hA], h0, hlt, hc⟩)
  · exact .inr (.inl ⟨A, cap, by rw [show zs.length = 0 by omega], List.eq_nil_of_length_eq_zero (by omega)⟩)

/-- copyInts: A COPY IN MEMORY OF THE CALL's OWN. -/
theorem copy_any (w : World) (a : Option Addr) (n cap : Nat) (zs : List Int) (h : Rd w (.slice a n cap) zs) (hm : zs.length ≤ 1048576) :
    Calls Trym.prog 12 #[.slice a n cap] w fun e w' => ∃ a' cap', e = .returned (.slice a' zs.length cap') ∧ Own w' w.heap.size (.slice a' zs.length cap') zs ∧ Below w.heap.size w w' := by
  cases a with
  | none =>
    obtain ⟨rfl, rfl, rfl⟩ : n = 0 ∧ cap = 0 ∧ zs = [] := by
      rcases h with ⟨hv, hz⟩ | ⟨_, _, hv, _⟩ | ⟨_, _, _, hv, _⟩
      · simp only [Value.slice.injEq] at hv; exact ⟨hv.2.1, hv.2.2, hz⟩
      · cases hv
      · cases hv
    refine (copy_nil w).mono ?_
    rintro e w' ⟨rfl, rfl⟩
    exact ⟨none, 0, rfl, World.ownsRow_nil _ _ _ _, Below.refl _ _⟩
  | some A =>
    obtain ⟨rfl, hA⟩ := At.of_rd h
    refine (copy_row w A _ cap zs rfl hm hA).mono ?_
    rintro e w' ⟨rfl, ho, hb⟩
    exact ⟨_, _, rfl, ho, hb⟩

/-! ### slices.Clone at []int -/

set_option maxHeartbeats 400000 in
theorem clone_nil (w : World) : Calls Trym.prog 29 #[.slice none 0 0] w fun e w' => e = .returned (.slice none 0 0) ∧ w = w' := by
  have q24 : ∀ (w : World) (a : Option Addr) (n c n' c' : Nat), (binOp .eql 24 (.slice a n c) (.slice none n' c')).run Trym.prog w = .ok (.bool a.isNone) w := fun w a n c n' c' => Lib.run_eql_slice_nil w _ _ a n c n' c' Trym.underlying24
  go_enter Trym.func29, Trym.ntmps29
  go_wp2
  go_ret
  exact ⟨rfl, rfl⟩

set_option maxHeartbeats 400000 in
theorem clone_row (w : World) (A : Addr) (n cap : Nat) (zs : List Int) (hn : zs.length = n) (hm : n ≤ 1048576) (hA : Hid (At w A n zs)) :
    Calls Trym.prog 29 #[.slice (some A) n cap] w fun e w' => ∃ v', e = .returned v' ∧ w'.ownsRow w.heap.size 3 1 v' n (zs.map (Value.int .i64)) ∧ Below w.heap.size w w' := by
  have q24 : ∀ (w : World) (a : Option Addr) (n c n' c' : Nat), (binOp .eql 24 (.slice a n c) (.slice none n' c')).run Trym.prog w = .ok (.bool a.isNone) w := fun w a n c n' c' => Lib.run_eql_slice_nil w _ _ a n c n' c' Trym.underlying24
  obtain ⟨i0, hi, hz0, hz1, hz2⟩ := info_parts info3
  have HN : Hid (zs.length = n) := hn
  clear hn
  go_enter Trym.func29, Trym.ntmps29
  go_wp2_with (at_builtin; refine wpList_append_own _ rfl _ _ 24 rfl w.heap.size 3 i0 (.int .i64 0) 1 8 Trym.underlying24 hi hz0 hz1 hz2 rfl (by decide) _ _ _ rfl (World.ownsRow_made w #[] 0 (Nat.le_refl _) (Nat.zero_le _) rfl) A n cap (zs.map (Value.int .i64)) rfl ?qc1 ?qc2 ?qc3 ?qc4 ?qc5 ?qc6 ?_)
  case qc1 => have := HN.out; simp; omega
  case qc2 =>
    intro j u hj
    have hjn : j < zs.length := by
      have := (List.getElem?_eq_some_iff.1 hj).1
      simpa using this
    have hL := HN.out
    obtain ⟨b, off, rfl, hbl, hc⟩ := hA.out (by omega)
    rw [Addr.add_lit]
    refine Lib.cell?_alloc_some _ ?_
    rw [hc j (by omega)]
    have e : (zs.map (Value.int .i64))[j]? = some (Value.int .i64 (zs.getD j 0)) := by simp [List.getElem?_eq_getElem hjn]
    rw [e] at hj
    exact hj
  case qc3 => intro u hu; obtain ⟨x, _, rfl⟩ := List.mem_map.1 hu; rfl
  case qc4 => unfold maxLen; omega
  case qc5 => omega
  case qc6 => simp
  intro v' w1 hown hgrow hnil
  go_wp2
  go_ret
  refine ⟨v', rfl, by simpa using hown, ?_⟩
  exact ((Below.refl _ w).alloc (Nat.le_refl _) _).grown hgrow (by simp) (by intro k hk; simp [Value.ownBlock] at hk; omega)

/-- slices.Clone: A COPY IN MEMORY OF THE CALL's OWN. -/
theorem clone_any (w : World) (a : Option Addr) (n cap : Nat) (zs : List Int) (h : Rd w (.slice a n cap) zs) (hm : zs.length ≤ 1048576) :
    Calls Trym.prog 29 #[.slice a n cap] w fun e w' => ∃ a' cap', e = .returned (.slice a' zs.length cap') ∧ Own w' w.heap.size (.slice a' zs.length cap') zs ∧ Below w.heap.size w w' := by
  cases a with
  | none =>
    obtain ⟨rfl, rfl, rfl⟩ : n = 0 ∧ cap = 0 ∧ zs = [] := by
      rcases h with ⟨hv, hz⟩ | ⟨_, _, hv, _⟩ | ⟨_, _, _, hv, _⟩
      · simp only [Value.slice.injEq] at hv; exact ⟨hv.2.1, hv.2.2, hz⟩
      · cases hv
      · cases hv
    refine (clone_nil w).mono ?_
    rintro e w' ⟨rfl, rfl⟩
    exact ⟨none, 0, rfl, World.ownsRow_nil _ _ _ _, Below.refl _ _⟩
  | some A =>
    obtain ⟨rfl, hA⟩ := At.of_rd h
    refine (clone_row w A _ cap zs rfl hm hA).mono ?_
    rintro e w' ⟨v', rfl, ho, hb⟩
    obtain ⟨a', cap', rfl⟩ := Own.shape ho
    exact ⟨_, _, rfl, ho, hb⟩

/-! ### equalInts over equal slices -/

set_option maxHeartbeats 400000 in
theorem equal_empty (w : World) (a a' : Option Addr) (c c' : Nat) :
    Calls Trym.prog 25 #[.slice a 0 c, .slice a' 0 c'] w fun e w' => e = .returned (.bool true) ∧ ∃ n, w' = w.drewN n := by
  go_enter Trym.func25, Trym.ntmps25
  go_wp2
  refine wp_loop_rounds 1 ?_
  rw [rounds_succ]
  go_wp2
  go_ret
  exact ⟨rfl, 0, rfl⟩

set_option maxHeartbeats 400000 in
theorem equal_row (w : World) (b off b' off' n c c' : Nat) (zs : List Int) (hm : n ≤ 1048576) (hc : ∀ i, i < n → w.cell? ⟨b, off + i, none⟩ = some (.int .i64 (zs.getD i 0)))
    (hc' : ∀ i, i < n → w.cell? ⟨b', off' + i, none⟩ = some (.int .i64 (zs.getD i 0))) :
    Calls Trym.prog 25 #[.slice (some ⟨b, off, none⟩) n c, .slice (some ⟨b', off', none⟩) n c'] w fun e w' => e = .returned (.bool true) ∧ ∃ m, w' = w.drewN m := by
  go_enter Trym.func25, Trym.ntmps25
  go_wp2
  go_loopw [5] (fun i wr => ∃ k m : Nat, k ≤ n ∧ i = .int .i64 k ∧ wr = w.drewN m) (fun i _ => n - (intOf i).toNat)
  case atStart => exact ⟨0, 0, Nat.zero_le _, rfl, rfl⟩
  case round =>
    obtain ⟨k, m, hk, rfl, rfl⟩ := hrel
    by_cases hlt : k < n
    · have h1 := hc k hlt
      have h2 := hc' k hlt
      have hli : (k : Int) < (n : Int) := by omega
      clear hc hc'
      go_wp2
      go_quiet (fail)
      go_wp2
      go_roundw
      case rel => exact ⟨k + 1, _, by omega, by go_num, rfl⟩
      case measure => simp [intOf]; omega
    · have hkn : k = n := by omega
      subst hkn
      go_wp2
      go_ret
      exact ⟨rfl, _, rfl⟩

theorem Rd.empty {w : World} {a : Option Addr} {n cap : Nat} {zs : List Int} (h : Rd w (.slice a n cap) zs) (h0 : zs.length = 0) : n = 0 := by
  obtain ⟨a', c', hv⟩ := h.shape
  simp only [Value.slice.injEq] at hv
  omega

theorem Rd.full {w : World} {a : Option Addr} {n cap : Nat} {zs : List Int} (h : Rd w (.slice a n cap) zs) (h0 : 0 < zs.length) :
    ∃ b off, a = some ⟨b, off, none⟩ ∧ n = zs.length ∧ b < w.heap.size ∧ ∀ i, i < zs.length → w.cell? ⟨b, off + i, none⟩ = some (.int .i64 (zs.getD i 0)) := by
  rcases h with ⟨hv, hz⟩ | ⟨_, _, hv, hz⟩ | ⟨b, off, c, hv, _, hlt, hc⟩
  · rw [hz] at h0; simp at h0
  · rw [hz] at h0; simp at h0
  · simp only [Value.slice.injEq] at hv
    exact ⟨b, off, hv.1, hv.2.1, hlt, hc⟩

/-- equalInts OF TWO SLICES THAT READ ALIKE: true; nothing is written. -/
theorem equal_any (w : World) (a a' : Option Addr) (n n' c c' : Nat) (zs : List Int) (h : Rd w (.slice a n c) zs) (h' : Rd w (.slice a' n' c') zs) (hm : zs.length ≤ 1048576) :
    Calls Trym.prog 25 #[.slice a n c, .slice a' n' c'] w fun e w' => e = .returned (.bool true) ∧ ∃ m, w' = w.drewN m := by
  by_cases h0 : 0 < zs.length
  · obtain ⟨b, off, rfl, rfl, _, hc⟩ := h.full h0
    obtain ⟨b', off', rfl, rfl, _, hc'⟩ := h'.full h0
    exact equal_row w b off b' off' _ c c' zs hm hc hc'
  · obtain rfl := h.empty (by omega)
    obtain rfl := h'.empty (by omega)
    exact equal_empty w a a' c c'

/-! ### writeFlipped -/

theorem grown_trans {w w1 w2 : World} {row : Option Nat} (h : w.grownBy w1 row) (k : w1.grownBy w2 row) : w.grownBy w2 row :=
  ⟨k.os.trans h.os, k.tape.trans h.tape, k.output.trans h.output, Nat.le_trans h.size k.size, fun i hi hne => (k.block i (Nat.lt_of_lt_of_le hi h.size) hne).trans (h.block i hi hne)⟩

set_option maxHeartbeats 400000 in
theorem flip_empty (w : World) (a a' : Option Addr) (c c' : Nat) :
    Calls Trym.prog 18 #[.slice a 0 c, .slice a' 0 c'] w fun e w' => e = .returned (.tuple #[]) ∧ w = w' := by
  go_enter Trym.func18, Trym.ntmps18
  go_wp2
  refine wp_loop_rounds 1 ?_
  rw [rounds_succ]
  go_wp2
  go_end0
  exact ⟨rfl, rfl⟩

set_option maxHeartbeats 400000 in
theorem flip_row (w : World) (base g b off n c c' : Nat) (zs : List Int) (xs : List Value) (hm : n ≤ 1048576) (hown : w.ownsRow base 3 1 (.slice (some ⟨g, 0, none⟩) n c) n xs)
    (hne : b ≠ g) (hc : ∀ i, i < n → w.cell? ⟨b, off + i, none⟩ = some (.int .i64 (zs.getD i 0))) :
    Calls Trym.prog 18 #[.slice (some ⟨g, 0, none⟩) n c, .slice (some ⟨b, off, none⟩) n c'] w fun e w' => e = .returned (.tuple #[]) ∧ w.grownBy w' (some g) := by
  go_enter Trym.func18, Trym.ntmps18
  go_wp2
  go_loopw [4] (fun i wr => ∃ k : Nat, k ≤ n ∧ i = .int .i64 k ∧ (∃ ys, wr.ownsRow base 3 1 (.slice (some ⟨g, 0, none⟩) n c) n ys) ∧ w.grownBy wr (some g)) (fun i _ => n - (intOf i).toNat)
  case atStart => exact ⟨0, Nat.zero_le _, rfl, ⟨xs, hown⟩, World.grownBy.refl _ _⟩
  case round =>
    obtain ⟨k, hk, rfl, ⟨ys, ho⟩, hg⟩ := hrel
    by_cases hlt : k < n
    · have hcx : wr.cell? ⟨b, off + k, none⟩ = some (.int .i64 (zs.getD k 0)) := hg.cell (hc k hlt) (by simpa using hne)
      have hfz : wr.frozen? ⟨g, k, none⟩ = false := ho.frozenAt k
      obtain ⟨u, hu⟩ : ∃ u, wr.cell? ⟨g, k, none⟩ = some u := by
        rw [ho.cellAt k (by omega)]
        exact ⟨_, List.getElem?_eq_getElem (by have := ho.1; omega)⟩
      have R := fun v => ho.stored k v
      clear hc ho hown
      go_wp2
      go_roundw
      case rel => exact ⟨k + 1, by omega, by go_num, ⟨_, (R _).1⟩, grown_trans hg (R _).2⟩
      case measure => simp [intOf]; omega
    · have hkn : k = n := by omega
      subst hkn
      go_wp2
      go_end0
      exact ⟨rfl, hg⟩

/-- writeFlipped: IT WRITES TO THE FIRST SLICE's OWN BLOCK ALONE. (The second slice lies below the first: it was there in an elder world v.) -/
theorem flip_any (w v : World) (base : Nat) (a a' : Option Addr) (n n' c c' : Nat) (xs zs : List Int) (h : Own w base (.slice a n c) xs) (hv' : Rd v (.slice a' n' c') zs) (hvw : Below v.heap.size v w) (he : xs.length = zs.length) (hm : zs.length ≤ 1048576)
    (hlo : ∀ k, (Value.slice a n c).ownBlock = some k → v.heap.size ≤ k) :
    Calls Trym.prog 18 #[.slice a n c, .slice a' n' c'] w fun e w' => e = .returned (.tuple #[]) ∧ w.grownBy w' (Value.slice a n c).ownBlock := by
  have h' := hv'.below hvw
  by_cases h0 : 0 < zs.length
  · obtain ⟨b', off', rfl, rfl, _, hc'⟩ := h'.full h0
    obtain ⟨b2, off2, e2, _, hlt, _⟩ := hv'.full h0
    simp only [Option.some.injEq, Addr.mk.injEq] at e2
    have ho := h
    obtain ⟨hl, h2⟩ := h
    rcases h2 with ⟨hv, hn⟩ | ⟨g, cap, cur, hv, hg, hh, r⟩
    · omega
    · have hv2 := hv
      simp only [Value.slice.injEq] at hv
      obtain ⟨rfl, rfl, rfl⟩ := hv
      have ho2 : w.ownsRow base 3 1 (.slice (some ⟨g, 0, none⟩) zs.length c) zs.length (xs.map (Value.int .i64)) := by rw [← he]; exact ho
      rw [he]
      exact flip_row w base g b' off' _ _ c' zs _ hm ho2 (by have := hlo g rfl; omega) hc'
  · obtain rfl := h'.empty (by omega)
    obtain rfl := h.rd.empty (by omega)
    refine (flip_empty w a a' c c').mono ?_
    rintro e w' ⟨rfl, rfl⟩
    exact ⟨rfl, World.grownBy.refl _ _⟩

/-! ### A bound on lengths: whatever it answers -/

set_option maxHeartbeats 400000 in
theorem bytes20 (w : World) (a a' : Option Addr) (n n' c c' : Nat) :
    Calls Trym.prog 20 #[.slice a n c, .slice a' n' c'] w fun e w' => ∃ b, e = .returned (.bool b) ∧ w = w' := by
  go_enter Trym.func20, Trym.ntmps20
  go_wp2
  all_goals
    go_ret
    exact ⟨_, rfl, rfl⟩

/-! ### Groups -/

set_option maxHeartbeats 400000 in
theorem equalGroup_any (w : World) (a0 a1 b0 b1 : Option Addr) (n0 n1 m0 m1 c0 c1 d0 d1 : Nat) (z0 z1 : List Int) (h0 : Rd w (.slice a0 n0 c0) z0) (h1 : Rd w (.slice a1 n1 c1) z1)
    (k0 : Rd w (.slice b0 m0 d0) z0) (k1 : Rd w (.slice b1 m1 d1) z1) (hm0 : z0.length ≤ 1048576) (hm1 : z1.length ≤ 1048576) :
    Calls Trym.prog 17 #[.agg #[.slice a0 n0 c0, .slice a1 n1 c1], .slice b0 m0 d0, .slice b1 m1 d1] w fun e w' => e = .returned (.bool true) ∧ Below w.heap.size w w' := by
  go_enter Trym.func17, Trym.ntmps17
  go_wp2_with fail
  refine (equal_any _ a0 b0 n0 m0 c0 d0 z0 (h0.alloc _) (k0.alloc _) hm0).mono ?_
  rintro e w' ⟨rfl, m, rfl⟩
  go_wp2_with fail
  refine (equal_any _ a1 b1 n1 m1 c1 d1 z1 ((h1.alloc _).drewN _) ((k1.alloc _).drewN _) hm1).mono ?_
  rintro e w' ⟨rfl, m', rfl⟩
  go_wp2
  go_ret
  exact ⟨rfl, bdrewN ((Below.refl _ w).alloc (Nat.le_refl _) _) _⟩

/-- Two slices' own blocks differ. -/
def Apart (v v' : Value) : Prop := ∀ g g', v.ownBlock = some g → v'.ownBlock = some g' → g ≠ g'

theorem Own.apart {w w' : World} {b b' : Nat} {v v' : Value} {zs zs' : List Int} (h : Own w b v zs) (h' : Own w' b' v' zs') (hb : w.heap.size ≤ b') : Apart v v' := by
  intro g g' hg hg'
  have h1 := World.ownsRow.lt h g hg
  have h2 := World.ownsRow.lt h' g' hg'
  omega

set_option maxHeartbeats 400000 in
theorem gclone_any (w : World) (a0 a1 : Option Addr) (n0 n1 c0 c1 : Nat) (z0 z1 : List Int) (h0 : Rd w (.slice a0 n0 c0) z0) (h1 : Rd w (.slice a1 n1 c1) z1)
    (hm0 : z0.length ≤ 1048576) (hm1 : z1.length ≤ 1048576) :
    Calls Trym.prog 27 #[.agg #[.slice a0 n0 c0, .slice a1 n1 c1]] w fun e w' => ∃ b0 b1 d0 d1, e = .returned (.agg #[.slice b0 z0.length d0, .slice b1 z1.length d1]) ∧
      Own w' w.heap.size (.slice b0 z0.length d0) z0 ∧ Own w' w.heap.size (.slice b1 z1.length d1) z1 ∧ Apart (.slice b0 z0.length d0) (.slice b1 z1.length d1) ∧ Below w.heap.size w w' := by
  go_enter Trym.func27, Trym.ntmps27
  go_wp2_with fail
  refine (clone_any _ a0 n0 c0 z0 ((h0.alloc _).alloc _) hm0).mono ?_
  rintro e w1 ⟨b0, d0, rfl, ho0, hb1⟩
  have T1 := ((Two.new w 26 (.slice a0 n0 c0) (.slice a1 n1 c1)).alloc _).below hb1
  have S1 := (Two.new' (w.alloc (.cells #[.slice a0 n0 c0, .slice a1 n1 c1] 26)) (w.heap.size + 1) (by simp) 26 (.slice none 0 0) (.slice none 0 0)).below hb1
  have t10 := T1.cell0
  have t11 := T1.cell1
  have t1f := T1.frozen
  have B1 : Below w.heap.size w w1 := ((((Below.refl _ w).alloc (Nat.le_refl _) _).alloc (by simp) _).trans (hb1.mono (by simp; omega)))
  have B2 := B1.setCell (p := ⟨w.heap.size, 0, none⟩) (Nat.le_refl _) (.slice b0 z0.length d0)
  go_wp2_with fail
  refine (clone_any _ a1 n1 c1 z1 (h1.below B2) hm1).mono ?_
  rintro e w2 ⟨b1, d1, rfl, ho1, hb2⟩
  have T2 := (T1.set0 (.slice b0 z0.length d0)).below hb2
  have S2 := (S1.other (a := ⟨w.heap.size, 0, none⟩) (by simp) (.slice b0 z0.length d0)).below hb2
  have t20 := T2.cell0
  have t21 := T2.cell1
  have t2f := T2.frozen
  have s20 := S2.cell0
  have s21 := S2.cell1
  have s2f := S2.frozen
  clear t10 t11 t1f
  go_wp2
  have hs0 : ((w.alloc (.cells #[.slice a0 n0 c0, .slice a1 n1 c1] 26)).alloc (.cells #[.slice none 0 0, .slice none 0 0] 26)).heap.size = w.heap.size + 2 := by simp
  rw [hs0] at ho0
  have hs1 : w.heap.size + 2 ≤ (w1.setCell ⟨w.heap.size, 0, none⟩ (.slice b0 z0.length d0)).heap.size := by have := S1.lt; simp; omega
  have o0 : Own w2 (w.heap.size + 2) (.slice b0 z0.length d0) z0 := Own.below (Own.low ho0 w.heap.size 0 (by omega) _) hb2
  have ap : Apart (.slice b0 z0.length d0) (.slice b1 z1.length d1) := Own.apart ho0 ho1 (by simp)
  refine bodyPost_ret (v := .agg #[.slice b0 z0.length d0, .slice b1 z1.length d1]) (by simp [results, Trym.results27, go_sem, s20, s21]) rfl ⟨b0, b1, d0, d1, rfl, ?_, ?_, ap, ?_⟩
  · exact Own.mono (Own.low (Own.low (Own.low o0 w.heap.size 1 (by omega) _) (w.heap.size + 1) 0 (by omega) _) (w.heap.size + 1) 1 (by omega) _) (by omega)
  · exact Own.mono (Own.low (Own.low (Own.low (Own.mono ho1 hs1) w.heap.size 1 (by omega) _) (w.heap.size + 1) 0 (by omega) _) (w.heap.size + 1) 1 (by omega) _) (by omega)
  · exact (((B2.trans (hb2.mono (by omega))).setCell (p := ⟨w.heap.size, 1, none⟩) (Nat.le_refl _) _).setCell (p := ⟨w.heap.size + 1, 0, none⟩) (by simp) _).setCell (p := ⟨w.heap.size + 1, 1, none⟩) (by simp) _

set_option maxHeartbeats 400000 in
theorem zzclone_any (w : World) (a0 a1 : Option Addr) (n0 n1 c0 c1 : Nat) (z0 z1 : List Int) (h0 : Rd w (.slice a0 n0 c0) z0) (h1 : Rd w (.slice a1 n1 c1) z1)
    (hm0 : z0.length ≤ 1048576) (hm1 : z1.length ≤ 1048576) :
    Calls Trym.prog 21 #[.agg #[.slice a0 n0 c0, .slice a1 n1 c1]] w fun e w' => ∃ b0 b1 d0 d1, e = .returned (.agg #[.slice b0 z0.length d0, .slice b1 z1.length d1]) ∧
      Own w' w.heap.size (.slice b0 z0.length d0) z0 ∧ Own w' w.heap.size (.slice b1 z1.length d1) z1 ∧ Apart (.slice b0 z0.length d0) (.slice b1 z1.length d1) ∧ Below w.heap.size w w' := by
  go_enter Trym.func21, Trym.ntmps21
  go_wp2_with fail
  refine (gclone_any _ a0 a1 n0 n1 c0 c1 z0 z1 ((h0.alloc _).alloc _) ((h1.alloc _).alloc _) hm0 hm1).mono ?_
  rintro e w1 ⟨b0, b1, d0, d1, rfl, ho0, ho1, ap, hb1⟩
  have S1 := (Two.new' (w.alloc (.cells #[.slice a0 n0 c0, .slice a1 n1 c1] 26)) (w.heap.size + 1) (by simp) 26 (.slice none 0 0) (.slice none 0 0)).below hb1
  have s10 := S1.cell0
  have s11 := S1.cell1
  have s1f := S1.frozen
  have B1 : Below w.heap.size w w1 := ((((Below.refl _ w).alloc (Nat.le_refl _) _).alloc (by simp) _).trans (hb1.mono (by simp; omega)))
  go_wp2
  have hs0 : ((w.alloc (.cells #[.slice a0 n0 c0, .slice a1 n1 c1] 26)).alloc (.cells #[.slice none 0 0, .slice none 0 0] 26)).heap.size = w.heap.size + 2 := by simp
  rw [hs0] at ho0 ho1
  refine bodyPost_ret (v := .agg #[.slice b0 z0.length d0, .slice b1 z1.length d1]) (by simp [results, Trym.results21, go_sem, s10, s11]) rfl ⟨b0, b1, d0, d1, rfl, ?_, ?_, ap, ?_⟩
  · exact Own.mono (Own.low (Own.low ho0 (w.heap.size + 1) 0 (by omega) _) (w.heap.size + 1) 1 (by omega) _) (by omega)
  · exact Own.mono (Own.low (Own.low ho1 (w.heap.size + 1) 0 (by omega) _) (w.heap.size + 1) 1 (by omega) _) (by omega)
  · exact (B1.setCell (p := ⟨w.heap.size + 1, 0, none⟩) (by simp) _).setCell (p := ⟨w.heap.size + 1, 1, none⟩) (by simp) _

end Go.Proofs.Qxb6001727aMods
