/-
  THE PARTS OF THE SEAT's THREE LAWS: facts on slices of bytes in memory, and a contract for each function on the roads.
-/
import Derived.Test.Qxb6001732aModsRows
import Derived.WalkKit
import Derived.WalkSpells
import Derived.WalkLawsBesides
import Derived.Below
namespace Go.Proofs.Qxb6001732aMods
open Go.RowKit
open Go.WideShapes (add_plain)

theorem info5 : (Trym.prog.info? 5).map (fun i => (i.zero, i.size, i.bytes)) = some (some (.int .u8 0), 1, 1) := by kernel_rfl

/-! ### Slices of bytes that can be read -/

/-- v IS A SLICE WHOSE ELEMENTS READ AS zs IN w: nil; empty; or over a block that is there. -/
def Rd (w : World) (v : Value) (zs : List Int) : Prop :=
  (v = .slice none 0 0 ∧ zs = []) ∨ (∃ a cap, v = .slice (some a) 0 cap ∧ zs = []) ∨
  ∃ b off cap, v = .slice (some ⟨b, off, none⟩) zs.length cap ∧ 0 < zs.length ∧ b < w.heap.size ∧ ∀ i, i < zs.length → w.cell? ⟨b, off + i, none⟩ = some (.int .u8 (zs.getD i 0))

/-- v IS A SLICE OF ITS OWN BLOCK (from 'base' on), ITS ELEMENTS zs. -/
abbrev Own (w : World) (base : Nat) (v : Value) (zs : List Int) : Prop := w.ownsRow base 5 1 v zs.length (zs.map (Value.int .u8))

theorem Rd.below {w w' : World} {v : Value} {zs : List Int} (h : Rd w v zs) (hb : Below w.heap.size w w') : Rd w' v zs := by
  rcases h with h | h | ⟨b, off, cap, hv, hn, hlt, hc⟩
  · exact .inl h
  · exact .inr (.inl h)
  · exact .inr (.inr ⟨b, off, cap, hv, hn, Nat.lt_of_lt_of_le hlt hb.size, fun i hi => (hb.cell (p := ⟨b, off + i, none⟩) hlt).trans (hc i hi)⟩)

theorem Own.rd {w : World} {base : Nat} {v : Value} {zs : List Int} (h : Own w base v zs) : Rd w v zs := by
  have h0 := h
  obtain ⟨_, h2⟩ := h
  rcases h2 with ⟨hv, hn⟩ | ⟨g, cap, cur, hv, hg, hh, hnc, hcm, hcs, hcur⟩
  · exact .inl ⟨hv, List.eq_nil_of_length_eq_zero hn⟩
  · subst hv
    have hlt : g < w.heap.size := (Array.getElem?_eq_some_iff.1 hh).1
    by_cases hz : zs.length = 0
    · refine .inr (.inl ⟨⟨g, 0, none⟩, cap, by rw [hz], List.eq_nil_of_length_eq_zero hz⟩)
    · refine .inr (.inr ⟨g, 0, cap, rfl, by omega, hlt, fun i hi => ?_⟩)
      have := World.ownsRow.cellAt h0 i (by omega)
      rw [Nat.zero_add, this]
      simp [hi]

theorem Own.below {w w' : World} {base : Nat} {v : Value} {zs : List Int} (h : Own w base v zs) (hb : Below w.heap.size w w') : Own w' base v zs := by
  obtain ⟨h1, h2⟩ := h
  refine ⟨h1, ?_⟩
  rcases h2 with h2 | ⟨g, cap, cur, hv, hg, hh, r⟩
  · exact .inl h2
  · exact .inr ⟨g, cap, cur, hv, hg, by rw [hb.block g (Array.getElem?_eq_some_iff.1 hh).1]; exact hh, r⟩

theorem Own.mono {w : World} {base base' : Nat} {v : Value} {zs : List Int} (h : Own w base v zs) (hb : base' ≤ base) : Own w base' v zs := by
  obtain ⟨h1, h2⟩ := h
  refine ⟨h1, ?_⟩
  rcases h2 with h2 | ⟨g, cap, cur, hv, hg, r⟩
  · exact .inl h2
  · exact .inr ⟨g, cap, cur, hv, by omega, r⟩

/-- A store below the base. -/
theorem Own.low {w : World} {base : Nat} {v : Value} {zs : List Int} (h : Own w base v zs) (B o : Nat) (hB : B < base) (u : Value) : Own (w.setCell ⟨B, o, none⟩ u) base v zs := ownsRow_setCell_below h (a := ⟨B, o, none⟩) hB u

theorem Own.shape {w : World} {base : Nat} {v : Value} {zs : List Int} (h : Own w base v zs) : ∃ a cap, v = .slice a zs.length cap := by
  obtain ⟨_, h2⟩ := h
  rcases h2 with ⟨hv, hn⟩ | ⟨g, cap, cur, hv, _⟩
  · exact ⟨none, 0, by rw [hv, hn]⟩
  · exact ⟨_, cap, hv⟩

theorem Rd.shape {w : World} {v : Value} {zs : List Int} (h : Rd w v zs) : ∃ a cap, v = .slice a zs.length cap := by
  rcases h with ⟨hv, hz⟩ | ⟨a, cap, hv, hz⟩ | ⟨b, off, cap, hv, _⟩
  · exact ⟨none, 0, by rw [hv, hz]; rfl⟩
  · exact ⟨some a, cap, by rw [hv, hz]; rfl⟩
  · exact ⟨_, cap, hv⟩

theorem Rd.alloc {w : World} {v : Value} {zs : List Int} (h : Rd w v zs) (o : Obj) : Rd (w.alloc o) v zs := h.below ((Below.refl _ w).alloc (Nat.le_refl _) o)
theorem bdrewN {B : Nat} {a w : World} (h : Below B a w) (n : Nat) : Below B a (w.drewN n) := ⟨h.os, h.tape, h.output, h.size, h.block⟩
theorem Rd.drewN {w : World} {v : Value} {zs : List Int} (h : Rd w v zs) (n : Nat) : Rd (w.drewN n) v zs := h.below (bdrewN (Below.refl _ w) n)
theorem bcell {W w1 : World} (hb : Below W.heap.size W w1) : (∀ b o, b < W.heap.size → w1.cell? ⟨b, o, none⟩ = W.cell? ⟨b, o, none⟩) ∧ (∀ b o, b < W.heap.size → w1.frozen? ⟨b, o, none⟩ = W.frozen? ⟨b, o, none⟩) :=
  ⟨fun b o h => hb.cell (p := ⟨b, o, none⟩) h, fun b o h => hb.frozen (p := ⟨b, o, none⟩) h⟩

/-- An argument, as the row's frame hands it. -/
theorem rd_of_cells {w : World} {x : Addr} {len cap : Nat} {zs : List Int} (hl : len ≤ cap) (hz : zs.length = cap) (hc : ∀ i, i < zs.length → w.cell? (x.add i) = some (.int .u8 (zs.getD i 0))) :
    (zs.take len).length = len ∧ Rd w (.slice (some x) len cap) (zs.take len) := by
  have hlen : (zs.take len).length = len := by simp; omega
  refine ⟨hlen, ?_⟩
  by_cases h0 : len = 0
  · subst h0
    exact .inr (.inl ⟨x, cap, rfl, by simp⟩)
  · obtain ⟨b, off, spot⟩ := x
    have h1 := hc 0 (by omega)
    have hspot : spot = none := by simpa [Addr.add] using World.cell?_spot h1
    subst hspot
    have hlt : b < w.heap.size := World.block_lt_of_cell? w _ h1
    refine .inr (.inr ⟨b, off, cap, by rw [hlen], by omega, hlt, fun i hi => ?_⟩)
    have hi2 : i < len := by omega
    have := hc i (by omega)
    rw [add_plain] at this
    rw [this]
    simp [List.getD, hi2]

/-! ### zzCloneBytes -/

/-- A ROUND OF THE COPY: k cells have been copied. -/
theorem copy_step {w : World} {base n cap k g : Nat} {zs : List Int} (hn : zs.length = n) (hk : k < n)
    (h : w.ownsRow base 5 1 (.slice (some ⟨g, 0, none⟩) n cap) n (((zs.take k).map (Value.int .u8)) ++ List.replicate (n - k) (.int .u8 0))) :
    (w.setCell ⟨g, k, none⟩ (.int .u8 (zs.getD k 0))).ownsRow base 5 1 (.slice (some ⟨g, 0, none⟩) n cap) n (((zs.take (k + 1)).map (Value.int .u8)) ++ List.replicate (n - (k + 1)) (.int .u8 0)) := by
  have := h.stored k (.int .u8 (zs.getD k 0))
  have e : (((zs.take k).map (Value.int .u8)) ++ List.replicate (n - k) (Value.int .u8 0)).set k (.int .u8 (zs.getD k 0)) = ((zs.take (k + 1)).map (Value.int .u8)) ++ List.replicate (n - (k + 1)) (.int .u8 0) := by
    apply List.ext_getElem?
    intro i
    simp only [List.getElem?_set, List.getElem?_append, List.length_map, List.length_take, List.getElem?_map, List.getElem?_take, List.getElem?_replicate, List.length_append, List.length_replicate]
    have hm : min k zs.length = k := by omega
    have hm1 : min (k + 1) zs.length = k + 1 := by omega
    rw [hm, hm1]
    by_cases hik : k = i
    · subst hik
      simp [hn, hk]
      omega
    · by_cases hlt : i < k
      · simp [hik, hlt, show i < k + 1 by omega]
      · have hiff : (i - k < n - k) ↔ (i - (k + 1) < n - (k + 1)) := by omega
        simp [hik, hlt, show ¬ i < k + 1 by omega, hiff]
  rw [e] at this
  exact this.1

set_option maxHeartbeats 400000 in
theorem copy_nil (w : World) : Calls Trym.prog 9 #[.slice none 0 0] w fun e w' => e = .returned (.slice none 0 0) ∧ w = w' := by
  have q22 : ∀ (w : World) (a : Option Addr) (n c n' c' : Nat), (binOp .eql 22 (.slice a n c) (.slice none n' c')).run Trym.prog w = .ok (.bool a.isNone) w := fun w a n c n' c' => Lib.run_eql_slice_nil w _ _ a n c n' c' Trym.underlying22
  go_enter Trym.func9, Trym.ntmps9
  go_wp2
  go_ret
  exact ⟨rfl, rfl⟩

/-- WHAT A SLICE THAT IS NOT nil GIVES TO A WALK. -/
def At (w : World) (A : Addr) (n : Nat) (zs : List Int) : Prop := 0 < n → ∃ b off, A = ⟨b, off, none⟩ ∧ b < w.heap.size ∧ ∀ i, i < n → w.cell? ⟨b, off + i, none⟩ = some (.int .u8 (zs.getD i 0))

set_option maxHeartbeats 400000 in
theorem copy_row (w : World) (A : Addr) (n cap : Nat) (zs : List Int) (hn : zs.length = n) (hm : n ≤ 1048576) (hA : Hid (At w A n zs)) :
    Calls Trym.prog 9 #[.slice (some A) n cap] w fun e w' => e = .returned (.slice (some ⟨w.heap.size, 0, none⟩) n n) ∧ w'.ownsRow w.heap.size 5 1 (.slice (some ⟨w.heap.size, 0, none⟩) n n) n (zs.map (Value.int .u8)) ∧ Below w.heap.size w w' := by
  have q22 : ∀ (w : World) (a : Option Addr) (n c n' c' : Nat), (binOp .eql 22 (.slice a n c) (.slice none n' c')).run Trym.prog w = .ok (.bool a.isNone) w := fun w a n c n' c' => Lib.run_eql_slice_nil w _ _ a n c n' c' Trym.underlying22
  obtain ⟨i0, hi, hz0, hz1, hz2⟩ := info_parts info5
  have HN : Hid (zs.length = n) := hn
  clear hn
  go_enter Trym.func9, Trym.ntmps9
  go_wp2_with (at_make; refine wpList_make_full _ rfl _ _ 22 rfl w.heap.size 5 i0 (.int .u8 0) 1 Trym.underlying22 hi hz0 hz1 .i64 .i64 n n n rfl rfl rfl rfl ?qb ?qm (Nat.le_refl _) ?_)
  case qb => rw [hz2]; omega
  case qm => unfold maxLen; omega
  intro w1 hown hgrow
  have h0 : w1.ownsRow w.heap.size 5 1 (.slice (some ⟨w.heap.size, 0, none⟩) n n) n (((zs.take 0).map (Value.int .u8)) ++ List.replicate (n - 0) (.int .u8 0)) := by
    rw [toList_madeCells_one] at hown
    simpa using hown
  have hbel : Below w.heap.size w w1 := (Below.refl _ w).grown hgrow (Nat.le_refl _) (by intro k hk; cases hk)
  clear hown hgrow
  go_wp2
  go_loopw [4] (fun i wr => ∃ k : Nat, k ≤ n ∧ i = .int .i64 k ∧ wr.ownsRow w.heap.size 5 1 (.slice (some ⟨w.heap.size, 0, none⟩) n n) n (((zs.take k).map (Value.int .u8)) ++ List.replicate (n - k) (.int .u8 0)) ∧ Below w.heap.size w wr)
    (fun i _ => n - (intOf i).toNat)
  case atStart => exact ⟨0, Nat.zero_le _, rfl, h0, hbel⟩
  case round =>
    obtain ⟨k, hk, rfl, hown, hb⟩ := hrel
    by_cases hlt : k < n
    · obtain ⟨b, off, rfl, hbl, hc⟩ := hA.out (by omega)
      have hcx : wr.cell? ⟨b, off + k, none⟩ = some (.int .u8 (zs.getD k 0)) := (hb.cell (p := ⟨b, off + k, none⟩) hbl).trans (hc k hlt)
      have hfz : wr.frozen? ⟨w.heap.size, k, none⟩ = false := hown.frozenAt k
      obtain ⟨u, hu⟩ : ∃ u, wr.cell? ⟨w.heap.size, k, none⟩ = some u := by
        rw [hown.cellAt k (by omega)]
        exact ⟨_, List.getElem?_eq_getElem (by have := hown.1; omega)⟩
      have R := copy_step (zs := zs) HN.out hlt hown
      have hb' := hb.setCell (p := ⟨w.heap.size, k, none⟩) (Nat.le_refl _) (.int .u8 (zs.getD k 0))
      clear hc hown hb h0 hbel
      go_wp2
      go_roundw
      case rel => exact ⟨k + 1, by omega, by go_num, R, hb'⟩
      case measure => simp [intOf]; omega
    · have hkn : k = n := by omega
      subst hkn
      go_wp2
      go_ret
      refine ⟨rfl, ?_, hb⟩
      rw [Nat.sub_self, List.take_of_length_le (by have := HN.out; omega)] at hown
      simpa using hown

theorem At.of_rd {w : World} {A : Addr} {cap : Nat} {zs : List Int} {m : Nat} (h : Rd w (.slice (some A) m cap) zs) : m = zs.length ∧ At w A zs.length zs := by
  rcases h with ⟨hv, _⟩ | ⟨a, c, hv, hz⟩ | ⟨b, off, c, hv, _, hlt, hc⟩
  · cases hv
  · simp only [Value.slice.injEq] at hv
    refine ⟨by rw [hv.2.1, hz]; rfl, fun h0 => ?_⟩
    rw [hz] at h0
    simp at h0
  · simp only [Value.slice.injEq, Option.some.injEq] at hv
    exact ⟨hv.2.1, fun _ => ⟨b, off, hv.1, hlt, hc⟩⟩

theorem Rd.of_at {w : World} {A : Addr} {cap : Nat} {zs : List Int} (h : At w A zs.length zs) : Rd w (.slice (some A) zs.length cap) zs := by
  by_cases h0 : 0 < zs.length
  · obtain ⟨b, off, hA, hlt, hc⟩ := h h0
    exact .inr (.inr ⟨b, off, cap, by rw [hA], h0, hlt, hc⟩)
  · exact .inr (.inl ⟨A, cap, by rw [show zs.length = 0 by omega], List.eq_nil_of_length_eq_zero (by omega)⟩)

/-- zzCloneBytes: A COPY IN MEMORY OF THE CALL's OWN. -/
theorem copy_any (w : World) (a : Option Addr) (n cap : Nat) (zs : List Int) (h : Rd w (.slice a n cap) zs) (hm : zs.length ≤ 1048576) :
    Calls Trym.prog 9 #[.slice a n cap] w fun e w' => ∃ a' cap', e = .returned (.slice a' zs.length cap') ∧ Own w' w.heap.size (.slice a' zs.length cap') zs ∧ Below w.heap.size w w' := by
  cases a with
  | none =>
    obtain ⟨rfl, rfl, rfl⟩ : n = 0 ∧ cap = 0 ∧ zs = [] := by
      rcases h with ⟨hv, hz⟩ | ⟨_, _, hv, _⟩ | ⟨_, _, _, hv, _⟩
      · simp only [Value.slice.injEq] at hv; exact ⟨hv.2.1, hv.2.2, hz⟩
      · cases hv
      · cases hv
    refine (copy_nil w).mono ?_
    rintro e w' ⟨rfl, rfl⟩
    exact ⟨none, 0, rfl, World.ownsRow_nil _ _ _ _, Below.refl _ _⟩
  | some A =>
    obtain ⟨rfl, hA⟩ := At.of_rd h
    refine (copy_row w A _ cap zs rfl hm hA).mono ?_
    rintro e w' ⟨rfl, ho, hb⟩
    exact ⟨_, _, rfl, ho, hb⟩


/-! ### A bound on the length: whatever it answers -/

set_option maxHeartbeats 400000 in
theorem bytes8 (w : World) (a : Option Addr) (n c : Nat) (x : Int) : Calls Trym.prog 8 #[.slice a n c, .int .i64 x] w fun e w' => ∃ b, e = .returned (.bool b) ∧ w = w' := by
  go_enter Trym.func8, Trym.ntmps8
  go_wp2
  all_goals
    go_ret
    exact ⟨_, rfl, rfl⟩

set_option maxHeartbeats 400000 in
theorem bytes13 (w : World) (a : Option Addr) (n c : Nat) (x : Int) : Calls Trym.prog 13 #[.slice a n c, .int .i64 x] w fun e w' => ∃ b, e = .returned (.bool b) ∧ w = w' := by
  go_enter Trym.func13, Trym.ntmps13
  go_wp2
  all_goals
    go_ret
    exact ⟨_, rfl, rfl⟩

set_option maxHeartbeats 400000 in
theorem bytes17 (w : World) (a : Option Addr) (n c : Nat) (x : Int) : Calls Trym.prog 17 #[.slice a n c, .int .i64 x] w fun e w' => ∃ b, e = .returned (.bool b) ∧ w = w' := by
  go_enter Trym.func17, Trym.ntmps17
  go_wp2
  all_goals
    go_ret
    exact ⟨_, rfl, rfl⟩

/-! ### Which bytes are spaces, which are digits -/

def spB (c : Int) : Bool := c == 32 || c == 9 || c == 10 || c == 13
def dgB (c : Int) : Bool := decide (48 ≤ c) && decide (c ≤ 57)

set_option maxHeartbeats 400000 in
theorem isSpace_any (w : World) (c : Int) : Calls Trym.prog 11 #[.int .u8 c] w fun e w' => e = .returned (.bool (spB c)) ∧ w = w' := by
  go_enter Trym.func11, Trym.ntmps11
  go_wp2
  all_goals
    go_ret
    refine ⟨?_, rfl⟩
    first | rfl | simp [spB, *]

set_option maxHeartbeats 400000 in
theorem isDigit_any (w : World) (c : Int) : Calls Trym.prog 15 #[.int .u8 c] w fun e w' => e = .returned (.bool (dgB c)) ∧ w = w' := by
  go_enter Trym.func15, Trym.ntmps15
  go_wp2
  all_goals
    go_ret
    refine ⟨?_, rfl⟩
    first | rfl | (simp [dgB, *]; done) | (simp [dgB, *]; omega)

set_option maxHeartbeats 400000 in
theorem isDigit2_any (w : World) (c : Int) : Calls Trym.prog 20 #[.int .u8 c] w fun e w' => e = .returned (.bool (dgB c)) ∧ w = w' := by
  go_enter Trym.func20, Trym.ntmps20
  go_wp2
  all_goals
    go_ret
    refine ⟨?_, rfl⟩
    first | rfl | (simp [dgB, *]; done) | (simp [dgB, *]; omega)

/-! ### skipSpace, skipDigits: the first place from x on at which p does not hold, or the end -/

/-- WHERE A SKIP OVER p FROM x ENDS. -/
structure Skip (p : Int → Bool) (zs : List Int) (x r : Int) : Prop where
  le : x ≤ r
  top : r = x ∨ r ≤ zs.length
  all : ∀ i : Nat, x ≤ i → (i : Int) < r → p (zs.getD i 0) = true
  stop : ∀ i : Nat, (i : Int) = r → i < zs.length → p (zs.getD i 0) = false

/-- The slice's address and cells, where there is an element. -/
def Lies (w : World) (a : Option Addr) (zs : List Int) : Prop := 0 < zs.length → ∃ b off, a = some ⟨b, off, none⟩ ∧ ∀ i, i < zs.length → w.cell? ⟨b, off + i, none⟩ = some (.int .u8 (zs.getD i 0))

set_option maxHeartbeats 1000000 in
theorem skipSpace_any (w : World) (B : Nat) (a : Option Addr) (n c : Nat) (zs : List Int) (x : Int) (hn : Hid (zs.length = n)) (hm : n ≤ 1048576) (h0 : 0 ≤ x) (h1 : x ≤ 9223372036854775807)
    (hB : w.cell? ⟨B, 0, none⟩ = some (.slice a n c)) (hA : Hid (Lies w a zs)) :
    Calls Trym.prog 18 #[.pointer (some ⟨B, 0, none⟩), .int .i64 x] w fun e w' => ∃ r, e = .returned (.int .i64 r) ∧ Skip spB zs x r ∧ w = w' := by
  go_enter Trym.func18, Trym.ntmps18
  go_wp2
  go_loop [1] (fun t => ∃ k : Int, t = .int .i64 k ∧ x ≤ k ∧ (k = x ∨ k ≤ n) ∧ Hid (∀ i : Nat, x ≤ i → (i : Int) < k → spB (zs.getD i 0) = true)) (fun t => ((n : Int) - intOf t).toNat)
  case atStart => exact ⟨x, rfl, Int.le_refl _, .inl rfl, fun i h h' => by omega⟩
  case round =>
    obtain ⟨k, rfl, hxk, hkn, hall⟩ := hrel
    by_cases hlt : k < n
    · obtain ⟨i, rfl⟩ : ∃ i : Nat, k = i := ⟨k.toNat, by omega⟩
      have hi : i < n := by omega
      obtain ⟨b, off, rfl, hc⟩ := hA.out (by have := hn.out; omega)
      have hci := hc i (by have := hn.out; omega)
      obtain ⟨q, hq⟩ : ∃ q, q = zs.getD i 0 := ⟨_, rfl⟩
      rw [← hq] at hci
      have HQ : Hid (q = zs.getD i 0) := hq
      clear hq hc
      by_cases hsp : spB q = true
      · have HN : Hid (∀ j : Nat, x ≤ j → (j : Int) < (i : Int) + 1 → spB (zs.getD j 0) = true) := fun j hj hj' => by
          by_cases e : j = i
          · subst e; rw [← HQ.out]; exact hsp
          · exact hall.out j hj (by omega)
        have h4 : q = 32 ∨ q = 9 ∨ q = 10 ∨ q = 13 := by simpa [spB, or_assoc] using hsp
        clear hall hsp HQ
        rcases h4 with rfl | rfl | rfl | rfl
        all_goals
          go_wp2
          go_round
          case rel => exact ⟨(i : Int) + 1, rfl, by omega, by omega, HN⟩
          case measure => simp [intOf]; omega
      · have h4 : (q == 32) = false ∧ (q == 9) = false ∧ (q == 10) = false ∧ (q == 13) = false := by simpa [spB, and_assoc] using hsp
        obtain ⟨q1, q2, q3, q4⟩ := h4
        go_wp2
        go_ret
        exact ⟨i, rfl, ⟨hxk, by have := hn.out; omega, hall.out, fun j hj _ => by obtain rfl : j = i := by omega
                                                                                  rw [← HQ.out]; simpa using hsp⟩, rfl⟩
    · go_wp2
      go_ret
      exact ⟨k, rfl, ⟨hxk, by have := hn.out; omega, hall.out, fun j hj hj' => by have := hn.out; omega⟩, rfl⟩

set_option maxHeartbeats 1000000 in
theorem skipDigits_any (w : World) (B : Nat) (a : Option Addr) (n c : Nat) (zs : List Int) (x : Int) (hn : Hid (zs.length = n)) (hm : n ≤ 1048576) (h0 : 0 ≤ x) (h1 : x ≤ 9223372036854775807)
    (hB : w.cell? ⟨B, 0, none⟩ = some (.slice a n c)) (hA : Hid (Lies w a zs)) :
    Calls Trym.prog 19 #[.pointer (some ⟨B, 0, none⟩), .int .i64 x] w fun e w' => ∃ r, e = .returned (.int .i64 r) ∧ Skip dgB zs x r ∧ w = w' := by
  go_enter Trym.func19, Trym.ntmps19
  go_wp2
  go_loop [1] (fun t => ∃ k : Int, t = .int .i64 k ∧ x ≤ k ∧ (k = x ∨ k ≤ n) ∧ Hid (∀ i : Nat, x ≤ i → (i : Int) < k → dgB (zs.getD i 0) = true)) (fun t => ((n : Int) - intOf t).toNat)
  case atStart => exact ⟨x, rfl, Int.le_refl _, .inl rfl, fun i h h' => by omega⟩
  case round =>
    obtain ⟨k, rfl, hxk, hkn, hall⟩ := hrel
    by_cases hlt : k < n
    · obtain ⟨i, rfl⟩ : ∃ i : Nat, k = i := ⟨k.toNat, by omega⟩
      have hi : i < n := by omega
      obtain ⟨b, off, rfl, hc⟩ := hA.out (by have := hn.out; omega)
      have hci := hc i (by have := hn.out; omega)
      obtain ⟨q, hq⟩ : ∃ q, q = zs.getD i 0 := ⟨_, rfl⟩
      rw [← hq] at hci
      have HQ : Hid (q = zs.getD i 0) := hq
      clear hq hc
      cases hsp : dgB q with
      | true =>
        have HN : Hid (∀ j : Nat, x ≤ j → (j : Int) < (i : Int) + 1 → dgB (zs.getD j 0) = true) := fun j hj hj' => by
          by_cases e : j = i
          · subst e; rw [← HQ.out]; exact hsp
          · exact hall.out j hj (by omega)
        clear hall HQ
        go_wp2_with (go_at_call 20; refine (isDigit2_any _ q).mono ?_; rintro e w' ⟨rfl, rfl⟩)
        go_round
        case rel => exact ⟨(i : Int) + 1, rfl, by omega, by omega, HN⟩
        case measure => simp [intOf]; omega
      | false =>
        go_wp2_with (go_at_call 20; refine (isDigit2_any _ q).mono ?_; rintro e w' ⟨rfl, rfl⟩)
        go_ret
        exact ⟨i, rfl, ⟨hxk, by have := hn.out; omega, hall.out, fun j hj _ => by obtain rfl : j = i := by omega
                                                                                  rw [← HQ.out]; exact hsp⟩, rfl⟩
    · go_wp2
      go_ret
      exact ⟨k, rfl, ⟨hxk, by have := hn.out; omega, hall.out, fun j hj hj' => by have := hn.out; omega⟩, rfl⟩

theorem Rd.lies {w : World} {a : Option Addr} {n c : Nat} {zs : List Int} (h : Rd w (.slice a n c) zs) : Lies w a zs := by
  intro h0
  rcases h with ⟨_, hz⟩ | ⟨_, _, _, hz⟩ | ⟨b, off, c', hv, _, _, hc⟩
  · rw [hz] at h0; simp at h0
  · rw [hz] at h0; simp at h0
  · simp only [Value.slice.injEq] at hv
    exact ⟨b, off, hv.1, hc⟩

set_option maxHeartbeats 400000 in
theorem zzSkipSpace_any (w : World) (a : Option Addr) (c : Nat) (zs : List Int) (x : Int) (hm : zs.length ≤ 1048576) (h0 : 0 ≤ x) (h1 : x ≤ 9223372036854775807) (h : Rd w (.slice a zs.length c) zs) :
    Calls Trym.prog 10 #[.slice a zs.length c, .int .i64 x] w fun e w' => ∃ r, e = .returned (.int .i64 r) ∧ Skip spB zs x r ∧ Below w.heap.size w w' := by
  go_enter Trym.func10, Trym.ntmps10
  go_wp2_with fail
  refine (skipSpace_any _ w.heap.size a zs.length c zs x rfl hm h0 h1 (by simp [go_sem]) (h.alloc _).lies).mono ?_
  rintro e w' ⟨r, rfl, hr, rfl⟩
  go_wp2
  go_ret
  exact ⟨r, rfl, hr, (Below.refl _ w).alloc (Nat.le_refl _) _⟩

set_option maxHeartbeats 400000 in
theorem zzSkipDigits_any (w : World) (a : Option Addr) (c : Nat) (zs : List Int) (x : Int) (hm : zs.length ≤ 1048576) (h0 : 0 ≤ x) (h1 : x ≤ 9223372036854775807) (h : Rd w (.slice a zs.length c) zs) :
    Calls Trym.prog 14 #[.slice a zs.length c, .int .i64 x] w fun e w' => ∃ r, e = .returned (.int .i64 r) ∧ Skip dgB zs x r ∧ Below w.heap.size w w' := by
  go_enter Trym.func14, Trym.ntmps14
  go_wp2_with fail
  refine (skipDigits_any _ w.heap.size a zs.length c zs x rfl hm h0 h1 (by simp [go_sem]) (h.alloc _).lies).mono ?_
  rintro e w' ⟨r, rfl, hr, rfl⟩
  go_wp2
  go_ret
  exact ⟨r, rfl, hr, (Below.refl _ w).alloc (Nat.le_refl _) _⟩

end Go.Proofs.Qxb6001732aMods
