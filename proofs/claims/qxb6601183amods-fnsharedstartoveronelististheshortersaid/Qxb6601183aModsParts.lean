/-
  THE PARTS OF THE SEAT's LAW: facts on slices of strings and of Commands in memory, and a contract for each function on the road.
-/
import Derived.Test.Qxb6601183aModsRows
import Derived.WalkKit
import Derived.WalkSpells
import Derived.WalkLawsBesides
import Derived.Below
import Derived.Deep.QuietTactic
import Derived.BigQuiet
import Derived.RegionTactic
import Derived.LaidEqlPtr
namespace Go.Proofs.Qxb6601183aMods
open Go.RowKit
open Go.WideShapes (add_plain)

theorem info45 : (Trym.prog.info? 45).map (fun i => (i.zero, i.size, i.bytes)) = some (some (.agg #[.string ByteArray.empty, .string ByteArray.empty]), 2, 32) := by kernel_rfl

/-! ### Slices of strings that came in -/

/-- The slice's address and cells, where there is an element. -/
def Lies (w : World) (a : Option Addr) (ss : List ByteArray) : Prop := 0 < ss.length → ∃ b off, a = some ⟨b, off, none⟩ ∧ b < w.heap.size ∧ ∀ i, i < ss.length → w.cell? ⟨b, off + i, none⟩ = some (.string (ss.getD i ByteArray.empty))

theorem Lies.below {w w' : World} {a : Option Addr} {ss : List ByteArray} (h : Lies w a ss) (hb : Below w.heap.size w w') : Lies w' a ss := fun h0 => by
  obtain ⟨b, off, ha, hlt, hc⟩ := h h0
  exact ⟨b, off, ha, Nat.lt_of_lt_of_le hlt hb.size, fun i hi => (hb.cell (p := ⟨b, off + i, none⟩) hlt).trans (hc i hi)⟩

theorem lies_of_cells {w : World} {x : Addr} {len cap : Nat} {ss : List ByteArray} (hl : len ≤ cap) (hz : ss.length = cap) (hc : ∀ i, i < ss.length → w.cell? (x.add i) = some (.string (ss.getD i ByteArray.empty))) :
    (ss.take len).length = len ∧ Lies w (some x) (ss.take len) := by
  have hlen : (ss.take len).length = len := by simp; omega
  refine ⟨hlen, fun h0 => ?_⟩
  rw [hlen] at h0
  obtain ⟨b, off, spot⟩ := x
  have h1 := hc 0 (by omega)
  have hspot : spot = none := by simpa [Addr.add] using World.cell?_spot h1
  subst hspot
  have hlt : b < w.heap.size := World.block_lt_of_cell? w _ h1
  refine ⟨b, off, rfl, hlt, fun i hi => ?_⟩
  have hi2 : i < len := by omega
  have := hc i (by omega)
  rw [add_plain] at this
  rw [this]
  simp [List.getD, hi2]

/-- It returns some int; some bool. (Behind names, so that the walk does not open them.) -/
def AnyInt (e : Ending) : Prop := ∃ z, e = .returned (.int .i64 z)
def AnyBool (e : Ending) : Prop := ∃ b, e = .returned (.bool b)

/-! ### strsBytes: some number; nothing is written -/

set_option maxHeartbeats 400000 in
theorem strs_any (w : World) (a : Option Addr) (n c : Nat) (ss : List ByteArray) (hn : Hid (ss.length = n)) (hL : Hid (Lies w a ss)) :
    Calls Trym.prog 10 #[.slice a n c] w fun e w' => AnyInt e ∧ w = w' := by
  by_cases hm : n ≤ 65536
  case neg =>
    go_enter Trym.func10, Trym.ntmps10
    go_wp2
    go_ret
    exact ⟨⟨_, rfl⟩, rfl⟩
  go_enter Trym.func10, Trym.ntmps10
  go_wp2
  go_loop [3, 4] (fun t i => ∃ (z : Int) (k : Nat), t = .int .i64 z ∧ i = .int .i64 k ∧ k ≤ n) (fun _ i => n - (intOf i).toNat)
  case atStart => exact ⟨_, 0, rfl, rfl, Nat.zero_le _⟩
  case round =>
    obtain ⟨z, k, rfl, rfl, hk⟩ := hrel
    by_cases hlt : k < n
    · obtain ⟨b, off, rfl, _, hc⟩ := hL.out (by have := hn.out; omega)
      have hci := hc k (by have := hn.out; omega)
      generalize ss.getD k ByteArray.empty = q at hci
      clear hc
      go_wp2
      · go_ret
        exact ⟨⟨_, rfl⟩, rfl⟩
      · go_ret
        exact ⟨⟨_, rfl⟩, rfl⟩
      · go_round
        case rel => exact ⟨_, k + 1, rfl, by go_num, by omega⟩
        case measure => simp [intOf]; omega
    · go_wp2
      go_ret
      exact ⟨⟨_, rfl⟩, rfl⟩

/-! ### zzBytes: some bool; nothing is written -/

set_option maxHeartbeats 1000000 in
theorem bytes13 (w : World) (a a' : Option Addr) (n n' c c' : Nat) (ss ts : List ByteArray) (x y : Int) (hn : Hid (ss.length = n)) (hn' : Hid (ts.length = n')) (hL : Hid (Lies w a ss)) (hL' : Hid (Lies w a' ts)) :
    Calls Trym.prog 13 #[.slice a n c, .slice a' n' c', .int .i64 x, .int .i64 y] w fun e w' => AnyBool e ∧ w = w' := by
  by_cases hm : n ≤ 1048576
  case neg =>
    go_enter Trym.func13, Trym.ntmps13
    go_wp2
    go_ret
    exact ⟨⟨_, rfl⟩, rfl⟩
  go_enter Trym.func13, Trym.ntmps13
  go_wp2
  go_loop [9, 10] (fun t i => ∃ (z : Int) (k : Nat), t = .int .i64 z ∧ i = .int .i64 k ∧ k ≤ n) (fun _ i => n - (intOf i).toNat)
  case atStart => exact ⟨_, 0, rfl, rfl, Nat.zero_le _⟩
  case round =>
    obtain ⟨z, k, rfl, rfl, hk⟩ := hrel
    by_cases hlt : k < n
    · obtain ⟨b, off, rfl, _, hc⟩ := hL.out (by have := hn.out; omega)
      have hci := hc k (by have := hn.out; omega)
      generalize ss.getD k ByteArray.empty = q at hci
      clear hc
      go_wp2
      · go_ret
        exact ⟨⟨_, rfl⟩, rfl⟩
      · go_ret
        exact ⟨⟨_, rfl⟩, rfl⟩
      · go_round
        case rel => exact ⟨_, k + 1, rfl, by go_num, by omega⟩
        case measure => simp [intOf]; omega
    · by_cases hm' : n' ≤ 1048576
      case neg =>
        go_wp2
        go_ret
        exact ⟨⟨_, rfl⟩, rfl⟩
      go_wp2
      · go_ret
        exact ⟨⟨_, rfl⟩, rfl⟩
      go_loop [9, 11] (fun t i => ∃ (z : Int) (k : Nat), t = .int .i64 z ∧ i = .int .i64 k ∧ k ≤ n') (fun _ i => n' - (intOf i).toNat)
      case atStart => exact ⟨_, 0, rfl, rfl, Nat.zero_le _⟩
      case round =>
        obtain ⟨z', k', rfl, rfl, hk'⟩ := hrel
        by_cases hlt' : k' < n'
        · obtain ⟨b, off, rfl, _, hc⟩ := hL'.out (by have := hn'.out; omega)
          have hci := hc k' (by have := hn'.out; omega)
          generalize ts.getD k' ByteArray.empty = q at hci
          clear hc
          go_wp2
          · go_ret
            exact ⟨⟨_, rfl⟩, rfl⟩
          · go_ret
            exact ⟨⟨_, rfl⟩, rfl⟩
          · go_round
            case rel => exact ⟨_, k' + 1, rfl, by go_num, by omega⟩
            case measure => simp [intOf]; omega
        · go_wp2
          go_ret
          exact ⟨⟨_, rfl⟩, rfl⟩

end Go.Proofs.Qxb6601183aMods
