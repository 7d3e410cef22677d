/-
  THE PARTS OF THE SEAT's LAW 'FnPercentileInjectiveBelowMax': a contract for each callee, and the law's walk.
-/
import Derived.Test.Qxb6001728aModsRows
import Derived.WalkKit
import Derived.WalkSpells
import Derived.WalkLawsBesides
namespace Go.Proofs.Qxb6001728aMods
open Go.RowKit

/-- Of the percentile r that a metric s answers: below 100 it names s. -/
def Pct (s : ByteArray) (r : Int) : Prop :=
  (r = 50 ∧ (s.toList == [80, 53, 48]) = true) ∨ (r = 95 ∧ (s.toList == [80, 57, 53]) = true) ∨ (r = 99 ∧ (s.toList == [80, 57, 57]) = true) ∨ r = 100

set_option maxHeartbeats 400000 in
theorem percentile_any (w : World) (s : ByteArray) :
    Calls Trym.prog 9 #[.string s] w fun e w' => ∃ r, e = .returned (.int .i64 r) ∧ Pct s r ∧ w = w' := by
  go_enter Trym.func9, Trym.ntmps9
  go_wp2
  · go_ret
    exact ⟨50, rfl, .inl ⟨rfl, by assumption⟩, rfl⟩
  · go_ret
    exact ⟨95, rfl, .inr (.inl ⟨rfl, by assumption⟩), rfl⟩
  · go_ret
    exact ⟨99, rfl, .inr (.inr (.inl ⟨rfl, by assumption⟩)), rfl⟩
  · go_ret
    exact ⟨100, rfl, .inr (.inr (.inr rfl)), rfl⟩

set_option maxHeartbeats 400000 in
theorem bytes8 (w : World) (s t : ByteArray) :
    Calls Trym.prog 8 #[.string s, .string t] w fun e w' => ∃ b, e = .returned (.bool b) ∧ w = w' := by
  go_enter Trym.func8, Trym.ntmps8
  go_wp2
  all_goals
    go_ret
    exact ⟨_, rfl, rfl⟩

/-- Two metrics that share a percentile below 100 are one. -/
theorem pct_same {s t : ByteArray} {r : Int} (h : Pct s r) (k : Pct t r) (hr : r < 100) : (s.toList == t.toList) = true := by
  simp only [Pct, beq_iff_eq] at h k ⊢
  rcases h with ⟨h1, h2⟩ | ⟨h1, h2⟩ | ⟨h1, h2⟩ | h1 <;> rcases k with ⟨k1, k2⟩ | ⟨k1, k2⟩ | ⟨k1, k2⟩ | k1 <;> first | omega | rw [h2, k2]

set_option maxHeartbeats 400000 in
theorem law3 (w : World) (s t : ByteArray) :
    Calls Trym.prog 3 #[.string s, .string t] w fun e w' => e = .returned (.bool true) ∧ w = w' := by
  go_enter Trym.func3, Trym.ntmps3
  go_wp2_with fail
  refine (bytes8 _ s t).mono ?_
  rintro e w' ⟨b, rfl, rfl⟩
  cases b with
  | false =>
    go_wp2
    go_ret
    exact ⟨rfl, rfl⟩
  | true =>
    go_wp2_with fail
    · go_ret
      exact ⟨rfl, rfl⟩
    · refine (percentile_any _ s).mono ?_
      rintro e w' ⟨r, rfl, hr, rfl⟩
      go_wp2_with fail
      refine (percentile_any _ t).mono ?_
      rintro e w' ⟨q, rfl, hq, rfl⟩
      by_cases he : r = q
      · subst he
        by_cases hlt : r < 100
        · have hst := pct_same hr hq hlt
          clear hr hq
          go_wp2
          go_ret
          exact ⟨rfl, rfl⟩
        · clear hr hq
          go_wp2
          go_ret
          exact ⟨rfl, rfl⟩
      · have hne : (r == q) = false := by simpa using he
        clear hr hq
        go_wp2
        go_ret
        exact ⟨rfl, rfl⟩

end Go.Proofs.Qxb6001728aMods
