/-
  The walk of (maven.Release).Before, shared by both laws of this seat.
-/
import Derived.Test.Qxb6612936aRows
import Derived.WalkKit
import Derived.WalkSpells
import Derived.RowKit3
namespace Go.Proofs.Qxb6612936a
open Go.RowKit

/-- Release{M, m} comes before a.b. -/
def befB (M m a b : Int) : Bool := decide (M < a) || (decide (M = a) && decide (m < b))

theorem befB_iff (M m a b : Int) : befB M m a b = true ↔ (M < a ∨ (M = a ∧ m < b)) := by simp [befB]
theorem befB_eq {M m M' m' a b : Int} (h : (M < a ∨ (M = a ∧ m < b)) ↔ (M' < a ∨ (M' = a ∧ m' < b))) : befB M m a b = befB M' m' a b := by
  rw [Bool.eq_iff_iff, befB_iff, befB_iff]; exact h

theorem before_any (M m a b : Int) (w : World) :
    Calls Try.prog 5 #[.agg #[.int .u64 M, .int .u64 m], .int .u64 a, .int .u64 b] w fun e w' => e = .returned (.bool (befB M m a b)) ∧ w.alloc (.cells #[.int .u64 M, .int .u64 m] 24) = w' := by
  unfold befB
  by_cases h1 : M < a
  · go_enter Try.func5, Try.ntmps5
    go_wp2
    go_ret
    exact ⟨by simp [h1], rfl⟩
  · by_cases h2 : M = a
    · subst h2
      by_cases h3 : m < b
      · go_enter Try.func5, Try.ntmps5
        go_wp2
        go_ret
        exact ⟨by simp, rfl⟩
      · go_enter Try.func5, Try.ntmps5
        go_wp2
        go_ret
        exact ⟨by simp [h3], rfl⟩
    · have h2b : (M == a) = false := by simpa using h2
      go_enter Try.func5, Try.ntmps5
      go_wp2
      go_ret
      exact ⟨by simp [h1], rfl⟩
end Go.Proofs.Qxb6612936a
