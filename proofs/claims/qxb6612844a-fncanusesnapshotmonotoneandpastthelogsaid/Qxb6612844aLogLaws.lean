/-
  The walks of two laws over a log: FnFirstIndexLeastUsableAndSpan (5), FnCanUseSnapshotMonotoneAndPastTheLog (7).
-/
import Derived.Test.Qxb6612844aLogWalks
import Derived.WalkSmall
namespace Go.Proofs.Qxb6612844a
open Go.RowKit

theorem law5_walk (a0 : Int) (a1 : Option Addr) (len1 cap1 : Nat) (z1 : List Int) (w : World) (l0 : 0 ≤ a0) (u0 : a0 ≤ 18446744073709551615) (hsrc : Src w a1 len1 z1) (hm : len1 ≤ maxLen) :
    Calls Try.prog 5 #[.int .u64 a0, .slice a1 len1 cap1] w fun e w' => e = .returned (.bool true) ∧ Below w.heap.size w w' := by
  unfold maxLen at hm
  by_cases h1 : len1 ≤ 1048576
  · by_cases h2 : len1 ≤ 65536
    · by_cases h3 : a0 ≤ 18446744073709551615 - len1 - 1
      · go_enter Try.func5, Try.ntmps5
        go_wp2_with (first
          | (go_at_call 21; refine (logOfTerms_calls _ _ _ z1 _ (by omega) (by exact hsrc)).mono ?_; rintro e w1 ⟨rfl, -, hb1⟩; have hz1 := hb1.size)
          | (go_at_call 20; refine (newCore_calls _ _ _ _ _ _ _ _ _ _ _).mono ?_; rintro e w2 ⟨rfl, rfl⟩)
          | (go_at_call 22; refine (first_calls _ a0 _ (by simp [coreCells]) (by omega) (by omega)).mono ?_; rintro e w3 ⟨rfl, rfl⟩)
          | (go_at_call 23; refine (last_calls _ a0 (some ⟨w.heap.size, 0, none⟩) len1 len1 _ (by simp [coreCells]) (by simp [coreCells]) (by omega) (by omega)).mono ?_; rintro e w3 ⟨rfl, q, rfl⟩)
          | (go_at_call 24; refine (canUse_calls _ a0 _ _ (by simp [coreCells])).mono ?_; rintro e w3 ⟨rfl, rfl⟩)
          | go_in)
        go_ret
        exact ⟨rfl, below_drewN (hb1.alloc hz1 _) q⟩
      · go_enter Try.func5, Try.ntmps5
        go_wp2
        go_ret
        exact ⟨rfl, Below.refl _ _⟩
    · go_enter Try.func5, Try.ntmps5
      go_wp2
      go_ret
      exact ⟨rfl, Below.refl _ _⟩
  · go_enter Try.func5, Try.ntmps5
    go_wp2
    go_ret
    exact ⟨rfl, Below.refl _ _⟩

set_option maxHeartbeats 1600000 in
theorem law7_walk (a0 : Int) (a1 : Option Addr) (len1 cap1 : Nat) (z1 : List Int) (a2 a3 : Int) (w : World) (l0 : 0 ≤ a0) (u0 : a0 ≤ 18446744073709551615) (hsrc : Src w a1 len1 z1) (hm : len1 ≤ maxLen) :
    Calls Try.prog 7 #[.int .u64 a0, .slice a1 len1 cap1, .int .u64 a2, .int .u64 a3] w fun e w' => e = .returned (.bool true) ∧ Below w.heap.size w w' := by
  unfold maxLen at hm
  by_cases h1 : len1 ≤ 1048576
  · by_cases h2 : len1 ≤ 65536
    · by_cases h3 : a0 ≤ 18446744073709551615 - len1 - 1
      · have h6 : a0 < a0 + len1 + 1 := by omega
        by_cases h4 : a3 < a2
        · by_cases h5 : a0 < a3
          · have h7 : a0 < a2 := by omega
            go_enter Try.func7, Try.ntmps7
            go_wp2_with (first
              | (go_at_call 21; refine (logOfTerms_calls _ _ _ z1 _ (by omega) (by exact hsrc)).mono ?_; rintro e w1 ⟨rfl, -, hb1⟩; have hz1 := hb1.size)
              | (go_at_call 20; refine (newCore_calls _ _ _ _ _ _ _ _ _ _ _).mono ?_; rintro e w2 ⟨rfl, rfl⟩)
              | (go_at_call 22; refine (first_calls _ a0 _ (by simp [coreCells]) (by omega) (by omega)).mono ?_; rintro e w3 ⟨rfl, rfl⟩)
              | (go_at_call 23; refine (last_calls _ a0 (some ⟨w.heap.size, 0, none⟩) len1 len1 _ (by simp [coreCells]) (by simp [coreCells]) (by omega) (by omega)).mono ?_; rintro e w3 ⟨rfl, q, rfl⟩)
              | (go_at_call 24; refine (canUse_calls _ a0 _ _ (by simp [coreCells])).mono ?_; rintro e w3 ⟨rfl, rfl⟩)
              | go_in)
            go_ret
            exact ⟨rfl, below_drewN (hb1.alloc hz1 _) q⟩
          · go_enter Try.func7, Try.ntmps7
            go_wp2_with (first
              | (go_at_call 21; refine (logOfTerms_calls _ _ _ z1 _ (by omega) (by exact hsrc)).mono ?_; rintro e w1 ⟨rfl, -, hb1⟩; have hz1 := hb1.size)
              | (go_at_call 20; refine (newCore_calls _ _ _ _ _ _ _ _ _ _ _).mono ?_; rintro e w2 ⟨rfl, rfl⟩)
              | (go_at_call 22; refine (first_calls _ a0 _ (by simp [coreCells]) (by omega) (by omega)).mono ?_; rintro e w3 ⟨rfl, rfl⟩)
              | (go_at_call 23; refine (last_calls _ a0 (some ⟨w.heap.size, 0, none⟩) len1 len1 _ (by simp [coreCells]) (by simp [coreCells]) (by omega) (by omega)).mono ?_; rintro e w3 ⟨rfl, q, rfl⟩)
              | (go_at_call 24; refine (canUse_calls _ a0 _ _ (by simp [coreCells])).mono ?_; rintro e w3 ⟨rfl, rfl⟩)
              | go_in)
            go_ret
            exact ⟨rfl, below_drewN (hb1.alloc hz1 _) q⟩
        · by_cases h5 : a0 < a2
          · have h7 : a0 < a3 := by omega
            go_enter Try.func7, Try.ntmps7
            go_wp2_with (first
              | (go_at_call 21; refine (logOfTerms_calls _ _ _ z1 _ (by omega) (by exact hsrc)).mono ?_; rintro e w1 ⟨rfl, -, hb1⟩; have hz1 := hb1.size)
              | (go_at_call 20; refine (newCore_calls _ _ _ _ _ _ _ _ _ _ _).mono ?_; rintro e w2 ⟨rfl, rfl⟩)
              | (go_at_call 22; refine (first_calls _ a0 _ (by simp [coreCells]) (by omega) (by omega)).mono ?_; rintro e w3 ⟨rfl, rfl⟩)
              | (go_at_call 23; refine (last_calls _ a0 (some ⟨w.heap.size, 0, none⟩) len1 len1 _ (by simp [coreCells]) (by simp [coreCells]) (by omega) (by omega)).mono ?_; rintro e w3 ⟨rfl, q, rfl⟩)
              | (go_at_call 24; refine (canUse_calls _ a0 _ _ (by simp [coreCells])).mono ?_; rintro e w3 ⟨rfl, rfl⟩)
              | go_in)
            go_ret
            exact ⟨rfl, below_drewN (hb1.alloc hz1 _) q⟩
          · go_enter Try.func7, Try.ntmps7
            go_wp2_with (first
              | (go_at_call 21; refine (logOfTerms_calls _ _ _ z1 _ (by omega) (by exact hsrc)).mono ?_; rintro e w1 ⟨rfl, -, hb1⟩; have hz1 := hb1.size)
              | (go_at_call 20; refine (newCore_calls _ _ _ _ _ _ _ _ _ _ _).mono ?_; rintro e w2 ⟨rfl, rfl⟩)
              | (go_at_call 22; refine (first_calls _ a0 _ (by simp [coreCells]) (by omega) (by omega)).mono ?_; rintro e w3 ⟨rfl, rfl⟩)
              | (go_at_call 23; refine (last_calls _ a0 (some ⟨w.heap.size, 0, none⟩) len1 len1 _ (by simp [coreCells]) (by simp [coreCells]) (by omega) (by omega)).mono ?_; rintro e w3 ⟨rfl, q, rfl⟩)
              | (go_at_call 24; refine (canUse_calls _ a0 _ _ (by simp [coreCells])).mono ?_; rintro e w3 ⟨rfl, rfl⟩)
              | go_in)
            go_ret
            exact ⟨rfl, below_drewN (hb1.alloc hz1 _) q⟩
      · go_enter Try.func7, Try.ntmps7
        go_wp2
        go_ret
        exact ⟨rfl, Below.refl _ _⟩
    · go_enter Try.func7, Try.ntmps7
      go_wp2
      go_ret
      exact ⟨rfl, Below.refl _ _⟩
  · go_enter Try.func7, Try.ntmps7
    go_wp2
    go_ret
    exact ⟨rfl, Below.refl _ _⟩
end Go.Proofs.Qxb6612844a
