/-
  zzBytes_FnPeersExact and zzBytes_FnPeersLeaderAddsNonVotersAfterVoters.
-/
import Derived.Test.Qxb6612844aPeersJ
namespace Go.Proofs.Qxb6612844a
open Go.RowKit

/-- Each string is short. -/
def Small (A : List ByteArray) : Prop := ∀ j, j < A.length → A[j]!.size ≤ 1048576

set_option maxHeartbeats 3200000 in
theorem bytes9 (self role : Int) (a1 a2 a3 a4 a5 a6 : Option Addr) (c1 c2 c3 c4 c5 c6 n1 n3 n5 : Nat) (A1 A2 A3 : List ByteArray) (w : World) (s1 : SrcS w a2 A1) (s2 : SrcS w a4 A2) (s3 : SrcS w a6 A3) (l1 : n1 ≤ maxLen) (l3 : n3 ≤ maxLen) (l5 : n5 ≤ maxLen) (l2 : A1.length ≤ maxLen) (l4 : A2.length ≤ maxLen) (l6 : A3.length ≤ maxLen) :
    Calls Try.prog 9 #[.int .u64 self, .int .i64 role, .slice a1 n1 c1, .slice a2 A1.length c2, .slice a3 n3 c3, .slice a4 A2.length c4, .slice a5 n5 c5, .slice a6 A3.length c6] w fun e w' => BoolR e (Small A1 ∧ Small A2 ∧ Small A3) ∧ w = w' := by
  unfold maxLen at *
  have HS1 : Hid (SrcS w a2 A1) := s1
  have HS2 : Hid (SrcS w a4 A2) := s2
  have HS3 : Hid (SrcS w a6 A3) := s3
  obtain ⟨n2, h2⟩ : ∃ n, n = A1.length := ⟨_, rfl⟩
  obtain ⟨n4, h4⟩ : ∃ n, n = A2.length := ⟨_, rfl⟩
  obtain ⟨n6, h6⟩ : ∃ n, n = A3.length := ⟨_, rfl⟩
  have HL2 : Hid (n2 = A1.length) := h2
  have HL4 : Hid (n4 = A2.length) := h4
  have HL6 : Hid (n6 = A3.length) := h6
  rw [← h2] at l2 ⊢
  rw [← h4] at l4 ⊢
  rw [← h6] at l6 ⊢
  clear s1 s2 s3 h2 h4 h6
  go_enter Try.func9, Try.ntmps9
  go_wp2
  all_goals first | (go_ret; exact ⟨⟨false, rfl, fun h => by cases h⟩, rfl⟩) | skip
  go_loop [17, 18] (fun zz i => ∃ (k : Nat) (s : Int), k ≤ n2 ∧ i = .int .i64 k ∧ zz = .int .i64 s ∧ 0 ≤ s ∧ s ≤ 1048576 ∧ Hid (∀ j, j < k → A1[j]!.size ≤ 1048576)) (fun _ i => n2 - (intOf i).toNat)
  case atStart => exact ⟨0, _, Nat.zero_le _, rfl, rfl, by omega, by omega, fun j hj => absurd hj (Nat.not_lt_zero _)⟩
  case round =>
    obtain ⟨k, s, hk, rfl, rfl, hs0, hs1, hA⟩ := hrel
    by_cases hlt : k < n2
    · have hkl : k < A1.length := by have := HL2.out; omega
      rcases HS1.out with h | ⟨b, off, rfl, hbw, hc⟩
      · rw [h] at hkl; simp at hkl
      · have hck := hc k hkl
        clear hc hkl
        generalize hy : A1[k]! = y at hck
        have HY : Hid (A1[k]! = y) := hy
        clear hy
        by_cases hbig : y.size ≤ 1048576
        · by_cases hsum : s + y.size ≤ 1048576
          · go_wp2
            go_round
            case rel =>
              refine ⟨k + 1, _, by omega, by go_num, rfl, by omega, by omega, (show Hid _ from fun j hj => ?_)⟩
              by_cases e : j = k
              · subst e; rw [HY.out]; exact hbig
              · exact hA.out j (by omega)
            case measure => simp [intOf]; omega
          · go_wp2
            go_ret
            exact ⟨⟨false, rfl, fun h => by cases h⟩, rfl⟩
        · go_wp2
          go_ret
          exact ⟨⟨false, rfl, fun h => by cases h⟩, rfl⟩
    · have hkn : k = n2 := by omega
      have HA1 : Hid (Small A1) := fun j hj => hA.out j (by have := HL2.out; omega)
      clear hA hkn
      have hlt' : ¬ (k : Int) < (n2 : Int) := by omega
      go_wp2
      all_goals first | (go_ret; exact ⟨⟨false, rfl, fun h => by cases h⟩, rfl⟩) | skip
      go_loop [17, 19] (fun zz i => ∃ (k : Nat) (s : Int), k ≤ n4 ∧ i = .int .i64 k ∧ zz = .int .i64 s ∧ 0 ≤ s ∧ s ≤ 1048576 ∧ Hid (∀ j, j < k → A2[j]!.size ≤ 1048576)) (fun _ i => n4 - (intOf i).toNat)
      case atStart => exact ⟨0, _, Nat.zero_le _, rfl, rfl, by omega, by omega, fun j hj => absurd hj (Nat.not_lt_zero _)⟩
      case round =>
        obtain ⟨k, s, hk, rfl, rfl, hs0, hs1, hA⟩ := hrel
        by_cases hlt : k < n4
        · have hkl : k < A2.length := by have := HL4.out; omega
          rcases HS2.out with h | ⟨b, off, rfl, hbw, hc⟩
          · rw [h] at hkl; simp at hkl
          · have hck := hc k hkl
            clear hc hkl
            generalize hy : A2[k]! = y at hck
            have HY : Hid (A2[k]! = y) := hy
            clear hy
            by_cases hbig : y.size ≤ 1048576
            · by_cases hsum : s + y.size ≤ 1048576
              · go_wp2
                go_round
                case rel =>
                  refine ⟨k + 1, _, by omega, by go_num, rfl, by omega, by omega, (show Hid _ from fun j hj => ?_)⟩
                  by_cases e : j = k
                  · subst e; rw [HY.out]; exact hbig
                  · exact hA.out j (by omega)
                case measure => simp [intOf]; omega
              · go_wp2
                go_ret
                exact ⟨⟨false, rfl, fun h => by cases h⟩, rfl⟩
            · go_wp2
              go_ret
              exact ⟨⟨false, rfl, fun h => by cases h⟩, rfl⟩
        · have hkn : k = n4 := by omega
          have HA2 : Hid (Small A2) := fun j hj => hA.out j (by have := HL4.out; omega)
          clear hA hkn
          have hlt' : ¬ (k : Int) < (n4 : Int) := by omega
          go_wp2
          all_goals first | (go_ret; exact ⟨⟨false, rfl, fun h => by cases h⟩, rfl⟩) | skip
          go_loop [17, 20] (fun zz i => ∃ (k : Nat) (s : Int), k ≤ n6 ∧ i = .int .i64 k ∧ zz = .int .i64 s ∧ 0 ≤ s ∧ s ≤ 1048576 ∧ Hid (∀ j, j < k → A3[j]!.size ≤ 1048576)) (fun _ i => n6 - (intOf i).toNat)
          case atStart => exact ⟨0, _, Nat.zero_le _, rfl, rfl, by omega, by omega, fun j hj => absurd hj (Nat.not_lt_zero _)⟩
          case round =>
            obtain ⟨k, s, hk, rfl, rfl, hs0, hs1, hA⟩ := hrel
            by_cases hlt : k < n6
            · have hkl : k < A3.length := by have := HL6.out; omega
              rcases HS3.out with h | ⟨b, off, rfl, hbw, hc⟩
              · rw [h] at hkl; simp at hkl
              · have hck := hc k hkl
                clear hc hkl
                generalize hy : A3[k]! = y at hck
                have HY : Hid (A3[k]! = y) := hy
                clear hy
                by_cases hbig : y.size ≤ 1048576
                · by_cases hsum : s + y.size ≤ 1048576
                  · go_wp2
                    go_round
                    case rel =>
                      refine ⟨k + 1, _, by omega, by go_num, rfl, by omega, by omega, (show Hid _ from fun j hj => ?_)⟩
                      by_cases e : j = k
                      · subst e; rw [HY.out]; exact hbig
                      · exact hA.out j (by omega)
                    case measure => simp [intOf]; omega
                  · go_wp2
                    go_ret
                    exact ⟨⟨false, rfl, fun h => by cases h⟩, rfl⟩
                · go_wp2
                  go_ret
                  exact ⟨⟨false, rfl, fun h => by cases h⟩, rfl⟩
            · have hkn : k = n6 := by omega
              have HA3 : Hid (Small A3) := fun j hj => hA.out j (by have := HL6.out; omega)
              clear hA hkn
              have hlt' : ¬ (k : Int) < (n6 : Int) := by omega
              go_wp2
              go_ret
              exact ⟨⟨true, rfl, fun _ => ⟨HA1.out, HA2.out, HA3.out⟩⟩, rfl⟩

set_option maxHeartbeats 3200000 in
theorem bytes18 (self : Int) (a1 a2 a3 a4 a5 a6 : Option Addr) (c1 c2 c3 c4 c5 c6 n1 n3 n5 : Nat) (A1 A2 A3 : List ByteArray) (w : World) (s1 : SrcS w a2 A1) (s2 : SrcS w a4 A2) (s3 : SrcS w a6 A3) (l1 : n1 ≤ maxLen) (l3 : n3 ≤ maxLen) (l5 : n5 ≤ maxLen) (l2 : A1.length ≤ maxLen) (l4 : A2.length ≤ maxLen) (l6 : A3.length ≤ maxLen) :
    Calls Try.prog 18 #[.int .u64 self, .slice a1 n1 c1, .slice a2 A1.length c2, .slice a3 n3 c3, .slice a4 A2.length c4, .slice a5 n5 c5, .slice a6 A3.length c6] w fun e w' => BoolR e (Small A1 ∧ Small A2 ∧ Small A3) ∧ w = w' := by
  unfold maxLen at *
  have HS1 : Hid (SrcS w a2 A1) := s1
  have HS2 : Hid (SrcS w a4 A2) := s2
  have HS3 : Hid (SrcS w a6 A3) := s3
  obtain ⟨n2, h2⟩ : ∃ n, n = A1.length := ⟨_, rfl⟩
  obtain ⟨n4, h4⟩ : ∃ n, n = A2.length := ⟨_, rfl⟩
  obtain ⟨n6, h6⟩ : ∃ n, n = A3.length := ⟨_, rfl⟩
  have HL2 : Hid (n2 = A1.length) := h2
  have HL4 : Hid (n4 = A2.length) := h4
  have HL6 : Hid (n6 = A3.length) := h6
  rw [← h2] at l2 ⊢
  rw [← h4] at l4 ⊢
  rw [← h6] at l6 ⊢
  clear s1 s2 s3 h2 h4 h6
  go_enter Try.func18, Try.ntmps18
  go_wp2
  all_goals first | (go_ret; exact ⟨⟨false, rfl, fun h => by cases h⟩, rfl⟩) | skip
  go_loop [15, 16] (fun zz i => ∃ (k : Nat) (s : Int), k ≤ n2 ∧ i = .int .i64 k ∧ zz = .int .i64 s ∧ 0 ≤ s ∧ s ≤ 1048576 ∧ Hid (∀ j, j < k → A1[j]!.size ≤ 1048576)) (fun _ i => n2 - (intOf i).toNat)
  case atStart => exact ⟨0, _, Nat.zero_le _, rfl, rfl, by omega, by omega, fun j hj => absurd hj (Nat.not_lt_zero _)⟩
  case round =>
    obtain ⟨k, s, hk, rfl, rfl, hs0, hs1, hA⟩ := hrel
    by_cases hlt : k < n2
    · have hkl : k < A1.length := by have := HL2.out; omega
      rcases HS1.out with h | ⟨b, off, rfl, hbw, hc⟩
      · rw [h] at hkl; simp at hkl
      · have hck := hc k hkl
        clear hc hkl
        generalize hy : A1[k]! = y at hck
        have HY : Hid (A1[k]! = y) := hy
        clear hy
        by_cases hbig : y.size ≤ 1048576
        · by_cases hsum : s + y.size ≤ 1048576
          · go_wp2
            go_round
            case rel =>
              refine ⟨k + 1, _, by omega, by go_num, rfl, by omega, by omega, (show Hid _ from fun j hj => ?_)⟩
              by_cases e : j = k
              · subst e; rw [HY.out]; exact hbig
              · exact hA.out j (by omega)
            case measure => simp [intOf]; omega
          · go_wp2
            go_ret
            exact ⟨⟨false, rfl, fun h => by cases h⟩, rfl⟩
        · go_wp2
          go_ret
          exact ⟨⟨false, rfl, fun h => by cases h⟩, rfl⟩
    · have hkn : k = n2 := by omega
      have HA1 : Hid (Small A1) := fun j hj => hA.out j (by have := HL2.out; omega)
      clear hA hkn
      have hlt' : ¬ (k : Int) < (n2 : Int) := by omega
      go_wp2
      all_goals first | (go_ret; exact ⟨⟨false, rfl, fun h => by cases h⟩, rfl⟩) | skip
      go_loop [15, 17] (fun zz i => ∃ (k : Nat) (s : Int), k ≤ n4 ∧ i = .int .i64 k ∧ zz = .int .i64 s ∧ 0 ≤ s ∧ s ≤ 1048576 ∧ Hid (∀ j, j < k → A2[j]!.size ≤ 1048576)) (fun _ i => n4 - (intOf i).toNat)
      case atStart => exact ⟨0, _, Nat.zero_le _, rfl, rfl, by omega, by omega, fun j hj => absurd hj (Nat.not_lt_zero _)⟩
      case round =>
        obtain ⟨k, s, hk, rfl, rfl, hs0, hs1, hA⟩ := hrel
        by_cases hlt : k < n4
        · have hkl : k < A2.length := by have := HL4.out; omega
          rcases HS2.out with h | ⟨b, off, rfl, hbw, hc⟩
          · rw [h] at hkl; simp at hkl
          · have hck := hc k hkl
            clear hc hkl
            generalize hy : A2[k]! = y at hck
            have HY : Hid (A2[k]! = y) := hy
            clear hy
            by_cases hbig : y.size ≤ 1048576
            · by_cases hsum : s + y.size ≤ 1048576
              · go_wp2
                go_round
                case rel =>
                  refine ⟨k + 1, _, by omega, by go_num, rfl, by omega, by omega, (show Hid _ from fun j hj => ?_)⟩
                  by_cases e : j = k
                  · subst e; rw [HY.out]; exact hbig
                  · exact hA.out j (by omega)
                case measure => simp [intOf]; omega
              · go_wp2
                go_ret
                exact ⟨⟨false, rfl, fun h => by cases h⟩, rfl⟩
            · go_wp2
              go_ret
              exact ⟨⟨false, rfl, fun h => by cases h⟩, rfl⟩
        · have hkn : k = n4 := by omega
          have HA2 : Hid (Small A2) := fun j hj => hA.out j (by have := HL4.out; omega)
          clear hA hkn
          have hlt' : ¬ (k : Int) < (n4 : Int) := by omega
          go_wp2
          all_goals first | (go_ret; exact ⟨⟨false, rfl, fun h => by cases h⟩, rfl⟩) | skip
          go_loop [15, 18] (fun zz i => ∃ (k : Nat) (s : Int), k ≤ n6 ∧ i = .int .i64 k ∧ zz = .int .i64 s ∧ 0 ≤ s ∧ s ≤ 1048576 ∧ Hid (∀ j, j < k → A3[j]!.size ≤ 1048576)) (fun _ i => n6 - (intOf i).toNat)
          case atStart => exact ⟨0, _, Nat.zero_le _, rfl, rfl, by omega, by omega, fun j hj => absurd hj (Nat.not_lt_zero _)⟩
          case round =>
            obtain ⟨k, s, hk, rfl, rfl, hs0, hs1, hA⟩ := hrel
            by_cases hlt : k < n6
            · have hkl : k < A3.length := by have := HL6.out; omega
              rcases HS3.out with h | ⟨b, off, rfl, hbw, hc⟩
              · rw [h] at hkl; simp at hkl
              · have hck := hc k hkl
                clear hc hkl
                generalize hy : A3[k]! = y at hck
                have HY : Hid (A3[k]! = y) := hy
                clear hy
                by_cases hbig : y.size ≤ 1048576
                · by_cases hsum : s + y.size ≤ 1048576
                  · go_wp2
                    go_round
                    case rel =>
                      refine ⟨k + 1, _, by omega, by go_num, rfl, by omega, by omega, (show Hid _ from fun j hj => ?_)⟩
                      by_cases e : j = k
                      · subst e; rw [HY.out]; exact hbig
                      · exact hA.out j (by omega)
                    case measure => simp [intOf]; omega
                  · go_wp2
                    go_ret
                    exact ⟨⟨false, rfl, fun h => by cases h⟩, rfl⟩
                · go_wp2
                  go_ret
                  exact ⟨⟨false, rfl, fun h => by cases h⟩, rfl⟩
            · have hkn : k = n6 := by omega
              have HA3 : Hid (Small A3) := fun j hj => hA.out j (by have := HL6.out; omega)
              clear hA hkn
              have hlt' : ¬ (k : Int) < (n6 : Int) := by omega
              go_wp2
              go_ret
              exact ⟨⟨true, rfl, fun _ => ⟨HA1.out, HA2.out, HA3.out⟩⟩, rfl⟩
end Go.Proofs.Qxb6612844a
