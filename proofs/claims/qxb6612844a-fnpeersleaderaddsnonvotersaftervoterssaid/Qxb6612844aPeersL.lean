/-
  zzVoterCount and zzTailIsNonVoters.
-/
import Derived.Test.Qxb6612844aPeersK
namespace Go.Proofs.Qxb6612844a
open Go.RowKit

def inL (L : List Int) (x : Int) : Bool := L.any (fun y => y == x)

theorem inL_false {L : List Int} {x : Int} (h : inL L x = false) : ∀ j, j < L.length → L[j]! ≠ x := by
  intro j hj he
  unfold inL at h
  rw [List.any_eq_false] at h
  have := h L[j]! (by rw [getElem!_pos L j hj]; exact List.getElem_mem hj)
  simp only [he] at this
  simp at this

theorem first_at (L : List Int) (x : Int) : ∀ n, n ≤ L.length → (∀ j, j < n → L[j]! ≠ x) ∨ ∃ m, m < n ∧ L[m]! = x ∧ ∀ j, j < m → L[j]! ≠ x
  | 0, _ => .inl fun j hj => absurd hj (Nat.not_lt_zero _)
  | n + 1, hn => by
    rcases first_at L x n (by omega) with h | ⟨m, h1, h2, h3⟩
    · by_cases e : L[n]! = x
      · exact .inr ⟨n, by omega, e, h⟩
      · left
        intro j hj
        by_cases ej : j = n
        · subst ej; exact e
        · exact h j (by omega)
    · exact .inr ⟨m, by omega, h2, h3⟩

theorem inL_true {L : List Int} {x : Int} (h : inL L x = true) : ∃ m, m < L.length ∧ L[m]! = x ∧ ∀ j, j < m → L[j]! ≠ x := by
  rcases first_at L x L.length (Nat.le_refl _) with hm | hm
  · exfalso
    unfold inL at h
    rw [List.any_eq_true] at h
    obtain ⟨y, hy, he⟩ := h
    obtain ⟨j, hj, rfl⟩ := List.mem_iff_getElem.1 hy
    have := hm j hj
    rw [getElem!_pos L j hj] at this
    simp at he
    exact this he
  · exact hm

theorem take_succ_int (l : List Int) (j : Nat) (h : j < l.length) : l.take (j + 1) = l.take j ++ [l[j]!] := by
  rw [List.take_succ_eq_append_getElem h, getElem!_pos l j h]

/-- How many of the first k numbers meet p. -/
def cnt (p : Int → Bool) (L : List Int) (k : Nat) : Nat := ((L.take k).filter p).length

theorem cnt_le (p : Int → Bool) (L : List Int) (k : Nat) : cnt p L k ≤ k := by
  unfold cnt
  exact Nat.le_trans (List.length_filter_le _ _) (List.length_take_le _ _)

theorem cnt_succ (p : Int → Bool) (L : List Int) (k : Nat) (h : k < L.length) : cnt p L (k + 1) = cnt p L k + (if p L[k]! then 1 else 0) := by
  unfold cnt
  rw [take_succ_int L k h, List.filter_append, List.length_append]
  generalize L[k]! = x
  cases hp : p x <;> simp [hp]

def notSelf (self : Int) (x : Int) : Bool := !(x == self)
def notSelfNotIn (self : Int) (L : List Int) (x : Int) : Bool := !(x == self) && !(inL L x)

/-- The distinct voters but self. -/
def vcount (self : Int) (L1 L2 : List Int) : Nat := cnt (notSelf self) L1 L1.length + cnt (notSelfNotIn self L1) L2 L2.length

set_option maxHeartbeats 1600000 in
theorem voterCount_calls (self : Int) (a1 a2 : Option Addr) (c1 c2 : Nat) (L1 L2 : List Int) (w : World) (s1 : SrcI w a1 L1) (s2 : SrcI w a2 L2) (l1 : L1.length ≤ 1024) (l2 : L2.length ≤ 1024) :
    Calls Try.prog 15 #[.int .u64 self, .slice a1 L1.length c1, .slice a2 L2.length c2] w fun e w' => e = .returned (.int .i64 (vcount self L1 L2 : Int)) ∧ w = w' := by
  have HI0 : Hid (∀ x, inL L1 x = false → _) := fun x hx => indexOf_miss a1 c1 L1 x w s1 (by omega) (inL_false hx)
  have HI1 : Hid (∀ x m, m < L1.length → L1[m]! = x → (∀ j, j < m → L1[j]! ≠ x) → _) := fun x m h1 h2 h3 => indexOf_hit a1 c1 L1 x m w s1 (by omega) h1 h2 h3
  have HS1 : Hid (SrcI w a1 L1) := s1
  have HS2 : Hid (SrcI w a2 L2) := s2
  obtain ⟨n1, h1⟩ : ∃ n, n = L1.length := ⟨_, rfl⟩
  obtain ⟨n2, h2⟩ : ∃ n, n = L2.length := ⟨_, rfl⟩
  have HN1 : Hid (n1 = L1.length) := h1
  have HN2 : Hid (n2 = L2.length) := h2
  rw [← h1] at l1 HI0 HI1 ⊢
  rw [← h2] at l2 ⊢
  clear s1 s2 h1 h2
  go_enter Try.func15, Try.ntmps15
  go_wp2
  go_loop [7, 8] (fun s7 s8 => ∃ (k m : Nat), k ≤ n1 ∧ m ≤ k ∧ s8 = .int .i64 k ∧ s7 = .int .i64 m ∧ Hid (m = cnt (notSelf self) L1 k)) (fun _ s8 => n1 - (intOf s8).toNat)
  case atStart => exact ⟨0, 0, Nat.zero_le _, Nat.zero_le _, rfl, rfl, rfl⟩
  case round =>
    obtain ⟨k, m, hk, hmk, rfl, rfl, hm⟩ := hrel
    by_cases hlt : k < n1
    · have hkl : k < L1.length := by have := HN1.out; omega
      rcases HS1.out with h | ⟨b, off, rfl, hbw, hc⟩
      · rw [h] at hkl; simp at hkl
      · have hck := hc k hkl
        have HC : Hid (cnt (notSelf self) L1 (k + 1) = cnt (notSelf self) L1 k + (if notSelf self L1[k]! then 1 else 0)) := cnt_succ _ _ _ hkl
        clear hc hkl
        generalize L1[k]! = x at hck HC
        by_cases hx : x = self
        · subst hx
          have R : Hid (m = cnt (notSelf x) L1 (k + 1)) := by show m = _; rw [HC.out, ← hm.out]; simp [notSelf]
          clear HC
          go_wp2
          go_round
          case rel => exact ⟨k + 1, m, by omega, by omega, by go_num, rfl, R⟩
          case measure => simp [intOf]; omega
        · have hx2 : (x != self) = true := by rw [bne_iff_ne]; exact hx
          have R : Hid (m + 1 = cnt (notSelf self) L1 (k + 1)) := by show m + 1 = _; rw [HC.out, ← hm.out]; simp [notSelf, hx]
          clear HC
          go_wp2
          go_round
          case rel => exact ⟨k + 1, m + 1, by omega, by omega, by go_num, by go_num, R⟩
          case measure => simp [intOf]; omega
    · have hkn : k = n1 := by omega
      subst hkn
      have hltz : ¬ (k : Int) < (k : Int) := by omega
      go_wp2
      go_loop [7, 9] (fun s7 s9 => ∃ (j m2 : Nat), j ≤ n2 ∧ m2 ≤ m + j ∧ s9 = .int .i64 j ∧ s7 = .int .i64 m2 ∧ Hid (m2 = m + cnt (notSelfNotIn self L1) L2 j)) (fun _ s9 => n2 - (intOf s9).toNat)
      case atStart => exact ⟨0, m, Nat.zero_le _, by omega, rfl, rfl, rfl⟩
      case round =>
        obtain ⟨j, m2, hj, hmj, rfl, rfl, hm2⟩ := hrel
        by_cases hlt2 : j < n2
        · have hjl : j < L2.length := by have := HN2.out; omega
          rcases HS2.out with h | ⟨b, off, rfl, hbw, hc⟩
          · rw [h] at hjl; simp at hjl
          · have hck := hc j hjl
            have HC : Hid (cnt (notSelfNotIn self L1) L2 (j + 1) = cnt (notSelfNotIn self L1) L2 j + (if notSelfNotIn self L1 L2[j]! then 1 else 0)) := cnt_succ _ _ _ hjl
            clear hc hjl
            generalize L2[j]! = x at hck HC
            by_cases hx : x = self
            · subst hx
              have R : Hid (m2 = m + cnt (notSelfNotIn x L1) L2 (j + 1)) := by show m2 = _; rw [HC.out, hm2.out]; simp [notSelfNotIn]
              clear HC
              go_wp2
              go_round
              case rel => exact ⟨j + 1, m2, by omega, by omega, by go_num, rfl, R⟩
              case measure => simp [intOf]; omega
            · have hx2 : (x != self) = true := by rw [bne_iff_ne]; exact hx
              cases hin : inL L1 x with
              | true =>
                have R : Hid (m2 = m + cnt (notSelfNotIn self L1) L2 (j + 1)) := by show m2 = _; rw [HC.out, hm2.out]; simp [notSelfNotIn, hin]
                obtain ⟨f, g1, g2, g3⟩ := inL_true hin
                have hcall := HI1.out x f (by have := HN1.out; omega) g2 g3
                clear HC g1 g2 g3
                go_wp2_with (go_at_call 16; refine hcall.mono ?_; rintro e w' ⟨rfl, rfl⟩)
                go_round
                case rel => exact ⟨j + 1, m2, by omega, by omega, by go_num, rfl, R⟩
                case measure => simp [intOf]; omega
              | false =>
                have R : Hid (m2 + 1 = m + cnt (notSelfNotIn self L1) L2 (j + 1)) := by show m2 + 1 = _; rw [HC.out, hm2.out]; simp [notSelfNotIn, hin, hx]; omega
                have hcall := HI0.out x hin
                clear HC
                go_wp2_with (go_at_call 16; refine hcall.mono ?_; rintro e w' ⟨rfl, rfl⟩)
                go_round
                case rel => exact ⟨j + 1, m2 + 1, by omega, by omega, by go_num, by go_num, R⟩
                case measure => simp [intOf]; omega
        · have hjn : j = n2 := by omega
          subst hjn
          have hltz2 : ¬ (j : Int) < (j : Int) := by omega
          have HF : Hid ((vcount self L1 L2 : Int) = (m2 : Int)) := by show _ = _; unfold vcount; rw [← HN1.out, ← HN2.out, ← hm.out, ← hm2.out]
          go_wp2
          go_ret
          exact ⟨by rw [HF.out]; rfl, rfl⟩
end Go.Proofs.Qxb6612844a
