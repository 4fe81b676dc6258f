/-
  The law's own small functions: zzIndexOf, zzDistinct, zzAddStrLens, zzPeersBytes, zzPeersPremise.
-/
import Derived.Test.Qxb6612844aPeersKit
namespace Go.Proofs.Qxb6612844a
open Go.RowKit

/-- The slice at a reads as the numbers L. -/
def SrcI (w : World) (a : Option Addr) (L : List Int) : Prop :=
  L = [] ∨ ∃ b off, a = some ⟨b, off, none⟩ ∧ b < w.heap.size ∧ ∀ i, i < L.length → w.cell? ⟨b, off + i, none⟩ = some (.int .u64 L[i]!)

/-- The slice at a reads as the strings A. -/
def SrcS (w : World) (a : Option Addr) (A : List ByteArray) : Prop :=
  A = [] ∨ ∃ b off, a = some ⟨b, off, none⟩ ∧ b < w.heap.size ∧ ∀ i, i < A.length → w.cell? ⟨b, off + i, none⟩ = some (.string A[i]!)

theorem SrcI.later {w w' : World} {a : Option Addr} {L : List Int} (h : SrcI w a L) (hb : Below w.heap.size w w') : SrcI w' a L := by
  rcases h with h | ⟨b, off, rfl, hlt, hc⟩
  · exact .inl h
  · exact .inr ⟨b, off, rfl, Nat.lt_of_lt_of_le hlt hb.size, fun i hi => (hb.cell (p := ⟨b, off + i, none⟩) hlt).trans (hc i hi)⟩

theorem SrcS.later {w w' : World} {a : Option Addr} {A : List ByteArray} (h : SrcS w a A) (hb : Below w.heap.size w w') : SrcS w' a A := by
  rcases h with h | ⟨b, off, rfl, hlt, hc⟩
  · exact .inl h
  · exact .inr ⟨b, off, rfl, Nat.lt_of_lt_of_le hlt hb.size, fun i hi => (hb.cell (p := ⟨b, off + i, none⟩) hlt).trans (hc i hi)⟩

set_option maxHeartbeats 400000 in
theorem indexOf_miss (a : Option Addr) (c : Nat) (L : List Int) (x : Int) (w : World) (hs : SrcI w a L) (hn : L.length ≤ 65536) (hx : ∀ j, j < L.length → L[j]! ≠ x) :
    Calls Try.prog 16 #[.slice a L.length c, .int .u64 x] w fun e w' => e = .returned (.int .i64 (-1)) ∧ w = w' := by
  obtain ⟨n, hln⟩ : ∃ n, n = L.length := ⟨_, rfl⟩
  have HL : Hid (n = L.length) := hln
  have HS : Hid (SrcI w a L) := hs
  have HX : Hid (∀ j, j < L.length → L[j]! ≠ x) := hx
  rw [← hln] at hn ⊢
  clear hs hx hln
  go_enter Try.func16, Try.ntmps16
  go_wp2
  go_loop [5] (fun i => ∃ k : Nat, k ≤ n ∧ i = .int .i64 k) (fun i => n - (intOf i).toNat)
  case atStart => exact ⟨0, Nat.zero_le _, rfl⟩
  case round =>
    obtain ⟨k, hk, rfl⟩ := hrel
    by_cases hlt : k < n
    · have hkl : k < L.length := by have := HL.out; omega
      rcases HS.out with h | ⟨b, off, rfl, hbw, hc⟩
      · rw [h] at hkl; simp at hkl
      · have hck := hc k hkl
        have hne : (L[k]! == x) = false := beq_eq_false_iff_ne.2 (HX.out k hkl)
        clear hc hkl
        generalize L[k]! = y at hck hne
        go_wp2
        go_round
        case rel => exact ⟨k + 1, by omega, by go_num⟩
        case measure => simp [intOf]; omega
    · go_wp2
      go_ret
      exact ⟨rfl, rfl⟩

set_option maxHeartbeats 400000 in
theorem indexOf_hit (a : Option Addr) (c : Nat) (L : List Int) (x : Int) (m : Nat) (w : World) (hs : SrcI w a L) (hn : L.length ≤ 65536) (hm : m < L.length) (hmx : L[m]! = x) (hx : ∀ j, j < m → L[j]! ≠ x) :
    Calls Try.prog 16 #[.slice a L.length c, .int .u64 x] w fun e w' => e = .returned (.int .i64 m) ∧ w = w' := by
  obtain ⟨n, hln⟩ : ∃ n, n = L.length := ⟨_, rfl⟩
  have HL : Hid (n = L.length) := hln
  have HS : Hid (SrcI w a L) := hs
  have HX : Hid (∀ j, j < m → L[j]! ≠ x) := hx
  have HM : Hid (L[m]! = x) := hmx
  rw [← hln] at hn hm ⊢
  clear hs hx hln hmx
  go_enter Try.func16, Try.ntmps16
  go_wp2
  go_loop [5] (fun i => ∃ k : Nat, k ≤ m ∧ i = .int .i64 k) (fun i => n - (intOf i).toNat)
  case atStart => exact ⟨0, Nat.zero_le _, rfl⟩
  case round =>
    obtain ⟨k, hk, rfl⟩ := hrel
    have hlt : k < n := by omega
    have hkl : k < L.length := by have := HL.out; omega
    rcases HS.out with h | ⟨b, off, rfl, hbw, hc⟩
    · rw [h] at hkl; simp at hkl
    · have hck := hc k hkl
      by_cases hkm : k < m
      · have hne : (L[k]! == x) = false := beq_eq_false_iff_ne.2 (HX.out k hkm)
        clear hc hkl
        generalize L[k]! = y at hck hne
        go_wp2
        go_round
        case rel => exact ⟨k + 1, by omega, by go_num⟩
        case measure => simp [intOf]; omega
      · obtain rfl : k = m := by omega
        rw [HM.out] at hck
        clear hc hkl HM HX
        go_wp2
        go_ret
        exact ⟨rfl, rfl⟩

/-- zzAddStrLens gives some int. -/
theorem addStrLens (a : Option Addr) (c : Nat) (A : List ByteArray) (t : Int) (w : World) (hs : SrcS w a A) (hn : A.length ≤ 65536) :
    Calls Try.prog 32 #[.int .i64 t, .slice a A.length c] w fun e w' => (∃ r, e = .returned (.int .i64 r)) ∧ w = w' := by
  obtain ⟨n, hln⟩ : ∃ n, n = A.length := ⟨_, rfl⟩
  have HL : Hid (n = A.length) := hln
  have HS : Hid (SrcS w a A) := hs
  rw [← hln] at hn ⊢
  clear hs hln
  by_cases hbig : 1048576 < t
  · go_enter Try.func32, Try.ntmps32
    go_wp2
    go_ret
    exact ⟨⟨_, rfl⟩, rfl⟩
  · go_enter Try.func32, Try.ntmps32
    go_wp2
    go_loop [0, 5] (fun z i => ∃ (k : Nat) (r : Int), k ≤ n ∧ i = .int .i64 k ∧ z = .int .i64 r) (fun _ i => n - (intOf i).toNat)
    case atStart => exact ⟨0, t, Nat.zero_le _, rfl, rfl⟩
    case round =>
      obtain ⟨k, r, hk, rfl, rfl⟩ := hrel
      by_cases hlt : k < n
      · have hkl : k < A.length := by have := HL.out; omega
        rcases HS.out with h | ⟨b, off, rfl, hbw, hc⟩
        · rw [h] at hkl; simp at hkl
        · have hck := hc k hkl
          clear hc hkl
          generalize A[k]! = y at hck
          go_wp2
          · go_ret
            exact ⟨⟨_, rfl⟩, rfl⟩
          · go_round
            case rel => exact ⟨k + 1, _, by omega, by go_num, rfl⟩
            case measure => simp [intOf]; omega
      · go_wp2
        go_ret
        exact ⟨⟨_, rfl⟩, rfl⟩
end Go.Proofs.Qxb6612844a
