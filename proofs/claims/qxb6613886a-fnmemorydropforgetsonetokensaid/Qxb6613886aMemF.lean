/-
  The law's own small functions: zzBytes, zzTooBig, zzMemoryPremise.
-/
import Derived.Test.Qxb6613886aMemE
namespace Go.Proofs.Qxb6613886a
open Go.RowKit

/-- The slice at a reads as L. -/
def Src {α : Type} [Inhabited α] (enc : α → Value) (w : World) (a : Option Addr) (L : List α) : Prop :=
  L = [] ∨ ∃ b off, a = some ⟨b, off, none⟩ ∧ b < w.heap.size ∧ ∀ i, i < L.length → w.cell? ⟨b, off + i, none⟩ = some (enc L[i]!)

theorem Src.later {α : Type} [Inhabited α] {enc : α → Value} {w w' : World} {a : Option Addr} {L : List α} (h : Src enc w a L) (hb : Below w.heap.size w w') : Src enc w' a L := by
  rcases h with h | ⟨b, off, rfl, hlt, hc⟩
  · exact .inl h
  · exact .inr ⟨b, off, rfl, Nat.lt_of_lt_of_le hlt hb.size, fun i hi => (hb.cell (p := ⟨b, off + i, none⟩) hlt).trans (hc i hi)⟩

abbrev SrcI := Src (fun x : Int => Value.int .i64 x)
abbrev SrcS := Src (fun x : ByteArray => Value.string x)
abbrev SrcB := Src (fun x : Bool => Value.bool x)

def BoolT (e : Ending) (p : Prop) : Prop := ∃ r : Bool, e = .returned (.bool r) ∧ (r = true → p)
def BoolF (e : Ending) (p : Prop) : Prop := ∃ r : Bool, e = .returned (.bool r) ∧ (r = false → p)
/-- Each string is short. -/
def Small (A : List ByteArray) : Prop := ∀ j, j < A.length → A[j]!.size ≤ 1048576
def Sizes (n1 n2 n3 : Nat) : Prop := n1 ≤ 65536 ∧ n2 ≤ 65536 ∧ n3 ≤ 65536

set_option maxHeartbeats 1600000 in
theorem bytes_calls (v : Int) (a1 a2 a3 : Option Addr) (c1 c2 c3 n1 n3 : Nat) (A : List ByteArray) (w : World) (s1 : SrcS w a2 A) (l1 : n1 ≤ maxLen) (l3 : n3 ≤ maxLen) (l2 : A.length ≤ maxLen) :
    Calls Try.prog 4 #[.slice a1 n1 c1, .slice a2 A.length c2, .slice a3 n3 c3, .int .i64 v] w fun e w' => BoolT e (Small A) ∧ w = w' := by
  unfold maxLen at *
  have HS1 : Hid (SrcS w a2 A) := s1
  obtain ⟨n2, h2⟩ : ∃ n, n = A.length := ⟨_, rfl⟩
  have HL2 : Hid (n2 = A.length) := h2
  rw [← h2] at l2 ⊢
  clear s1 h2
  go_enter Try.func4, Try.ntmps4
  go_wp2
  all_goals first | (go_ret; exact ⟨⟨false, rfl, fun h => by cases h⟩, rfl⟩) | skip
  go_loop [9, 10] (fun zz i => ∃ (k : Nat) (s : Int), k ≤ n2 ∧ i = .int .i64 k ∧ zz = .int .i64 s ∧ 0 ≤ s ∧ s ≤ 1048576 ∧ Hid (∀ j, j < k → A[j]!.size ≤ 1048576)) (fun _ i => n2 - (intOf i).toNat)
  case atStart => exact ⟨0, _, Nat.zero_le _, rfl, rfl, by omega, by omega, fun j hj => absurd hj (Nat.not_lt_zero _)⟩
  case round =>
    obtain ⟨k, s, hk, rfl, rfl, hs0, hs1, hA⟩ := hrel
    by_cases hlt : k < n2
    · have hkl : k < A.length := by have := HL2.out; omega
      rcases HS1.out with h | ⟨b, off, rfl, hbw, hc⟩
      · rw [h] at hkl; simp at hkl
      · have hck := hc k hkl
        clear hc hkl
        generalize hy : A[k]! = y at hck
        have HY : Hid (A[k]! = y) := hy
        clear hy
        by_cases hbig : y.size ≤ 1048576
        · by_cases hsum : s + y.size ≤ 1048576
          · go_wp2
            go_round
            case rel =>
              refine ⟨k + 1, _, by omega, by go_num, rfl, by omega, by omega, (show Hid _ from fun j hj => ?_)⟩
              by_cases e : j = k
              · subst e; rw [HY.out]; exact hbig
              · exact hA.out j (by omega)
            case measure => simp [intOf]; omega
          · go_wp2
            go_ret
            exact ⟨⟨false, rfl, fun h => by cases h⟩, rfl⟩
        · go_wp2
          go_ret
          exact ⟨⟨false, rfl, fun h => by cases h⟩, rfl⟩
    · have hkn : k = n2 := by omega
      have HA1 : Hid (Small A) := fun j hj => hA.out j (by have := HL2.out; omega)
      clear hA hkn
      have hlt' : ¬ (k : Int) < (n2 : Int) := by omega
      go_wp2
      all_goals first | (go_ret; exact ⟨⟨false, rfl, fun h => by cases h⟩, rfl⟩) | (go_ret; exact ⟨⟨true, rfl, fun _ => HA1.out⟩, rfl⟩)

set_option maxHeartbeats 1600000 in
theorem tooBig_calls (a1 a2 a3 : Option Addr) (c1 c2 c3 n1 n3 : Nat) (A : List ByteArray) (w : World) (s1 : SrcS w a2 A) (l1 : n1 ≤ maxLen) (l3 : n3 ≤ maxLen) (l2 : A.length ≤ maxLen) (hsm : Small A) :
    Calls Try.prog 5 #[.slice a1 n1 c1, .slice a2 A.length c2, .slice a3 n3 c3] w fun e w' => BoolF e (Sizes n1 A.length n3) ∧ w = w' := by
  unfold maxLen at *
  have HS1 : Hid (SrcS w a2 A) := s1
  have HSM : Hid (Small A) := hsm
  obtain ⟨n2, h2⟩ : ∃ n, n = A.length := ⟨_, rfl⟩
  have HL2 : Hid (n2 = A.length) := h2
  rw [← h2] at l2 ⊢
  clear s1 h2 hsm
  have HSZ : n1 ≤ 65536 → n2 ≤ 65536 → n3 ≤ 65536 → Hid (Sizes n1 n2 n3) := fun h1 h2 h3 => ⟨h1, h2, h3⟩
  by_cases b1 : n1 ≤ 65536
  · by_cases b2 : n2 ≤ 65536
    · by_cases b3 : n3 ≤ 65536
      · have HSZ := HSZ b1 b2 b3
        go_enter Try.func5, Try.ntmps5
        go_wp2
        all_goals first | (go_ret; exact ⟨⟨_, rfl, fun _ => HSZ.out⟩, rfl⟩) | skip
        go_loop [7, 9, 37] (fun zz _ i => ∃ (k : Nat) (s : Int), k ≤ n2 ∧ i = .int .i64 k ∧ zz = .int .i64 s ∧ 0 ≤ s ∧ s ≤ 1048576) (fun _ _ i => n2 - (intOf i).toNat)
        case atStart => exact ⟨0, _, Nat.zero_le _, rfl, rfl, by omega, by omega⟩
        case round =>
          obtain ⟨k, s, hk, rfl, rfl, hs0, hs1⟩ := hrel
          by_cases hlt : k < n2
          · have hkl : k < A.length := by have := HL2.out; omega
            rcases HS1.out with h | ⟨b, off, rfl, hbw, hc⟩
            · rw [h] at hkl; simp at hkl
            · have hck := hc k hkl
              have hys := HSM.out k hkl
              clear hc hkl
              generalize A[k]! = y at hck hys
              go_wp2
              all_goals first
                | (go_ret; exact ⟨⟨_, rfl, fun _ => HSZ.out⟩, rfl⟩)
                | skip
              go_round
              case rel => exact ⟨k + 1, _, by omega, by go_num, rfl, by omega, by omega⟩
              case measure => simp [intOf]; omega
          · have hlt' : ¬ (k : Int) < (n2 : Int) := by omega
            go_wp2
            go_ret
            exact ⟨⟨_, rfl, fun _ => HSZ.out⟩, rfl⟩
      · go_enter Try.func5, Try.ntmps5
        go_wp2
        go_ret
        exact ⟨⟨_, rfl, fun h => by cases h⟩, rfl⟩
    · go_enter Try.func5, Try.ntmps5
      go_wp2
      go_ret
      exact ⟨⟨_, rfl, fun h => by cases h⟩, rfl⟩
  · go_enter Try.func5, Try.ntmps5
    go_wp2
    go_ret
    exact ⟨⟨_, rfl, fun h => by cases h⟩, rfl⟩

/-- Every token names a holder that exists. -/
def Names (L : List Int) (h : Nat) : Prop := ∀ i, i < L.length → 0 ≤ L[i]! ∧ L[i]! < h

set_option maxHeartbeats 1600000 in
theorem premise_calls (a1 a2 a3 : Option Addr) (c1 c2 c3 n2 n3 : Nat) (L : List Int) (w : World) (s1 : SrcI w a1 L) (l1 : L.length ≤ 65536) (l2 : n2 ≤ 65536) :
    Calls Try.prog 6 #[.slice a1 L.length c1, .slice a2 n2 c2, .slice a3 n3 c3] w fun e w' => BoolT e (n3 = n2 ∧ Names L n2) ∧ w = w' := by
  have HS1 : Hid (SrcI w a1 L) := s1
  obtain ⟨n1, h1⟩ : ∃ n, n = L.length := ⟨_, rfl⟩
  have HL1 : Hid (n1 = L.length) := h1
  rw [← h1] at l1 ⊢
  clear s1 h1
  by_cases h32 : n3 = n2
  · subst h32
    go_enter Try.func6, Try.ntmps6
    go_wp2
    go_loop [8, 16] (fun _ i => ∃ (k : Nat), k ≤ n1 ∧ i = .int .i64 k ∧ Hid (∀ j, j < k → 0 ≤ L[j]! ∧ L[j]! < n3)) (fun _ i => n1 - (intOf i).toNat)
    case atStart => exact ⟨0, Nat.zero_le _, rfl, fun j hj => absurd hj (Nat.not_lt_zero _)⟩
    case round =>
      obtain ⟨k, hk, rfl, hA⟩ := hrel
      by_cases hlt : k < n1
      · have hkl : k < L.length := by have := HL1.out; omega
        rcases HS1.out with h | ⟨b, off, rfl, hbw, hc⟩
        · rw [h] at hkl; simp at hkl
        · have hck := hc k hkl
          clear hc hkl
          generalize hx : L[k]! = x at hck
          have HXX : Hid (L[k]! = x) := hx
          clear hx
          by_cases hx0 : x < 0
          · go_wp2
            go_ret
            exact ⟨⟨_, rfl, fun h => by cases h⟩, rfl⟩
          · by_cases hx1 : (n3 : Int) ≤ x
            · go_wp2
              go_ret
              exact ⟨⟨_, rfl, fun h => by cases h⟩, rfl⟩
            · go_wp2
              go_round
              case rel =>
                refine ⟨k + 1, by omega, by go_num, (show Hid _ from fun j hj => ?_)⟩
                by_cases e : j = k
                · subst e; rw [HXX.out]; omega
                · exact hA.out j (by omega)
              case measure => simp [intOf]; omega
      · have hkn : k = n1 := by omega
        subst hkn
        have hlt' : ¬ (k : Int) < (k : Int) := by omega
        go_wp2
        go_ret
        exact ⟨⟨_, rfl, fun _ j hj => hA.out j (by have := HL1.out; omega)⟩, rfl⟩
  · have h32' : ((n3 : Int) == (n2 : Int)) = false := beq_eq_false_iff_ne.2 (by omega)
    go_enter Try.func6, Try.ntmps6
    go_wp2
    go_ret
    exact ⟨⟨_, rfl, fun h => by cases h⟩, rfl⟩
end Go.Proofs.Qxb6613886a
