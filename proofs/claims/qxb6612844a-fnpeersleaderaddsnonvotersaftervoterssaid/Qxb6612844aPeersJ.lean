/-
  The law's own small functions, further: zzDistinct, zzPeersBytes, zzPeersPremise, zzMembers, ZZnewCorePeers, zzVoterCount.
-/
import Derived.Test.Qxb6612844aPeersI
import Derived.Test.Qxb6612844aPeersH
namespace Go.Proofs.Qxb6612844a
open Go.RowKit

/-- It gives a bool; if true, then p. -/
def BoolR (e : Ending) (p : Prop) : Prop := ∃ r : Bool, e = .returned (.bool r) ∧ (r = true → p)

/-- No number stands twice. -/
def Nod (L : List Int) : Prop := ∀ i j, i < j → j < L.length → L[i]! ≠ L[j]!

theorem grown_drewN (w : World) (q : Nat) : w.grownBy (w.drewN q) none := below_grown (below_drewN (Below.refl _ _) q)

set_option maxHeartbeats 800000 in
theorem distinct_calls (a : Option Addr) (c : Nat) (L : List Int) (w : World) (hs : SrcI w a L) (hn : L.length ≤ 65536) :
    Calls Try.prog 33 #[.slice a L.length c] w fun e w' => BoolR e (Nod L) ∧ w.grownBy w' none := by
  obtain ⟨n, hln⟩ : ∃ n, n = L.length := ⟨_, rfl⟩
  have HL : Hid (n = L.length) := hln
  have HS : Hid (SrcI w a L) := hs
  rw [← hln] at hn ⊢
  clear hs hln
  go_enter Try.func33, Try.ntmps33
  go_wp2
  go_loopw [3] (fun s3 wr => ∃ k : Nat, k ≤ n ∧ s3 = .int .i64 k ∧ Hid (∀ i j, i < j → i < k → j < n → L[i]! ≠ L[j]!) ∧ Hid (w.grownBy wr none)) (fun s3 _ => n - (intOf s3).toNat)
  case atStart => exact ⟨0, Nat.zero_le _, rfl, fun i j _ h _ => absurd h (Nat.not_lt_zero _), World.grownBy.refl _ _⟩
  case round =>
    obtain ⟨k, hk, rfl, hA, hq⟩ := hrel
    by_cases hlt : k < n
    · have hkl : k < L.length := by have := HL.out; omega
      rcases HS.out with h | ⟨b, off, rfl, hbw, hc⟩
      · rw [h] at hkl; simp at hkl
      · have HC : Hid (∀ i, i < L.length → w.cell? ⟨b, off + i, none⟩ = some (.int .u64 L[i]!)) := hc
        clear hc
        obtain ⟨wo, rfl⟩ : ∃ wo : World, wo = wr := ⟨_, rfl⟩
        go_wp2
        go_loopw [4] (fun s4 wr => ∃ m : Nat, k < m ∧ m ≤ n ∧ s4 = .int .i64 m ∧ Hid (∀ j, k < j → j < m → L[k]! ≠ L[j]!) ∧ Hid (w.grownBy wr none)) (fun s4 _ => n - (intOf s4).toNat)
        case atStart => exact ⟨k + 1, by omega, by omega, by go_num, fun j h1 h2 => absurd h1 (by omega), hq⟩
        case round =>
          obtain ⟨m, hkm, hm, rfl, hB, hq2⟩ := hrel
          by_cases hlt2 : m < n
          · have hml : m < L.length := by have := HL.out; omega
            have c0 : wr.cell? ⟨b, off + k, none⟩ = some (.int .u64 L[k]!) := hq2.out.cell (HC.out k hkl) (by simp)
            have c1 : wr.cell? ⟨b, off + m, none⟩ = some (.int .u64 L[m]!) := hq2.out.cell (HC.out m hml) (by simp)
            have z0 : (0 : Int) ≤ (k : Int) := by omega
            have z1 : (k : Int) < (n : Int) := by omega
            have z2 : (0 : Int) ≤ (m : Int) := by omega
            have z3 : (m : Int) < (n : Int) := by omega
            clear hkl hml
            generalize hx : L[k]! = x at *
            generalize hy : L[m]! = y at *
            have HX : Hid (L[k]! = x) := hx
            have HY : Hid (L[m]! = y) := hy
            clear hx hy
            cases hb : (x == y) with
            | true =>
              go_wp2
              go_quiet (fail)
              go_wp2
              go_ret
              exact ⟨⟨false, rfl, fun h => by cases h⟩, hq2.out.trans (grown_drewN _ _)⟩
            | false =>
              go_wp2
              go_quiet (fail)
              go_wp2
              go_roundw
              case rel =>
                refine ⟨m + 1, by omega, by omega, by go_num, (show Hid _ from fun j h1 h2 => ?_), hq2.out.trans (grown_drewN _ _)⟩
                by_cases e : j = m
                · subst e; rw [HY.out]; exact beq_eq_false_iff_ne.1 hb
                · exact hB.out j h1 (by omega)
              case measure => simp [intOf]; omega
          · have hmn : m = n := by omega
            subst hmn
            have hltz : ¬ (m : Int) < (m : Int) := by omega
            go_wp2
            go_roundw
            case rel =>
              refine ⟨k + 1, by omega, by go_num, (show Hid _ from fun i j h1 h2 h3 => ?_), hq2⟩
              by_cases e : i = k
              · subst e; exact hB.out j h1 h3
              · exact hA.out i j h1 (by omega) h3
            case measure => simp [intOf]; omega
    · have hkn : k = n := by omega
      subst hkn
      have hltz : ¬ (k : Int) < (k : Int) := by omega
      go_wp2
      go_ret
      exact ⟨⟨true, rfl, fun _ i j h1 h2 => hA.out i j h1 (by have := HL.out; omega) (by have := HL.out; omega)⟩, hq.out⟩
end Go.Proofs.Qxb6612844a
