/-
  The laws' walks at every length, and the rows' frames.
-/
import Derived.Test.Qxb6612844aPeersT
namespace Go.Proofs.Qxb6612844a
open Go.RowKit

set_option maxRecDepth 20000 in
set_option maxHeartbeats 3200000 in
theorem law4_big (self : Int) (a1 a2 a3 a4 a5 a6 : Option Addr) (c1 c2 c3 c4 c5 c6 n1 n2 n3 n4 n5 n6 : Nat) (w : World)
    (H9 : Calls Try.prog 18 #[.int .u64 self, .slice a1 n1 c1, .slice a2 n2 c2, .slice a3 n3 c3, .slice a4 n4 c4, .slice a5 n5 c5, .slice a6 n6 c6] w fun e w' => (∃ r9, e = .returned (.bool r9)) ∧ w = w')
    (hbig : 1024 < n1 ∨ (n1 ≤ 1024 ∧ 1024 < n2) ∨ (n1 ≤ 1024 ∧ n2 ≤ 1024 ∧ 1024 < n3) ∨ (n1 ≤ 1024 ∧ n2 ≤ 1024 ∧ n3 ≤ 1024 ∧ 1024 < n4) ∨ (n1 ≤ 1024 ∧ n2 ≤ 1024 ∧ n3 ≤ 1024 ∧ n4 ≤ 1024 ∧ 1024 < n5) ∨ (n1 ≤ 1024 ∧ n2 ≤ 1024 ∧ n3 ≤ 1024 ∧ n4 ≤ 1024 ∧ n5 ≤ 1024 ∧ 1024 < n6)) :
    Calls Try.prog 4 #[.int .u64 self, .slice a1 n1 c1, .slice a2 n2 c2, .slice a3 n3 c3, .slice a4 n4 c4, .slice a5 n5 c5, .slice a6 n6 c6] w fun e w' => e = .returned (.bool true) ∧ w.grownBy w' none := by
  have HB : Hid _ := hbig
  clear hbig
  go_enter Try.func4, Try.ntmps4
  go_wp2_with fail
  refine H9.mono ?_
  rintro e w' ⟨⟨r9, rfl⟩, rfl⟩
  cases r9 with
  | false =>
    go_wp2_with fail
    go_ret
    exact ⟨rfl, World.grownBy.refl _ _⟩
  | true =>
    rcases HB.out with h | ⟨g1, h⟩ | ⟨g1, g2, h⟩ | ⟨g1, g2, g3, h⟩ | ⟨g1, g2, g3, g4, h⟩ | ⟨g1, g2, g3, g4, g5, h⟩
    all_goals
      clear HB H9
      go_wp2_with fail
      go_ret
      exact ⟨rfl, World.grownBy.refl _ _⟩

theorem law4_walk (self : Int) (a1 a2 a3 a4 a5 a6 : Option Addr) (c1 c2 c3 c4 c5 c6 : Nat) (L1 L2 L3 : List Int) (A1 A2 A3 : List ByteArray) (w : World) (hX : Six w a1 a2 a3 a4 a5 a6 c1 c3 c5 L1 L2 L3 A1 A2 A3) :
    Calls Try.prog 4 #[.int .u64 self, .slice a1 L1.length c1, .slice a2 A1.length c2, .slice a3 L2.length c3, .slice a4 A2.length c4, .slice a5 L3.length c5, .slice a6 A3.length c6] w fun e w' => e = .returned (.bool true) ∧ w.grownBy w' none := by
  by_cases h : (L1.length ≤ 1024 ∧ A1.length ≤ 1024 ∧ L2.length ≤ 1024 ∧ A2.length ≤ 1024 ∧ L3.length ≤ 1024 ∧ A3.length ≤ 1024)
  · exact law4_core self a1 a2 a3 a4 a5 a6 c1 c2 c3 c4 c5 c6 L1 L2 L3 A1 A2 A3 w hX h.1 h.2.1 h.2.2.1 h.2.2.2.1 h.2.2.2.2.1 h.2.2.2.2.2
  · refine law4_big self a1 a2 a3 a4 a5 a6 c1 c2 c3 c4 c5 c6 _ _ _ _ _ _ w ?_ (by omega)
    exact (bytes18 self a1 a2 a3 a4 a5 a6 c1 c2 c3 c4 c5 c6 L1.length L2.length L3.length A1 A2 A3 w hX.s2 hX.s4 hX.s6 hX.m1 hX.m3 hX.m5 hX.m2 hX.m4 hX.m6).mono fun e w' ⟨⟨r9, h1, _⟩, h2⟩ => ⟨⟨r9, h1⟩, h2⟩
end Go.Proofs.Qxb6612844a
