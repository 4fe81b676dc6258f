import Derived.Test.Qxb6612844aRows
import Derived.WalkKit
import Derived.WalkSpells
import Derived.Below
import Derived.Outline
import Derived.LoopN
import Derived.StillTactics
import Derived.Laws.Pointers
import Derived.RegionTactic
import Derived.Deep.QuietTactic
import Derived.BigQuiet
namespace Go.Proofs.Qxb6612844a
open Go.RowKit

theorem info61 : (Try.prog.info? 61).map (fun i => (i.zero, i.size, i.bytes)) = some (some (.agg #[.int .u64 0, .slice none 0 0, .int .u8 0, .pointer none]), 4, 48) := by kernel_rfl

/-- Block g holds 'len' entries of the log, four cells each: the first k bear their terms, the rest are zero. -/
def LogRow (w : World) (g len k : Nat) (zs : List Int) : Prop :=
  ∀ j, j < len → (w.cell? ⟨g, j * 4, none⟩ = some (.int .u64 (if j < k then zs.getD j 0 else 0)) ∧ w.cell? ⟨g, j * 4 + 1, none⟩ = some (.slice none 0 0) ∧ w.cell? ⟨g, j * 4 + 2, none⟩ = some (.int .u8 0) ∧ w.cell? ⟨g, j * 4 + 3, none⟩ = some (.pointer none))
    ∧ (w.frozen? ⟨g, j * 4, none⟩ = false ∧ w.frozen? ⟨g, j * 4 + 1, none⟩ = false ∧ w.frozen? ⟨g, j * 4 + 2, none⟩ = false ∧ w.frozen? ⟨g, j * 4 + 3, none⟩ = false)

theorem made4 (a b c d : Value) (n j i : Nat) (hj : j < n) (hi : i < 4) : ((madeCells #[a, b, c, d] (n * 4)).toList)[j * 4 + i]? = some (#[a, b, c, d][i]!) := by
  unfold madeCells
  have : (j * 4 + i) % 4 = i := by omega
  have h2 : j * 4 + i < n * 4 := by omega
  simp [h2, this]

theorem logRow_made {w : World} {base g len : Nat} (zs : List Int)
    (h : w.ownsRow base 61 4 (.slice (some ⟨g, 0, none⟩) len len) len (madeCells #[.int .u64 0, .slice none 0 0, .int .u8 0, .pointer none] (len * 4)).toList) : LogRow w g len 0 zs := by
  intro j hj
  have h0 := h.cellAt (j * 4) (by omega)
  have h1 := h.cellAt (j * 4 + 1) (by omega)
  have h2 := h.cellAt (j * 4 + 2) (by omega)
  have h3 := h.cellAt (j * 4 + 3) (by omega)
  rw [show j * 4 = j * 4 + 0 from rfl, made4 _ _ _ _ len j 0 hj (by omega)] at h0
  rw [made4 _ _ _ _ len j 1 hj (by omega)] at h1
  rw [made4 _ _ _ _ len j 2 hj (by omega)] at h2
  rw [made4 _ _ _ _ len j 3 hj (by omega)] at h3
  exact ⟨⟨h0, h1, h2, h3⟩, h.frozenAt _, h.frozenAt _, h.frozenAt _, h.frozenAt _⟩

theorem logRow_step {w : World} {g len k : Nat} {zs : List Int} (h : LogRow w g len k zs) (hk : k < len) :
    LogRow (w.setCells g (k * 4) [.int .u64 (zs.getD k 0), .slice none 0 0, .int .u8 0, .pointer none]) g len (k + 1) zs := by
  intro j hj
  obtain ⟨⟨c0, c1, c2, c3⟩, f0, f1, f2, f3⟩ := h j hj
  simp only [World.frozen?_setCells]
  refine ⟨?_, f0, f1, f2, f3⟩
  by_cases e : j = k
  · subst e
    have hin := World.cell?_setCells_in g [.int .u64 (zs.getD j 0), .slice none 0 0, .int .u8 0, .pointer none] (j * 4) w (by
      intro i hi
      match i, hi with
      | 0, _ => simp [c0]
      | 1, _ => simp [c1]
      | 2, _ => simp [c2]
      | 3, _ => simp [c3])
    rw [if_pos (by omega)]
    exact ⟨hin 0 (by simp), hin 1 (by simp), hin 2 (by simp), hin 3 (by simp)⟩
  · have hne : (j < k) ↔ (j < k + 1) := by omega
    rw [World.cell?_setCells_out _ _ _ _ _ (by simp; omega), World.cell?_setCells_out _ _ _ _ _ (by simp; omega), World.cell?_setCells_out _ _ _ _ _ (by simp; omega), World.cell?_setCells_out _ _ _ _ _ (by simp; omega)]
    simp only [hne] at c0
    exact ⟨c0, c1, c2, c3⟩

theorem below_setCells {B : Nat} {a : World} (b : Nat) (hb : B ≤ b) : ∀ (vs : List Value) (o : Nat) (w : World), Below B a w → Below B a (w.setCells b o vs)
  | [], _, _, h => h
  | _ :: vs, o, _, h => below_setCells b hb vs (o + 1) _ (h.setCell (p := ⟨b, o, none⟩) hb _)

set_option maxHeartbeats 400000 in
theorem logOfTerms_any (b off len cap : Nat) (zs : List Int) (w : World) (hl : len ≤ 65536) (hbw : b < w.heap.size) (hc : ∀ i, i < len → w.cell? ⟨b, off + i, none⟩ = some (.int .u64 (zs.getD i 0))) :
    Calls Try.prog 21 #[.slice (some ⟨b, off, none⟩) len cap] w fun e w' => e = .returned (.slice (some ⟨w.heap.size, 0, none⟩) len len) ∧ LogRow w' w.heap.size len len zs ∧ Below w.heap.size w w' := by
  obtain ⟨i0, hi, hz0, hz1, hz2⟩ := info_parts info61
  go_enter Try.func21, Try.ntmps21
  go_wp2_with (at_make; refine wpList_make_full _ rfl _ _ 42 rfl w.heap.size 61 i0 _ 4 Try.underlying42 hi hz0 hz1 .i64 .i64 len len len rfl rfl rfl rfl (by rw [hz2]; omega) (by unfold maxLen; omega) (by simp) ?_; intro w1 hown hg)
  have hrow0 := logRow_made zs hown
  have hb0 : Below w.heap.size w w1 := (Below.refl _ _).grown hg (Nat.le_refl _) (fun k h => by cases h)
  clear hown hg
  go_loopw [4] (fun i wr => ∃ k : Nat, k ≤ len ∧ i = .int .i64 k ∧ LogRow wr w.heap.size len k zs ∧ Below w.heap.size w wr) (fun i _ => len - (intOf i).toNat)
  case atStart => exact ⟨0, Nat.zero_le _, rfl, hrow0, hb0⟩
  case round =>
    obtain ⟨k, hk, rfl, hrow, hbel⟩ := hrel
    by_cases hlt : k < len
    · have hck : wr.cell? ⟨b, off + k, none⟩ = some (.int .u64 (zs.getD k 0)) := (hbel.cell (by exact hbw)).trans (hc k hlt)
      obtain ⟨⟨c0, c1, c2, c3⟩, f0, f1, f2, f3⟩ := hrow k hlt
      have hstep := logRow_step hrow hlt
      have hbstep := below_setCells w.heap.size (Nat.le_refl _) [.int .u64 (zs.getD k 0), .slice none 0 0, .int .u8 0, .pointer none] (k * 4) wr hbel
      rw [List.getD_eq_getElem?_getD] at hstep hbstep
      have HS : Hid (LogRow (wr.setCells w.heap.size (k * 4) [.int .u64 (zs[k]?.getD 0), .slice none 0 0, .int .u8 0, .pointer none]) w.heap.size len (k + 1) zs) := hstep
      have HB : Hid (Below w.heap.size w (wr.setCells w.heap.size (k * 4) [.int .u64 (zs[k]?.getD 0), .slice none 0 0, .int .u8 0, .pointer none])) := hbstep
      clear hstep hbstep hrow
      go_wp2
      go_roundw
      case rel => exact ⟨k + 1, by omega, by go_num, HS.out, HB.out⟩
      case measure => simp [intOf]; omega
    · obtain rfl : k = len := by omega
      go_wp2
      go_ret
      exact ⟨rfl, hrow, hbel⟩

/-- No element: an empty log, whatever the slice's address. -/
theorem logOfTerms_none (a : Option Addr) (cap : Nat) (zs : List Int) (w : World) :
    Calls Try.prog 21 #[.slice a 0 cap] w fun e w' => e = .returned (.slice (some ⟨w.heap.size, 0, none⟩) 0 0) ∧ LogRow w' w.heap.size 0 0 zs ∧ Below w.heap.size w w' := by
  obtain ⟨i0, hi, hz0, hz1, hz2⟩ := info_parts info61
  go_enter Try.func21, Try.ntmps21
  go_wp2_with (at_make; refine wpList_make_full _ rfl _ _ 42 rfl w.heap.size 61 i0 _ 4 Try.underlying42 hi hz0 hz1 .i64 .i64 0 0 0 rfl rfl rfl rfl (by omega) (by unfold maxLen; omega) (by simp) ?_; intro w1 hown hg)
  have hb0 : Below w.heap.size w w1 := (Below.refl _ _).grown hg (Nat.le_refl _) (fun k h => by cases h)
  clear hown hg
  refine wp_loop_rounds 1 ?_
  rw [rounds_succ]
  go_wp2
  go_ret
  exact ⟨rfl, fun j hj => absurd hj (Nat.not_lt_zero _), hb0⟩

/-- What the walks are told of a slice of terms. -/
def Src (w : World) (a : Option Addr) (len : Nat) (zs : List Int) : Prop :=
  len = 0 ∨ ∃ b off, a = some ⟨b, off, none⟩ ∧ b < w.heap.size ∧ ∀ i, i < len → w.cell? ⟨b, off + i, none⟩ = some (.int .u64 (zs.getD i 0))

theorem logOfTerms_calls (a : Option Addr) (len cap : Nat) (zs : List Int) (w : World) (hl : len ≤ 65536) (hs : Src w a len zs) :
    Calls Try.prog 21 #[.slice a len cap] w fun e w' => e = .returned (.slice (some ⟨w.heap.size, 0, none⟩) len len) ∧ LogRow w' w.heap.size len len zs ∧ Below w.heap.size w w' := by
  rcases hs with rfl | ⟨b, off, rfl, hbw, hc⟩
  · exact logOfTerms_none a cap zs w
  · exact logOfTerms_any b off len cap zs w hl hbw hc

/-- The 23 cells of a Core that ZZnewCoreLog lays. -/
def coreCells (id term role si st : Int) (log : Value) (commit : Int) (next : Value) : Array Value :=
  #[.int .u64 id, .int .u64 term, .int .u64 0, .int .i64 role, .int .u64 0, .map none, .bool false, .bool false, .slice none 0 0, .slice none 0 0, .int .u64 0, .slice none 0 0,
    .int .u64 si, .int .u64 st, .slice none 0 0, .slice none 0 0, log, .int .u64 commit, .int .u64 0, next, .map none, .map none, .int .u64 0]

theorem newCore_calls (id term role si st : Int) (g len cap : Nat) (commit : Int) (nx : Option Nat) (w : World) :
    Calls Try.prog 20 #[.int .u64 id, .int .u64 term, .int .i64 role, .int .u64 si, .int .u64 st, .slice (some ⟨g, 0, none⟩) len cap, .int .u64 commit, .map nx] w fun e w' =>
      e = .returned (.pointer (some ⟨w.heap.size, 0, none⟩)) ∧ w.alloc (.cells (coreCells id term role si st (.slice (some ⟨g, 0, none⟩) len cap) commit (.map nx)) 74) = w' := by
  go_enter Try.func20, Try.ntmps20
  go_wp2
  go_ret
  exact ⟨rfl, rfl⟩

theorem canUse_calls (g : Nat) (s i : Int) (w : World) (hc : w.cell? ⟨g, 12, none⟩ = some (.int .u64 s)) :
    Calls Try.prog 24 #[.pointer (some ⟨g, 0, none⟩), .int .u64 i] w fun e w' => e = .returned (.bool (decide (s < i))) ∧ w = w' := by
  go_enter Try.func24, Try.ntmps24
  go_wp2
  go_ret
  exact ⟨rfl, rfl⟩

theorem first_calls (g : Nat) (s : Int) (w : World) (hc : w.cell? ⟨g, 12, none⟩ = some (.int .u64 s)) (h0 : 0 ≤ s) (h1 : s < 18446744073709551615) :
    Calls Try.prog 22 #[.pointer (some ⟨g, 0, none⟩)] w fun e w' => e = .returned (.int .u64 (s + 1)) ∧ w = w' := by
  go_enter Try.func22, Try.ntmps22
  go_wp2
  go_ret
  exact ⟨rfl, rfl⟩

theorem last_calls (g : Nat) (s : Int) (a : Option Addr) (len cap : Nat) (w : World) (hc : w.cell? ⟨g, 12, none⟩ = some (.int .u64 s)) (hl : w.cell? ⟨g, 16, none⟩ = some (.slice a len cap)) (h0 : 0 ≤ s) (h1 : s + len ≤ 18446744073709551615) :
    Calls Try.prog 23 #[.pointer (some ⟨g, 0, none⟩)] w fun e w' => e = .returned (.int .u64 (s + len)) ∧ ∃ q, w.drewN q = w' := by
  go_enter Try.func23, Try.ntmps23
  go_wp2
  go_quiet (fail)
  go_wp2
  go_ret
  exact ⟨rfl, _, rfl⟩
end Go.Proofs.Qxb6612844a
