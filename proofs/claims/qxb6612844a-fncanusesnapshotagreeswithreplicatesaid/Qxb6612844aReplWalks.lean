/-
  The walks that Replicate comes to, over a Core that ZZnewCoreLog laid.
-/
import Derived.Test.Qxb6612844aLogWalks
import Derived.WalkSmall
import Derived.Deep.RegionHeld3
import Derived.Deep.DrawnRows
namespace Go.Proofs.Qxb6612844a
open Go.RowKit

/-- What the walks are told of the Core at block g and of its log at block lg. -/
structure Core (w : World) (g lg len : Nat) (s st : Int) (zs : List Int) : Prop where
  c0 : w.cell? ⟨g, 0, none⟩ = some (.int .u64 1)
  c1 : w.cell? ⟨g, 1, none⟩ = some (.int .u64 1)
  c3 : w.cell? ⟨g, 3, none⟩ = some (.int .i64 2)
  c12 : w.cell? ⟨g, 12, none⟩ = some (.int .u64 s)
  c13 : w.cell? ⟨g, 13, none⟩ = some (.int .u64 st)
  c16 : w.cell? ⟨g, 16, none⟩ = some (.slice (some ⟨lg, 0, none⟩) len len)
  c17 : w.cell? ⟨g, 17, none⟩ = some (.int .u64 s)
  row : LogRow w lg len len zs
  glt : g < w.heap.size
  lglt : lg < w.heap.size

theorem wrap_u64_id (x : Int) (h0 : 0 ≤ x) (h1 : x < 18446744073709551616) : IntKind.u64.wrap x = x := by
  simp [IntKind.wrap, IntKind.bits, IntKind.signed]
  omega

theorem size_calls (t : Int) (w : World) :
    Calls Try.prog 39 #[.agg #[.int .u64 t, .slice none 0 0, .int .u8 0, .pointer none]] w fun e w' => e = .returned (.int .i64 32) ∧ w.alloc (.cells #[.int .u64 t, .slice none 0 0, .int .u8 0, .pointer none] 61) = w' := by
  go_enter Try.func39, Try.ntmps39
  go_wp2
  go_ret
  exact ⟨rfl, rfl⟩

set_option maxHeartbeats 800000 in
theorem entry_calls (g lg len : Nat) (s st : Int) (zs : List Int) (i : Int) (w : World) (hC : Core w g lg len s st zs) (h0 : 0 ≤ s) (h1 : s + len ≤ 18446744073709551614) (hi1 : s + 1 ≤ i) (hi2 : i ≤ s + len) :
    Calls Try.prog 38 #[.pointer (some ⟨g, 0, none⟩), .int .u64 i] w fun e w' => (∃ t, e = .returned (.agg #[.int .u64 t, .slice none 0 0, .int .u8 0, .pointer none])) ∧ Below w.heap.size w w' := by
  obtain ⟨j, rfl⟩ : ∃ j : Nat, i = s + 1 + j := ⟨(i - s - 1).toNat, by omega⟩
  have hj : j < len := by omega
  obtain ⟨⟨r0, r1, r2, r3⟩, -⟩ := hC.row j hj
  have c12 := hC.c12
  have c16 := hC.c16
  have glt := hC.glt
  have lglt := hC.lglt
  rw [if_pos hj] at r0
  generalize zs.getD j 0 = t at r0
  clear hC
  go_enter Try.func38, Try.ntmps38
  go_wp2_with fail
  have ej : s + 1 + (j : Int) - (s + 1) = (j : Int) := by omega
  have j0 : (0 : Int) ≤ (j : Int) := by omega
  have j1 : (j : Int) < (len : Int) := by omega
  have ew : IntKind.u64.wrap (s + 1 + (j : Int) - (s + 1)) = (j : Int) := by rw [ej]; exact wrap_u64_id _ (by omega) (by omega)
  have ew2 : IntKind.u64.wrap (j : Int) = (j : Int) := wrap_u64_id _ (by omega) (by omega)
  clear ej
  go_region_held3 (fun w' => w'.cell? ⟨g, 12, none⟩ = some (.int .u64 s) ∧ w'.cell? ⟨g, 16, none⟩ = some (.slice (some ⟨lg, 0, none⟩) len len) ∧ w'.cell? ⟨lg, j * 4, none⟩ = some (.int .u64 t) ∧ w'.cell? ⟨lg, j * 4 + 1, none⟩ = some (.slice none 0 0) ∧ w'.cell? ⟨lg, j * 4 + 2, none⟩ = some (.int .u8 0) ∧ w'.cell? ⟨lg, j * 4 + 3, none⟩ = some (.pointer none)) (go_keep)
    ((go_at_call 22; refine (first_calls g s _ (by simp [*]) (by omega) (by omega)).mono ?_; rintro e w' ⟨rfl, rfl⟩))
  go_wp2
  refine bodyPost_ret (v := .agg #[.int .u64 t, .slice none 0 0, .int .u8 0, .pointer none]) (by simp [results, Try.results38, go_sem]) rfl ⟨⟨t, rfl⟩, ?_⟩
  exact ((Below.refl _ _).alloc (Nat.le_refl _) _).drew

theorem bcell {W w1 : World} (hb : Below W.heap.size W w1) : (∀ b o, b < W.heap.size → w1.cell? ⟨b, o, none⟩ = W.cell? ⟨b, o, none⟩) ∧ (∀ b o, b < W.heap.size → w1.frozen? ⟨b, o, none⟩ = W.frozen? ⟨b, o, none⟩) :=
  ⟨fun b o h => hb.cell (p := ⟨b, o, none⟩) h, fun b o h => hb.frozen (p := ⟨b, o, none⟩) h⟩

theorem LogRow.below {w w' : World} {B lg len k : Nat} {zs : List Int} (h : LogRow w lg len k zs) (hb : Below B w w') (hl : lg < B) : LogRow w' lg len k zs := by
  intro j hj
  have hc : ∀ o, w'.cell? ⟨lg, o, none⟩ = w.cell? ⟨lg, o, none⟩ := fun o => hb.cell (p := ⟨lg, o, none⟩) hl
  have hf : ∀ o, w'.frozen? ⟨lg, o, none⟩ = w.frozen? ⟨lg, o, none⟩ := fun o => hb.frozen (p := ⟨lg, o, none⟩) hl
  simp only [hc, hf]
  exact h j hj

theorem Core.below {w w' : World} {B g lg len : Nat} {s st : Int} {zs : List Int} (h : Core w g lg len s st zs) (hb : Below B w w') (hg : g < B) (hl : lg < B) : Core w' g lg len s st zs := by
  have hc : ∀ o, w'.cell? ⟨g, o, none⟩ = w.cell? ⟨g, o, none⟩ := fun o => hb.cell (p := ⟨g, o, none⟩) hg
  exact ⟨(hc _).trans h.c0, (hc _).trans h.c1, (hc _).trans h.c3, (hc _).trans h.c12, (hc _).trans h.c13, (hc _).trans h.c16, (hc _).trans h.c17, h.row.below hb hl, Nat.lt_of_lt_of_le h.glt hb.size, Nat.lt_of_lt_of_le h.lglt hb.size⟩

theorem Core.later {w w' : World} {g lg len : Nat} {s st : Int} {zs : List Int} (h : Core w g lg len s st zs) (hb : Below w.heap.size w w') : Core w' g lg len s st zs :=
  h.below hb h.glt h.lglt

theorem field61 (t : Int) (w : World) : (Instr.field 61 (.agg #[.int .u64 t, .slice none 0 0, .int .u8 0, .pointer none]) 0).run Try.prog w = .ok (.int .u64 t) w := by kernel_rfl

set_option maxHeartbeats 800000 in
theorem termAt_calls (g lg len : Nat) (s st : Int) (zs : List Int) (i : Int) (w : World) (hC : Core w g lg len s st zs) (h0 : 0 ≤ s) (h1 : s + len ≤ 18446744073709551614) (hi1 : s ≤ i) (hi2 : i ≤ s + len) :
    Calls Try.prog 52 #[.pointer (some ⟨g, 0, none⟩), .int .u64 i] w fun e w' => (∃ t, e = .returned (.int .u64 t)) ∧ Below w.heap.size w w' := by
  have c12 := hC.c12
  have c13 := hC.c13
  by_cases hs : i = s
  · subst hs
    clear hC
    go_enter Try.func52, Try.ntmps52
    go_wp2
    go_ret
    exact ⟨⟨_, rfl⟩, Below.refl _ _⟩
  · have hb : (i == s) = false := beq_eq_false_iff_ne.2 hs
    have H : Hid (Core w g lg len s st zs) := hC
    clear hC
    have hs1 : s + 1 ≤ i := by omega
    clear hs
    go_enter Try.func52, Try.ntmps52
    go_wp2_with fail
    refine (entry_calls g lg len s st zs i w H.out h0 h1 hs1 hi2).mono ?_
    rintro e w1 ⟨⟨t, rfl⟩, hb1⟩
    have hfd := field61 t
    go_wp2
    go_ret
    exact ⟨⟨_, rfl⟩, hb1⟩

set_option maxHeartbeats 1600000 in
theorem appendEntries_calls (g lg len : Nat) (s st : Int) (zs : List Int) (i : Int) (a : Option Addr) (n c : Nat) (w : World) (hC : Core w g lg len s st zs) (h0 : 0 ≤ s) (h1 : s + len ≤ 18446744073709551614) (hi1 : s ≤ i) (hi2 : i ≤ s + len) :
    Calls Try.prog 40 #[.pointer (some ⟨g, 0, none⟩), .int .u64 i, .slice a n c] w fun e w' => (∃ t, e = .returned (.agg #[.int .u64 1, .int .u64 1, .int .u64 i, .int .u64 t, .slice a n c, .int .u64 s])) ∧ Below w.heap.size w w' := by
  have c0 := hC.c0
  have c1 := hC.c1
  have c17 := hC.c17
  have glt := hC.glt
  have H : Hid (Core w g lg len s st zs) := hC
  clear hC
  go_enter Try.func40, Try.ntmps40
  go_wp2_with fail
  go_region_held3 (fun w' => w'.cell? ⟨g, 0, none⟩ = some (.int .u64 1) ∧ w'.cell? ⟨g, 1, none⟩ = some (.int .u64 1) ∧ w'.cell? ⟨g, 17, none⟩ = some (.int .u64 s)) (simp [*, go_sem])
    ((go_at_call 52; refine (termAt_calls g lg len s st zs i _ (by exact (H.out.later ((Below.refl _ _).alloc (Nat.le_refl _) _).drew)) (by omega) (by omega) (by omega) (by omega)).mono ?_; rintro e w1 ⟨⟨t, rfl⟩, hb1⟩; obtain ⟨hc1, hf1⟩ := bcell hb1; have hz1 := hb1.size))
  go_wp2
  have hz2 : w.heap.size < w1.heap.size := by simp at hz1; omega
  refine bodyPost_ret (v := .agg #[.int .u64 1, .int .u64 1, .int .u64 i, .int .u64 t, .slice a n c, .int .u64 s]) (by simp [results, Try.results40, go_sem, hc1]) rfl ⟨⟨t, rfl⟩, ?_⟩
  have hbw : Below w.heap.size w w1 := (((Below.refl _ _).alloc (Nat.le_refl _) _).drew).trans (hb1.mono (by simp))
  exact (((((hbw.setCell (Nat.le_refl _) _).setCell (Nat.le_refl _) _).setCell (Nat.le_refl _) _).setCell (Nat.le_refl _) _).setCell (Nat.le_refl _) _).setCell (Nat.le_refl _) _
end Go.Proofs.Qxb6612844a
