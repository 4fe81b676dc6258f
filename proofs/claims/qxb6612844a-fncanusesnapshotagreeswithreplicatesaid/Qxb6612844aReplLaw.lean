/-
  The walk of the law FnCanUseSnapshotAgreesWithReplicate (6).
-/
import Derived.Test.Qxb6612844aReplicate
import Derived.Maps.OwnSet
import Derived.Carry
namespace Go.Proofs.Qxb6612844a
open Go.RowKit

theorem keyed22 : Maps.Keyed Try.prog 22 := Maps.int_keyed Try.underlying22
theorem zero22 (w : World) : (zeroValue 22).run Try.prog w = .ok (.int .u64 0) w := by kernel_rfl

/-- A map literal's entry is laid as 'm[k] = v' is. -/
theorem wpList_insert_own {H : Type} {P : Program} (w : World) {ops : Array Oper} {rest : List Oper} {o : Oper} {a : Act} {Q : Exit → Act → World → Prop}
    (hg : o.guard = none) (m x v : Operand) (t : TypeId) (hop : o.op = Op.insert t m x v)
    (k e : TypeId) (K : Maps.Keyed P k) (ht : P.underlying t = some (.map k e)) (R : Value → Option (DataW H × List MemPlace)) (b n : Nat) (D : DataW H)
    (hm : a.eval m = .map (some b)) (hown : w.ownsMap P k R b n D) (hn : n < maxLen) (key val : Value) (kl : Lit) (hx : a.eval x = key) (hv : a.eval v = val) (hkey : keyOf P k key = some kl)
    (d : DataW H) (ps : List MemPlace) (hval : R val = some (d, ps))
    (hK : ∀ w', w'.ownsMap P k R b (n + 1) (D.put kl d) → w.grownBy w' (some b) → wpList P ops Q rest (a.put o.dst undef) w') :
    wpList P ops Q (o :: rest) a w := by
  refine wpList_plain hg fun K' hK' => ?_
  obtain ⟨w', hrun, r1, r2⟩ := hown.update K ht hn hkey hval
  unfold Oper.wp
  simp [execOp, hop, hm, hx, hv, hrun, Result.andThen]
  exact hK' _ _ (hK w' r1 r2)

abbrev OneMap (w : World) (mb : Nat) (to nxt : Int) : Prop := w.ownsMap (H := Unit) Try.prog 22 (plainElem Try.prog 22) mb 1 ((DataW.map []).put (.int .u64 to) (.lit (.int .u64 nxt)))

theorem look_one {w : World} {mb : Nat} {to nxt : Int} (wt : (Lit.int .u64 to).wf = true) (h : OneMap w mb to nxt) :
    (Instr.lookup 47 (.map (some mb)) (.int .u64 to) true).run Try.prog w = .ok (.tuple #[.int .u64 nxt, .bool true]) w := by
  obtain ⟨v, ps, hrun, hv⟩ := h.look_ok keyed22 Try.underlying47 (zero22 w) (zd := .lit (.int .u64 0)) (zp := []) (plainElem_int Try.underlying22 (by decide)) (Maps.keyOf_int_mk Try.underlying22 wt)
  have hk : WideAt.IsKeyLit (.int .u64 to) := trivial
  rw [Maps.has_put_same ⟨[], rfl⟩ hk] at hrun
  rw [Maps.atKey_put_same ⟨[], rfl⟩ hk] at hv
  obtain ⟨a, rfl, hz, -⟩ := plainElem_int_inv Try.underlying22 hv
  simp at hz
  rw [hrun, hz.1]

theorem made_at {H : Type} {P : Program} {k : TypeId} {R : Value → Option (DataW H × List MemPlace)} {W : World} {b : Nat} (hb : W.heap.size = b) : (W.alloc (.map #[] 0)).ownsMap P k R b 0 (.map []) :=
  hb ▸ World.ownsMap_made W P k R

theorem core_made {w4 : World} {lg len : Nat} {a0 a1 : Int} {z : List Int} {mb : Nat} (hrow : LogRow w4 lg len len z) (hlg : lg < w4.heap.size) :
    Core (w4.alloc (.cells (coreCells 1 1 2 a0 a1 (.slice (some ⟨lg, 0, none⟩) len len) a0 (.map (some mb))) 74)) w4.heap.size lg len a0 a1 z :=
  ⟨by simp [coreCells], by simp [coreCells], by simp [coreCells], by simp [coreCells], by simp [coreCells], by simp [coreCells], by simp [coreCells],
    hrow.below ((Below.refl w4.heap.size w4).alloc (Nat.le_refl _) _) hlg, by simp, by simp; omega⟩

/-- What the law has laid ahead of its call of Replicate. -/
theorem ahead {w w1 w4 : World} {q mb : Nat} {o : Obj} (hb1 : Below w.heap.size w w1) (hmb : mb = w1.heap.size + 1) (hg : (((w1.alloc o).drewN q).alloc (.map #[] 0)).grownBy w4 (some mb)) :
    Below w1.heap.size w1 w4 ∧ Below w.heap.size w w4 := by
  have h1 : Below w1.heap.size w1 (((w1.alloc o).drewN q).alloc (.map #[] 0)) := (below_drewN ((Below.refl _ _).alloc (Nat.le_refl _) _) q).alloc (by simp) _
  have h2 : Below w1.heap.size w1 w4 := h1.grown hg (by simp; omega) (fun k h => by cases h; omega)
  exact ⟨h2, hb1.trans (h2.mono hb1.size)⟩

/-- No element: an empty log, in a block of its own. -/
theorem logOfTerms_none2 (a : Option Addr) (cap : Nat) (w : World) :
    Calls Try.prog 21 #[.slice a 0 cap] w fun e w' => e = .returned (.slice (some ⟨w.heap.size, 0, none⟩) 0 0) ∧ w.heap.size < w'.heap.size ∧ Below w.heap.size w w' := by
  obtain ⟨i0, hi, hz0, hz1, hz2⟩ := info_parts info61
  go_enter Try.func21, Try.ntmps21
  go_wp2_with (at_make; refine wpList_make_full _ rfl _ _ 42 rfl w.heap.size 61 i0 _ 4 Try.underlying42 hi hz0 hz1 .i64 .i64 0 0 0 rfl rfl rfl rfl (by omega) (by unfold maxLen; omega) (by simp) ?_; intro w1 hown hg)
  have hb0 : Below w.heap.size w w1 := (Below.refl _ _).grown hg (Nat.le_refl _) (fun k h => by cases h)
  have hlt : w.heap.size < w1.heap.size := by
    rcases hown.2 with ⟨hv, -⟩ | ⟨g, c, cur, hv, -, hh, -⟩
    · cases hv
    · cases hv
      exact (Array.getElem?_eq_some_iff.1 hh).1
  clear hown hg
  refine wp_loop_rounds 1 ?_
  rw [rounds_succ]
  go_wp2
  go_ret
  exact ⟨rfl, hlt, hb0⟩

theorem logOfTerms2 (a : Option Addr) (len cap : Nat) (zs : List Int) (w : World) (hl : len ≤ 65536) (hs : Src w a len zs) :
    Calls Try.prog 21 #[.slice a len cap] w fun e w' => e = .returned (.slice (some ⟨w.heap.size, 0, none⟩) len len) ∧ (LogRow w' w.heap.size len len zs ∧ w.heap.size < w'.heap.size) ∧ Below w.heap.size w w' := by
  by_cases h0 : len = 0
  · subst h0
    exact (logOfTerms_none2 a cap w).mono fun e w' ⟨h1, h2, h3⟩ => ⟨h1, ⟨fun j hj => absurd hj (Nat.not_lt_zero _), h2⟩, h3⟩
  · exact (logOfTerms_calls a len cap zs w hl hs).mono fun e w' ⟨h1, h2, h3⟩ => ⟨h1, ⟨h2, World.block_lt_of_cell? _ _ (h2 0 (by omega)).1.1⟩, h3⟩

set_option maxRecDepth 20000 in
set_option maxHeartbeats 1600000 in
theorem law6_yes_pos (a0 a1 : Int) (a2 : Option Addr) (len cap : Nat) (l : Nat) (z : List Int) (to mx : Int) (w : World) (l0 : 0 ≤ a0) (hsrc : Src w a2 len z) (h2 : len ≤ 65536) (h3 : a0 ≤ 18446744073709551615 - len - 1)
    (wt : (Lit.int .u64 to).wf = true) (hl : l ≤ len) (hp : 0 < len) :
    Calls Try.prog 6 #[.int .u64 a0, .int .u64 a1, .slice a2 len cap, .int .u64 (a0 + 1 + l), .int .u64 to, .int .i64 mx] w fun e w' => e = .returned (.bool true) ∧ Below w.heap.size w w' := by
  have hmm := @run_makeMap Try.prog
  have u1 : a0 < a0 + 1 + (l : Int) := by omega
  have u2 : a0 + 1 ≤ a0 + 1 + (l : Int) := by omega
  have u3 : a0 + 1 + (l : Int) ≤ a0 + len + 1 := by omega
  have hwf : (Lit.int .u64 (a0 + 1 + (l : Int))).wf = true := WalkArith.wf_u64 ⟨by omega, by omega⟩
  have u4 : (0 : Int) < len := by omega
  have u5 : a0 < a0 + (len : Int) := by omega
  go_enter Try.func6, Try.ntmps6
  go_wp2_with (first
          | (go_at_call 21; refine (logOfTerms2 _ _ _ z _ (by omega) (by exact hsrc)).mono ?_; rintro e w1 ⟨rfl, hrow1, hb1⟩; have hz1 := hb1.size; have HR1 : Hid (LogRow w1 w.heap.size len len z ∧ w.heap.size < w1.heap.size) := ⟨hrow1.1, hrow1.2⟩; clear hrow1)
          | (go_at_call 20; refine (newCore_calls _ _ _ _ _ _ _ _ _ _ _).mono ?_; rintro e w2 ⟨rfl, rfl⟩)
          | (go_at_call 22; refine (first_calls _ a0 _ (by simp [coreCells]) (by omega) (by omega)).mono ?_; rintro e w3 ⟨rfl, rfl⟩)
          | (go_at_call 23; refine (last_calls _ a0 (some ⟨w.heap.size, 0, none⟩) len len _ (by simp [coreCells]) (by simp [coreCells]) (by omega) (by omega)).mono ?_; rintro e w3 ⟨rfl, q, rfl⟩)
          | (go_at_call 24; refine (canUse_calls _ a0 _ _ (by simp [coreCells])).mono ?_; rintro e w3 ⟨rfl, rfl⟩)
          | (refine wpList_insert_own (H := Unit) _ rfl _ _ _ 47 rfl 22 22 keyed22 Try.underlying47 (plainElem Try.prog 22) (w1.heap.size + 1) 0 (.map []) rfl (made_at (by simp)) (by unfold maxLen; omega) _ _ _ rfl rfl (Maps.keyOf_int_mk Try.underlying22 wt) (.lit (.int .u64 (a0 + 1 + l))) [] (plainElem_int Try.underlying22 hwf) ?_; intro w4 hown4 hg4; have HA : Hid (Below w1.heap.size w1 w4 ∧ Below w.heap.size w w4) := ahead hb1 rfl hg4; have HO : Hid (OneMap w4 (w1.heap.size + 1) to (a0 + 1 + l)) := hown4; clear hown4 hg4)
          | (go_at_call 26; refine (replicate_yes w4.heap.size w.heap.size len (w1.heap.size + 1) l a0 a1 z to mx _ (by exact core_made (HR1.out.1.below HA.out.1 HR1.out.2) (Nat.lt_of_lt_of_le HR1.out.2 HA.out.1.size)) (by simp [coreCells]) (by exact fun O => look_one wt ((HO.out.alloc _).alloc O)) (by omega) (by omega) hl h2).mono ?_; rintro e w5 ⟨⟨b0, b1, b2, b3, b4, b5, b6, b7, rfl⟩, hb5⟩; simp only [req6])
          | go_in)
  go_ret
  have hs : w.heap.size ≤ w4.heap.size := HA.out.2.size
  exact ⟨rfl, ((HA.out.2.alloc hs _).trans (hb5.mono (by simp; omega))).alloc (Nat.le_trans (by simp; omega) hb5.size) _⟩

set_option maxRecDepth 20000 in
set_option maxHeartbeats 1600000 in
theorem law6_no_pos (a0 a1 : Int) (a2 : Option Addr) (len cap : Nat) (a3 : Int) (z : List Int) (to mx : Int) (w : World) (l0 : 0 ≤ a0) (hsrc : Src w a2 len z) (h2 : len ≤ 65536) (h3 : a0 ≤ 18446744073709551615 - len - 1)
    (wt : (Lit.int .u64 to).wf = true) (hwf : (Lit.int .u64 a3).wf = true) (hl : a3 ≤ a0) (hp : 0 < len) :
    Calls Try.prog 6 #[.int .u64 a0, .int .u64 a1, .slice a2 len cap, .int .u64 (a3), .int .u64 to, .int .i64 mx] w fun e w' => e = .returned (.bool true) ∧ Below w.heap.size w w' := by
  have hmm := @run_makeMap Try.prog
  have u1 : decide (a0 < a3) = false := decide_eq_false (by omega)
  have u2 : decide (a0 + 1 ≤ a3) = false := decide_eq_false (by omega)
  have u3 : a3 ≤ a0 + len + 1 := by omega
  have u4 : (0 : Int) < len := by omega
  have u5 : a0 < a0 + (len : Int) := by omega
  go_enter Try.func6, Try.ntmps6
  go_wp2_with (first
          | (go_at_call 21; refine (logOfTerms2 _ _ _ z _ (by omega) (by exact hsrc)).mono ?_; rintro e w1 ⟨rfl, hrow1, hb1⟩; have hz1 := hb1.size; have HR1 : Hid (LogRow w1 w.heap.size len len z ∧ w.heap.size < w1.heap.size) := ⟨hrow1.1, hrow1.2⟩; clear hrow1)
          | (go_at_call 20; refine (newCore_calls _ _ _ _ _ _ _ _ _ _ _).mono ?_; rintro e w2 ⟨rfl, rfl⟩)
          | (go_at_call 22; refine (first_calls _ a0 _ (by simp [coreCells]) (by omega) (by omega)).mono ?_; rintro e w3 ⟨rfl, rfl⟩)
          | (go_at_call 23; refine (last_calls _ a0 (some ⟨w.heap.size, 0, none⟩) len len _ (by simp [coreCells]) (by simp [coreCells]) (by omega) (by omega)).mono ?_; rintro e w3 ⟨rfl, q, rfl⟩)
          | (go_at_call 24; refine (canUse_calls _ a0 _ _ (by simp [coreCells])).mono ?_; rintro e w3 ⟨rfl, rfl⟩)
          | (refine wpList_insert_own (H := Unit) _ rfl _ _ _ 47 rfl 22 22 keyed22 Try.underlying47 (plainElem Try.prog 22) (w1.heap.size + 1) 0 (.map []) rfl (made_at (by simp)) (by unfold maxLen; omega) _ _ _ rfl rfl (Maps.keyOf_int_mk Try.underlying22 wt) (.lit (.int .u64 (a3))) [] (plainElem_int Try.underlying22 hwf) ?_; intro w4 hown4 hg4; have HA : Hid (Below w1.heap.size w1 w4 ∧ Below w.heap.size w w4) := ahead hb1 rfl hg4; have HO : Hid (OneMap w4 (w1.heap.size + 1) to (a3)) := hown4; clear hown4 hg4)
          | (go_at_call 26; refine (replicate_no w4.heap.size w.heap.size len (w1.heap.size + 1) a0 a1 z to a3 mx _ (by exact core_made (HR1.out.1.below HA.out.1 HR1.out.2) (Nat.lt_of_lt_of_le HR1.out.2 HA.out.1.size)) (by simp [coreCells]) (by exact fun O => look_one wt ((HO.out.alloc _).alloc O)) (by omega)).mono ?_; rintro e w5 ⟨⟨b0, b1, b2, b3, b4, b5, b6, b7, rfl⟩, hb5⟩; simp only [req6])
          | go_in)
  go_ret
  have hs : w.heap.size ≤ w4.heap.size := HA.out.2.size
  exact ⟨rfl, ((HA.out.2.alloc hs _).trans (hb5.mono (by simp; omega))).alloc (Nat.le_trans (by simp; omega) hb5.size) _⟩

set_option maxRecDepth 20000 in
set_option maxHeartbeats 1600000 in
theorem law6_far_pos (a0 a1 : Int) (a2 : Option Addr) (len cap : Nat) (a3 : Int) (z : List Int) (to mx : Int) (w : World) (l0 : 0 ≤ a0) (hsrc : Src w a2 len z) (h2 : len ≤ 65536) (h3 : a0 ≤ 18446744073709551615 - len - 1)
    (hl : a0 + len + 1 < a3) (hp : 0 < len) :
    Calls Try.prog 6 #[.int .u64 a0, .int .u64 a1, .slice a2 len cap, .int .u64 (a3), .int .u64 to, .int .i64 mx] w fun e w' => e = .returned (.bool true) ∧ Below w.heap.size w w' := by
  have hmm := @run_makeMap Try.prog
  have u1 : a0 < a3 := by omega
  have u2 : a0 + 1 ≤ a3 := by omega
  have u3 : ¬ a3 ≤ a0 + len + 1 := by omega
  have u4 : (0 : Int) < len := by omega
  have u5 : a0 < a0 + (len : Int) := by omega
  go_enter Try.func6, Try.ntmps6
  go_wp2_with (first
          | (go_at_call 21; refine (logOfTerms2 _ _ _ z _ (by omega) (by exact hsrc)).mono ?_; rintro e w1 ⟨rfl, hrow1, hb1⟩; have hz1 := hb1.size; have HR1 : Hid (LogRow w1 w.heap.size len len z ∧ w.heap.size < w1.heap.size) := ⟨hrow1.1, hrow1.2⟩; clear hrow1)
          | (go_at_call 20; refine (newCore_calls _ _ _ _ _ _ _ _ _ _ _).mono ?_; rintro e w2 ⟨rfl, rfl⟩)
          | (go_at_call 22; refine (first_calls _ a0 _ (by simp [coreCells]) (by omega) (by omega)).mono ?_; rintro e w3 ⟨rfl, rfl⟩)
          | (go_at_call 23; refine (last_calls _ a0 (some ⟨w.heap.size, 0, none⟩) len len _ (by simp [coreCells]) (by simp [coreCells]) (by omega) (by omega)).mono ?_; rintro e w3 ⟨rfl, q, rfl⟩)
          | (go_at_call 24; refine (canUse_calls _ a0 _ _ (by simp [coreCells])).mono ?_; rintro e w3 ⟨rfl, rfl⟩)
          | go_in)
  go_ret
  exact ⟨rfl, below_drewN (hb1.alloc hz1 _) q⟩

set_option maxRecDepth 20000 in
set_option maxHeartbeats 1600000 in
theorem law6_yes_zero (a0 a1 : Int) (a2 : Option Addr) (len cap : Nat) (l : Nat) (z : List Int) (to mx : Int) (w : World) (l0 : 0 ≤ a0) (hsrc : Src w a2 len z) (h2 : len ≤ 65536) (h3 : a0 ≤ 18446744073709551615 - len - 1)
    (wt : (Lit.int .u64 to).wf = true) (hl : l ≤ len) (hp : ¬ 0 < len) :
    Calls Try.prog 6 #[.int .u64 a0, .int .u64 a1, .slice a2 len cap, .int .u64 (a0 + 1 + l), .int .u64 to, .int .i64 mx] w fun e w' => e = .returned (.bool true) ∧ Below w.heap.size w w' := by
  have hmm := @run_makeMap Try.prog
  have u1 : a0 < a0 + 1 + (l : Int) := by omega
  have u2 : a0 + 1 ≤ a0 + 1 + (l : Int) := by omega
  have u3 : a0 + 1 + (l : Int) ≤ a0 + len + 1 := by omega
  have hwf : (Lit.int .u64 (a0 + 1 + (l : Int))).wf = true := WalkArith.wf_u64 ⟨by omega, by omega⟩
  have u4 : ¬ (0 : Int) < len := by omega
  have u5 : ¬ a0 < a0 + (len : Int) := by omega
  go_enter Try.func6, Try.ntmps6
  go_wp2_with (first
          | (go_at_call 21; refine (logOfTerms2 _ _ _ z _ (by omega) (by exact hsrc)).mono ?_; rintro e w1 ⟨rfl, hrow1, hb1⟩; have hz1 := hb1.size; have HR1 : Hid (LogRow w1 w.heap.size len len z ∧ w.heap.size < w1.heap.size) := ⟨hrow1.1, hrow1.2⟩; clear hrow1)
          | (go_at_call 20; refine (newCore_calls _ _ _ _ _ _ _ _ _ _ _).mono ?_; rintro e w2 ⟨rfl, rfl⟩)
          | (go_at_call 22; refine (first_calls _ a0 _ (by simp [coreCells]) (by omega) (by omega)).mono ?_; rintro e w3 ⟨rfl, rfl⟩)
          | (go_at_call 23; refine (last_calls _ a0 (some ⟨w.heap.size, 0, none⟩) len len _ (by simp [coreCells]) (by simp [coreCells]) (by omega) (by omega)).mono ?_; rintro e w3 ⟨rfl, q, rfl⟩)
          | (go_at_call 24; refine (canUse_calls _ a0 _ _ (by simp [coreCells])).mono ?_; rintro e w3 ⟨rfl, rfl⟩)
          | (refine wpList_insert_own (H := Unit) _ rfl _ _ _ 47 rfl 22 22 keyed22 Try.underlying47 (plainElem Try.prog 22) (w1.heap.size + 1) 0 (.map []) rfl (made_at (by simp)) (by unfold maxLen; omega) _ _ _ rfl rfl (Maps.keyOf_int_mk Try.underlying22 wt) (.lit (.int .u64 (a0 + 1 + l))) [] (plainElem_int Try.underlying22 hwf) ?_; intro w4 hown4 hg4; have HA : Hid (Below w1.heap.size w1 w4 ∧ Below w.heap.size w w4) := ahead hb1 rfl hg4; have HO : Hid (OneMap w4 (w1.heap.size + 1) to (a0 + 1 + l)) := hown4; clear hown4 hg4)
          | (go_at_call 26; refine (replicate_yes w4.heap.size w.heap.size len (w1.heap.size + 1) l a0 a1 z to mx _ (by exact core_made (HR1.out.1.below HA.out.1 HR1.out.2) (Nat.lt_of_lt_of_le HR1.out.2 HA.out.1.size)) (by simp [coreCells]) (by exact fun O => look_one wt ((HO.out.alloc _).alloc O)) (by omega) (by omega) hl h2).mono ?_; rintro e w5 ⟨⟨b0, b1, b2, b3, b4, b5, b6, b7, rfl⟩, hb5⟩; simp only [req6])
          | go_in)
  go_ret
  have hs : w.heap.size ≤ w4.heap.size := HA.out.2.size
  exact ⟨rfl, ((HA.out.2.alloc hs _).trans (hb5.mono (by simp; omega))).alloc (Nat.le_trans (by simp; omega) hb5.size) _⟩

set_option maxRecDepth 20000 in
set_option maxHeartbeats 1600000 in
theorem law6_no_zero (a0 a1 : Int) (a2 : Option Addr) (len cap : Nat) (a3 : Int) (z : List Int) (to mx : Int) (w : World) (l0 : 0 ≤ a0) (hsrc : Src w a2 len z) (h2 : len ≤ 65536) (h3 : a0 ≤ 18446744073709551615 - len - 1)
    (wt : (Lit.int .u64 to).wf = true) (hwf : (Lit.int .u64 a3).wf = true) (hl : a3 ≤ a0) (hp : ¬ 0 < len) :
    Calls Try.prog 6 #[.int .u64 a0, .int .u64 a1, .slice a2 len cap, .int .u64 (a3), .int .u64 to, .int .i64 mx] w fun e w' => e = .returned (.bool true) ∧ Below w.heap.size w w' := by
  have hmm := @run_makeMap Try.prog
  have u1 : decide (a0 < a3) = false := decide_eq_false (by omega)
  have u2 : decide (a0 + 1 ≤ a3) = false := decide_eq_false (by omega)
  have u3 : a3 ≤ a0 + len + 1 := by omega
  have u4 : ¬ (0 : Int) < len := by omega
  have u5 : ¬ a0 < a0 + (len : Int) := by omega
  go_enter Try.func6, Try.ntmps6
  go_wp2_with (first
          | (go_at_call 21; refine (logOfTerms2 _ _ _ z _ (by omega) (by exact hsrc)).mono ?_; rintro e w1 ⟨rfl, hrow1, hb1⟩; have hz1 := hb1.size; have HR1 : Hid (LogRow w1 w.heap.size len len z ∧ w.heap.size < w1.heap.size) := ⟨hrow1.1, hrow1.2⟩; clear hrow1)
          | (go_at_call 20; refine (newCore_calls _ _ _ _ _ _ _ _ _ _ _).mono ?_; rintro e w2 ⟨rfl, rfl⟩)
          | (go_at_call 22; refine (first_calls _ a0 _ (by simp [coreCells]) (by omega) (by omega)).mono ?_; rintro e w3 ⟨rfl, rfl⟩)
          | (go_at_call 23; refine (last_calls _ a0 (some ⟨w.heap.size, 0, none⟩) len len _ (by simp [coreCells]) (by simp [coreCells]) (by omega) (by omega)).mono ?_; rintro e w3 ⟨rfl, q, rfl⟩)
          | (go_at_call 24; refine (canUse_calls _ a0 _ _ (by simp [coreCells])).mono ?_; rintro e w3 ⟨rfl, rfl⟩)
          | (refine wpList_insert_own (H := Unit) _ rfl _ _ _ 47 rfl 22 22 keyed22 Try.underlying47 (plainElem Try.prog 22) (w1.heap.size + 1) 0 (.map []) rfl (made_at (by simp)) (by unfold maxLen; omega) _ _ _ rfl rfl (Maps.keyOf_int_mk Try.underlying22 wt) (.lit (.int .u64 (a3))) [] (plainElem_int Try.underlying22 hwf) ?_; intro w4 hown4 hg4; have HA : Hid (Below w1.heap.size w1 w4 ∧ Below w.heap.size w w4) := ahead hb1 rfl hg4; have HO : Hid (OneMap w4 (w1.heap.size + 1) to (a3)) := hown4; clear hown4 hg4)
          | (go_at_call 26; refine (replicate_no w4.heap.size w.heap.size len (w1.heap.size + 1) a0 a1 z to a3 mx _ (by exact core_made (HR1.out.1.below HA.out.1 HR1.out.2) (Nat.lt_of_lt_of_le HR1.out.2 HA.out.1.size)) (by simp [coreCells]) (by exact fun O => look_one wt ((HO.out.alloc _).alloc O)) (by omega)).mono ?_; rintro e w5 ⟨⟨b0, b1, b2, b3, b4, b5, b6, b7, rfl⟩, hb5⟩; simp only [req6])
          | go_in)
  go_ret
  have hs : w.heap.size ≤ w4.heap.size := HA.out.2.size
  exact ⟨rfl, ((HA.out.2.alloc hs _).trans (hb5.mono (by simp; omega))).alloc (Nat.le_trans (by simp; omega) hb5.size) _⟩

set_option maxRecDepth 20000 in
set_option maxHeartbeats 1600000 in
theorem law6_far_zero (a0 a1 : Int) (a2 : Option Addr) (len cap : Nat) (a3 : Int) (z : List Int) (to mx : Int) (w : World) (l0 : 0 ≤ a0) (hsrc : Src w a2 len z) (h2 : len ≤ 65536) (h3 : a0 ≤ 18446744073709551615 - len - 1)
    (hl : a0 + len + 1 < a3) (hp : ¬ 0 < len) :
    Calls Try.prog 6 #[.int .u64 a0, .int .u64 a1, .slice a2 len cap, .int .u64 (a3), .int .u64 to, .int .i64 mx] w fun e w' => e = .returned (.bool true) ∧ Below w.heap.size w w' := by
  have hmm := @run_makeMap Try.prog
  have u1 : a0 < a3 := by omega
  have u2 : a0 + 1 ≤ a3 := by omega
  have u3 : ¬ a3 ≤ a0 + len + 1 := by omega
  have u4 : ¬ (0 : Int) < len := by omega
  have u5 : ¬ a0 < a0 + (len : Int) := by omega
  go_enter Try.func6, Try.ntmps6
  go_wp2_with (first
          | (go_at_call 21; refine (logOfTerms2 _ _ _ z _ (by omega) (by exact hsrc)).mono ?_; rintro e w1 ⟨rfl, hrow1, hb1⟩; have hz1 := hb1.size; have HR1 : Hid (LogRow w1 w.heap.size len len z ∧ w.heap.size < w1.heap.size) := ⟨hrow1.1, hrow1.2⟩; clear hrow1)
          | (go_at_call 20; refine (newCore_calls _ _ _ _ _ _ _ _ _ _ _).mono ?_; rintro e w2 ⟨rfl, rfl⟩)
          | (go_at_call 22; refine (first_calls _ a0 _ (by simp [coreCells]) (by omega) (by omega)).mono ?_; rintro e w3 ⟨rfl, rfl⟩)
          | (go_at_call 23; refine (last_calls _ a0 (some ⟨w.heap.size, 0, none⟩) len len _ (by simp [coreCells]) (by simp [coreCells]) (by omega) (by omega)).mono ?_; rintro e w3 ⟨rfl, q, rfl⟩)
          | (go_at_call 24; refine (canUse_calls _ a0 _ _ (by simp [coreCells])).mono ?_; rintro e w3 ⟨rfl, rfl⟩)
          | go_in)
  go_ret
  exact ⟨rfl, below_drewN (hb1.alloc hz1 _) q⟩

theorem law6_walk (a0 a1 : Int) (a2 : Option Addr) (len cap : Nat) (z : List Int) (a3 to mx : Int) (w : World) (l0 : 0 ≤ a0) (hsrc : Src w a2 len z) (hm : len ≤ maxLen)
    (w3 : (Lit.int .u64 a3).wf = true) (wt : (Lit.int .u64 to).wf = true) :
    Calls Try.prog 6 #[.int .u64 a0, .int .u64 a1, .slice a2 len cap, .int .u64 a3, .int .u64 to, .int .i64 mx] w fun e w' => e = .returned (.bool true) ∧ Below w.heap.size w w' := by
  unfold maxLen at hm
  by_cases h1 : len ≤ 1048576
  · by_cases h2 : len ≤ 65536
    · by_cases h3 : a0 ≤ 18446744073709551615 - len - 1
      · by_cases hf : a0 + len + 1 < a3
        · by_cases hp : 0 < len
          · exact law6_far_pos a0 a1 a2 len cap a3 z to mx w l0 hsrc h2 h3 hf hp
          · exact law6_far_zero a0 a1 a2 len cap a3 z to mx w l0 hsrc h2 h3 hf hp
        · by_cases hn : a3 ≤ a0
          · by_cases hp : 0 < len
            · exact law6_no_pos a0 a1 a2 len cap a3 z to mx w l0 hsrc h2 h3 wt w3 hn hp
            · exact law6_no_zero a0 a1 a2 len cap a3 z to mx w l0 hsrc h2 h3 wt w3 hn hp
          · obtain ⟨l, rfl⟩ : ∃ l : Nat, a3 = a0 + 1 + l := ⟨(a3 - a0 - 1).toNat, by omega⟩
            by_cases hp : 0 < len
            · exact law6_yes_pos a0 a1 a2 len cap l z to mx w l0 hsrc h2 h3 wt (by omega) hp
            · exact law6_yes_zero a0 a1 a2 len cap l z to mx w l0 hsrc h2 h3 wt (by omega) hp
      · go_enter Try.func6, Try.ntmps6
        go_wp2
        go_ret
        exact ⟨rfl, Below.refl _ _⟩
    · go_enter Try.func6, Try.ntmps6
      go_wp2
      go_ret
      exact ⟨rfl, Below.refl _ _⟩
  · go_enter Try.func6, Try.ntmps6
    go_wp2
    go_ret
    exact ⟨rfl, Below.refl _ _⟩
end Go.Proofs.Qxb6612844a
