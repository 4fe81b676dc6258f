/-
  append of two slices of members; catchingUp; the closures of NonVoters and Peers; NonVoters.
-/
import Derived.Test.Qxb6612844aPeersE
namespace Go.Proofs.Qxb6612844a
open Go.RowKit

theorem run_appendM (w : World) (ty : TypeId) (base : Nat) (a : Option Addr) (c : Nat) (l : List M) (a2 : Option Addr) (c2 : Nat) (l2 : List M) (ho : Own w base a c l) (hi : In w a2 c2 l2) (hl : l.length + l2.length ≤ 65536) (hb : base ≤ w.heap.size) :
    ∃ a' c' w', (Builtin.append_ #[28, 28] ty #[.slice a l.length c, .slice a2 l2.length c2]).run Try.prog w = .ok (.slice a' (l ++ l2).length c') w' ∧ Own w' base a' c' (l ++ l2) ∧ w.grownBy w' ((Value.slice a l.length c).ownBlock) := by
  obtain ⟨i0, hi0, hz0, hz1, hz2⟩ := info_parts info36
  rcases hi with ⟨rfl, rfl, rfl⟩ | ⟨g, rfl, hr⟩
  · have hrun := run_append_owned_none (P := Try.prog) (w := w) base 28 ty 36 i0 2 Try.underlying28 hi0 _ _ _ ho
    refine ⟨a, c, w, ?_, ?_, World.grownBy.refl _ _⟩
    · rw [List.append_nil]; exact hrun
    · rw [List.append_nil]; exact ho
  · have hnews : ∀ j u, (l2.flatMap encM)[j]? = some u → w.cell? ((⟨g, 0, none⟩ : Addr).add j) = some u := by
      intro j u hj
      have e : ((⟨g, 0, none⟩ : Addr).add j) = ⟨g, j, none⟩ := by simp [Addr.add]; omega
      rw [e]; exact hr.flat j u hj
    obtain ⟨v', w', hrun, h2, h3, -⟩ := run_append_own (P := Try.prog) w base 28 ty 36 i0 _ 2 24 Try.underlying28 hi0 hz0 hz1 hz2 rfl (by decide) _ _ _ ho ⟨g, 0, none⟩ l2.length c2 (l2.flatMap encM) (flat_len l2) hnews (one_encM l2) (by unfold maxLen; omega) (by omega) hb
    obtain ⟨a', c', rfl⟩ := shape h2
    refine ⟨a', c', w', ?_, ?_, h3⟩
    · rw [List.length_append]; exact hrun
    · show w'.ownsRow base 36 2 (.slice a' (l ++ l2).length c') (l ++ l2).length ((l ++ l2).flatMap encM)
      rw [List.length_append, List.flatMap_append]; exact h2

theorem step_appendM (w : World) {ops : Array Oper} {o : Oper} {ac : Act} {K : Act → World → Prop} {Q : Exit → Act → World → Prop} {E : Prop} (hgd : o.guard = none) (s x : Operand)
    (ho : o.op = .call { callee := .builtin .append, args := #[s, x], argTypes := #[28, 28] }) (base : Nat) (a : Option Addr) (c : Nat) (l : List M) (a2 : Option Addr) (c2 : Nat) (l2 : List M) (n n2 : Nat) (hn : n = l.length) (hn2 : n2 = l2.length)
    (hs : ac.eval s = .slice a n c) (hx : ac.eval x = .slice a2 n2 c2) (hown : Own w base a c l) (hin : In w a2 c2 l2) (hl : l.length + l2.length ≤ 65536) (hb : base ≤ w.heap.size)
    (h : ∀ a' c' w', Own w' base a' c' (l ++ l2) → w.grownBy w' ((Value.slice a l.length c).ownBlock) → K (ac.put o.dst (.slice a' (l ++ l2).length c')) w') :
    if Region.wanted o (yielded ops ac.tmps) = true then Oper.wp Try.prog o ac w K Q else E := by
  have hw : Region.wanted o (yielded ops ac.tmps) = true := by simp [Region.wanted, hgd]
  rw [if_pos hw]
  subst hn; subst hn2
  obtain ⟨a', c', w', hr, h2, h3⟩ := run_appendM w o.type base a c l a2 c2 l2 hown hin hl hb
  unfold Oper.wp execOp
  simp only [ho, resolve, invoke, builtin, Sem.run_bind, Sem.run_pure, Result.andThen_ok, List.map_toArray, List.map_cons, List.map_nil, hs, hx, hr]
  exact h a' c' w' h2 h3

/-- What is known of a Core that ZZnewCorePeers laid at block g. -/
structure PC (w : World) (g : Nat) (id role : Int) (am : Option Addr) (cm : Nat) (mem : List M) (ao : Option Addr) (co : Nat) (old : List M) (at' : Option Addr) (ct : Nat) (tgt : List M) : Prop where
  c0 : w.cell? ⟨g, 0, none⟩ = some (.int .u64 id)
  c3 : w.cell? ⟨g, 3, none⟩ = some (.int .i64 role)
  c8 : w.cell? ⟨g, 8, none⟩ = some (.slice am mem.length cm)
  c9 : w.cell? ⟨g, 9, none⟩ = some (.slice ao old.length co)
  c11 : w.cell? ⟨g, 11, none⟩ = some (.slice at' tgt.length ct)
  lt : g < w.heap.size
  im : In w am cm mem
  io : In w ao co old
  it : In w at' ct tgt
  lm : mem.length ≤ 1024
  lo : old.length ≤ 1024
  ltt : tgt.length ≤ 1024

theorem In.later {w w' : World} {a : Option Addr} {c : Nat} {l : List M} (h : In w a c l) (hb : Below w.heap.size w w') : In w' a c l := h.keep (below_grown hb)

theorem PC.later {w w' : World} {g : Nat} {id role : Int} {am : Option Addr} {cm : Nat} {mem : List M} {ao : Option Addr} {co : Nat} {old : List M} {at' : Option Addr} {ct : Nat} {tgt : List M} (h : PC w g id role am cm mem ao co old at' ct tgt) (hb : Below w.heap.size w w') :
    PC w' g id role am cm mem ao co old at' ct tgt := by
  have hc : ∀ o, w'.cell? ⟨g, o, none⟩ = w.cell? ⟨g, o, none⟩ := fun o => hb.cell (p := ⟨g, o, none⟩) h.lt
  exact ⟨(hc _).trans h.c0, (hc _).trans h.c3, (hc _).trans h.c8, (hc _).trans h.c9, (hc _).trans h.c11, Nat.lt_of_lt_of_le h.lt hb.size, h.im.later hb, h.io.later hb, h.it.later hb, h.lm, h.lo, h.ltt⟩

theorem catchingUp_calls (g : Nat) (role : Int) (a : Option Addr) (n c : Nat) (w : World) (c3 : w.cell? ⟨g, 3, none⟩ = some (.int .i64 role)) (c11 : w.cell? ⟨g, 11, none⟩ = some (.slice a n c)) :
    Calls Try.prog 48 #[.pointer (some ⟨g, 0, none⟩)] w fun e w' => e = .returned (.bool ((role == 2) && a.isSome)) ∧ w = w' := by
  cases hr : (role == 2) with
  | true =>
    obtain rfl : role = 2 := by simpa using hr
    clear hr
    cases a with
    | none =>
      have hne := fun w' => run_neq_slice_nil_any (P := Try.prog) w' 28 36 none n c 0 0 Try.underlying28
      go_enter Try.func48, Try.ntmps48
      go_wp2
      go_ret
      exact ⟨rfl, rfl⟩
    | some x =>
      have hne := fun w' => run_neq_slice_nil_any (P := Try.prog) w' 28 36 (some x) n c 0 0 Try.underlying28
      go_enter Try.func48, Try.ntmps48
      go_wp2
      go_ret
      exact ⟨rfl, rfl⟩
  | false =>
    go_enter Try.func48, Try.ntmps48
    go_wp2
    go_ret
    exact ⟨rfl, rfl⟩

theorem closure37 (x : M) (B g : Nat) (id : Int) (W : World) (hB : W.cell? ⟨B, 0, none⟩ = some (.pointer (some ⟨g, 0, none⟩))) (hc : W.cell? ⟨g, 0, none⟩ = some (.int .u64 id)) :
    Calls Try.prog 37 #[.agg #[.int .u64 x.1, .string x.2], .pointer (some ⟨B, 0, none⟩)] W fun e w' => e = .returned (.bool (x.1 == id)) ∧ W.grownBy w' none := by
  have hlt : B < W.heap.size := World.block_lt_of_cell? _ _ hB
  have hlt2 : g < W.heap.size := World.block_lt_of_cell? _ _ hc
  go_enter Try.func37, Try.ntmps37
  go_wp2
  go_quiet (fail)
  go_wp2
  go_ret
  exact ⟨rfl, below_grown (below_drewN ((Below.refl _ _).alloc (Nat.le_refl _) _) _)⟩

set_option maxHeartbeats 800000 in
theorem closure49 (x : M) (B g : Nat) (am : Option Addr) (cm : Nat) (mem : List M) (W : World) (hB : W.cell? ⟨B, 0, none⟩ = some (.pointer (some ⟨g, 0, none⟩))) (hc : W.cell? ⟨g, 8, none⟩ = some (.slice am mem.length cm)) (hin : In W am cm mem) (hl : mem.length ≤ 1024) :
    Calls Try.prog 49 #[.agg #[.int .u64 x.1, .string x.2], .pointer (some ⟨B, 0, none⟩)] W fun e w' => e = .returned (.bool (anyID mem x.1)) ∧ W.grownBy w' none := by
  have hlt : B < W.heap.size := World.block_lt_of_cell? _ _ hB
  have hlt2 : g < W.heap.size := World.block_lt_of_cell? _ _ hc
  have hid := fun W' hW' => hasID_calls am cm mem x.1 W' hW' (by omega)
  have HI : Hid (In W am cm mem) := hin
  obtain ⟨nm, hnm⟩ : ∃ nm, nm = mem.length := ⟨_, rfl⟩
  rw [← hnm] at hid hc
  clear hin hnm hl
  generalize anyID mem x.1 = r at hid ⊢
  go_enter Try.func49, Try.ntmps49
  go_wp2
  go_region_held3 (fun w' => w'.cell? ⟨B, 0, none⟩ = some (.pointer (some ⟨g, 0, none⟩)) ∧ w'.cell? ⟨g, 8, none⟩ = some (.slice am nm cm) ∧ w'.cell? ⟨W.heap.size, 0, none⟩ = some (.int .u64 x.1)) (simp [*, go_sem])
    ((go_at_call 44; refine (hid _ (by exact HI.out.later ((Below.refl _ _).alloc (Nat.le_refl _) _).drew)).mono ?_; rintro e w1 ⟨rfl, hg1⟩; have m0 := hg1.cell (a := ⟨B, 0, none⟩) (v := .pointer (some ⟨g, 0, none⟩)) (by simp [*, go_sem]) (by simp); have m1 := hg1.cell (a := ⟨g, 8, none⟩) (v := .slice am nm cm) (by simp [*, go_sem]) (by simp); have m2 := hg1.cell (a := ⟨W.heap.size, 0, none⟩) (v := .int .u64 x.1) (by simp [go_sem]) (by simp)))
  go_wp2
  go_ret
  exact ⟨rfl, (below_grown ((Below.refl _ W).alloc (Nat.le_refl _) _).drew).trans hg1⟩
end Go.Proofs.Qxb6612844a
