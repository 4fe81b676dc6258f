/-
  slices.Clone and hasID at Member.
-/
import Derived.Test.Qxb6612844aPeersKit
namespace Go.Proofs.Qxb6612844a
open Go.RowKit Go.Sort

set_option maxHeartbeats 800000 in
theorem cloneM_some (g c : Nat) (l : List M) (w : World) (hr : Rd w g l) (hn : l.length ≤ 65536) :
    Calls Try.prog 43 #[.slice (some ⟨g, 0, none⟩) l.length c] w fun e w' => ∃ a' c', e = .returned (.slice a' l.length c') ∧ Own w' w.heap.size a' c' l ∧ w.grownBy w' none := by
  obtain ⟨i0, hi, hz0, hz1, hz2⟩ := info_parts info36
  have heq := fun w' => Lib.run_eql_slice_nil (P := Try.prog) w' 28 36 (some ⟨g, 0, none⟩) l.length c 0 0 Try.underlying28
  have hnw : ∀ j u, (l.flatMap encM)[j]? = some u → (w.alloc (.cells #[] 36)).cell? ((⟨g, 0, none⟩ : Addr).add j) = some u := by
    intro j u hj
    have h := hr.flat j u hj
    have e : ((⟨g, 0, none⟩ : Addr).add j) = ⟨g, j, none⟩ := by simp [Addr.add]; omega
    rw [e, World.cell?_alloc_lt _ _ _ hr.1]
    exact h
  have hown : (w.alloc (.cells #[] 36)).ownsRow w.heap.size 36 2 (.slice (some ⟨w.heap.size, 0, none⟩) 0 0) 0 (#[] : Array Value).toList := World.ownsRow_lit w #[] 0 (Nat.le_refl _) (Nat.zero_le _) rfl
  have h1 := one_encM l
  have hfl := flat_len l
  have HO : Hid (∀ (v' : Value) (W : World), W.ownsRow w.heap.size 36 2 v' (0 + l.length) ([] ++ l.flatMap encM) → ∃ a' c', v' = .slice a' l.length c' ∧ Own W w.heap.size a' c' l) := by
    intro v' W h
    rw [Nat.zero_add, List.nil_append] at h
    obtain ⟨a', c', rfl⟩ := shape h
    exact ⟨a', c', rfl, h⟩
  generalize l.flatMap encM = news at *
  generalize l.length = n at *
  have HN : Hid (∀ j u, news[j]? = some u → (w.alloc (.cells #[] 36)).cell? ((⟨g, 0, none⟩ : Addr).add j) = some u) := hnw
  clear hnw hr
  go_enter Try.func43, Try.ntmps43
  go_wp2_with (at_builtin; refine wpList_append_own _ rfl _ _ 28 rfl w.heap.size 36 i0 _ 2 24 Try.underlying28 hi hz0 hz1 hz2 rfl (by decide) _ 0 [] rfl (by exact hown) ⟨g, 0, none⟩ n c news rfl hfl (by exact HN.out) h1 (by unfold maxLen; omega) (by omega) (by simp) ?_; intro v' w1 hown1 hg1 hnil1)
  have hg2 : w.grownBy w1 none := ((World.grownBy_alloc w _ none)).andThen (show (w.alloc (.cells #[] 36)).grownBy w1 (some w.heap.size) from hg1) (fun j h => by cases h; exact .inl (Nat.le_refl _))
  obtain ⟨a', c', hv, ho⟩ := HO.out v' w1 hown1
  clear hg1 hnil1 hown1 hown
  go_ret
  exact ⟨a', c', by rw [← hv]; rfl, ho, hg2⟩

theorem cloneM_none (w : World) :
    Calls Try.prog 43 #[.slice none 0 0] w fun e w' => e = .returned (.slice none 0 0) ∧ w = w' := by
  have heq := fun w' => Lib.run_eql_slice_nil (P := Try.prog) w' 28 36 none 0 0 0 0 Try.underlying28
  go_enter Try.func43, Try.ntmps43
  go_wp2
  go_ret
  exact ⟨rfl, rfl⟩

theorem Own.nil (w : World) (base : Nat) : Own w base none 0 [] := World.ownsRow_nil _ _ _ _

theorem cloneM_calls (a : Option Addr) (c : Nat) (l : List M) (w : World) (h : In w a c l) (hn : l.length ≤ 65536) :
    Calls Try.prog 43 #[.slice a l.length c] w fun e w' => ∃ a' c', e = .returned (.slice a' l.length c') ∧ Own w' w.heap.size a' c' l ∧ w.grownBy w' none := by
  rcases h with ⟨rfl, rfl, rfl⟩ | ⟨g, rfl, hr⟩
  · exact (cloneM_none w).mono fun e w' ⟨h1, h2⟩ => by subst h2; exact ⟨none, 0, h1, Own.nil _ _, World.grownBy.refl _ _⟩
  · exact cloneM_some g c l w hr hn

/-! ### hasID -/
theorem closure54 (x : M) (B : Nat) (id : Int) (W : World) (hc : W.cell? ⟨B, 0, none⟩ = some (.int .u64 id)) :
    Calls Try.prog 54 #[.agg #[.int .u64 x.1, .string x.2], .pointer (some ⟨B, 0, none⟩)] W fun e w' => e = .returned (.bool (x.1 == id)) ∧ W.alloc (.cells #[.int .u64 x.1, .string x.2] 36) = w' := by
  have hlt : B < W.heap.size := World.block_lt_of_cell? _ _ hc
  go_enter Try.func54, Try.ntmps54
  go_wp2
  go_ret
  exact ⟨rfl, rfl⟩

theorem below_grown {w w' : World} (h : Below w.heap.size w w') : w.grownBy w' none := ⟨h.os, h.tape, h.output, h.size, fun k hk _ => h.block k hk⟩
theorem grown_below {w w' : World} (h : w.grownBy w' none) : Below w.heap.size w w' := ⟨h.os, h.tape, h.output, h.size, fun k hk => h.block k hk (by simp)⟩

theorem enters54 : ∀ args w, (callFunc 54 args).run Try.prog w = .ok (.enter 54 args) w := Go.Proofs.enters_of Try.func54 (by kernel_rfl) rfl

theorem pred54 (B : Nat) (id : Int) (w : World) (hc : w.cell? ⟨B, 0, none⟩ = some (.int .u64 id)) :
    PredBelow Try.prog 54 #[.pointer (some ⟨B, 0, none⟩)] (fun x : M => .agg (encM x).toArray) (fun x => x.1 == id) w := by
  intro W x hb
  have hlt : B < w.heap.size := World.block_lt_of_cell? _ _ hc
  refine (closure54 x B id W ((hb.cell (p := ⟨B, 0, none⟩) hlt).trans hc)).mono fun e w' ⟨h1, h2⟩ => ?_
  subst h2
  exact ⟨h1, hb.alloc hb.size _⟩

theorem contains53_some (g c : Nat) (l : List M) (B : Nat) (id : Int) (w : World) (hr : Rd w g l) (hc : w.cell? ⟨B, 0, none⟩ = some (.int .u64 id)) (hn : l.length ≤ 65536) :
    Calls Try.prog 53 #[.slice (some ⟨g, 0, none⟩) l.length c, .func (.func 54) #[] #[.pointer (some ⟨B, 0, none⟩)]] w fun e w' => e = .returned (.bool (l.any fun x => x.1 == id)) ∧ Below w.heap.size w w' := by
  have h := AnyQ.slices_ContainsFunc (P := Try.prog) Try.containsM 2 Try.isAgg36 Try.sizeOf36 encM (fun _ => rfl) (fun x : M => x.1 == id) 54 #[.pointer (some ⟨B, 0, none⟩)] enters54 g 0 l.length c l w (pred54 B id w hc) (Nat.le_refl _) (by omega) hr.1 (by
    intro j hj i v hv
    obtain ⟨c0, c1⟩ := hr.2 j hj
    match i, hv with
    | 0, hv => simp [encM] at hv; subst hv; simpa using c0
    | 1, hv => simp [encM] at hv; subst hv; simpa using c1
    | i + 2, hv => simp [encM] at hv)
  rw [List.take_length] at h
  exact h

theorem contains53_none (fv : Value) (w : World) (hf : ∃ f a b, fv = .func f a b) :
    Calls Try.prog 53 #[.slice none 0 0, fv] w fun e w' => e = .returned (.bool false) ∧ w = w' := by
  obtain ⟨f, a, b, rfl⟩ := hf
  go_enter Try.func53, Try.ntmps53
  go_wp2
  refine wp_loop_rounds 1 ?_
  rw [rounds_succ]
  go_wp2
  go_ret
  exact ⟨rfl, rfl⟩

def anyID (l : List M) (id : Int) : Bool := l.any fun x => x.1 == id

theorem hasID_calls (a : Option Addr) (c : Nat) (l : List M) (id : Int) (w : World) (h : In w a c l) (hn : l.length ≤ 65536) :
    Calls Try.prog 44 #[.slice a l.length c, .int .u64 id] w fun e w' => e = .returned (.bool (anyID l id)) ∧ w.grownBy w' none := by
  rcases h with ⟨rfl, rfl, rfl⟩ | ⟨g, rfl, hr⟩
  · go_enter Try.func44, Try.ntmps44
    go_wp2_with (go_at_call 53; refine (contains53_none _ _ ⟨_, _, _, rfl⟩).mono ?_; rintro e w' ⟨rfl, rfl⟩)
    go_ret
    exact ⟨rfl, World.grownBy_alloc _ _ _⟩
  · have hc := fun W hW => contains53_some g c l w.heap.size id W hW
    have hr1 : Rd (w.alloc (.cells #[.int .u64 id] 22)) g l := hr.keep (World.grownBy_alloc _ _ none) (by simp)
    have hc2 := hc _ hr1 (by simp) hn
    change Calls Try.prog 53 _ _ (fun e w' => e = .returned (.bool (anyID l id)) ∧ _) at hc2
    clear hc hr hr1
    generalize anyID l id = r at *
    generalize l.length = n at *
    go_enter Try.func44, Try.ntmps44
    go_wp2_with (go_at_call 53; refine hc2.mono ?_; rintro e w1 ⟨rfl, hb1⟩)
    go_ret
    exact ⟨rfl, (World.grownBy_alloc w _ none).trans (below_grown hb1)⟩
end Go.Proofs.Qxb6612844a
