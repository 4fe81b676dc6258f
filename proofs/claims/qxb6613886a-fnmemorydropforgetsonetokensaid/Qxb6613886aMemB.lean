/-
  ZZnewRemembered and the rest of the small ones.
-/
import Derived.Test.Qxb6613886aMemA
namespace Go.Proofs.Qxb6613886a
open Go.RowKit

section
variable {P : Program}
theorem wp_build {o : Oper} {a : Act} {w : World} {K : Act → World → Prop} {Q : Exit → Act → World → Prop} (t : TypeId) (ps : Array (Nat × Operand)) (ho : o.op = .build t ps)
    (parts : Array (Nat × Value)) (hp : ps.map (fun p => (p.1, a.eval p.2)) = parts) (cells : Array Value) (hb : P.built t parts.toList = some cells)
    (h : K (a.put o.dst (.agg cells)) w) : o.wp P a w K Q := by
  have hr := run_build (P := P) w t parts cells hb
  subst hp
  unfold Oper.wp execOp
  simp only [ho, Sem.run_bind, hr, Result.andThen_ok, Sem.run_pure]
  exact h
theorem wpList_build {ops : Array Oper} {rest : List Oper} {o : Oper} {a : Act} {w : World} {Q : Exit → Act → World → Prop} (hgd : o.guard = none) (t : TypeId) (ps : Array (Nat × Operand)) (ho : o.op = .build t ps)
    (parts : Array (Nat × Value)) (hp : ps.map (fun p => (p.1, a.eval p.2)) = parts) (cells : Array Value) (hb : P.built t parts.toList = some cells)
    (h : wpList P ops Q rest (a.put o.dst (.agg cells)) w) : wpList P ops Q (o :: rest) a w :=
  wpList_plain hgd fun _ hK => wp_build t ps ho parts hp cells hb (hK _ _ h)
end

theorem built66 (i hb : Nat) : Try.prog.built 66 (#[(0, .agg (dg i)), (3, .pointer (some ⟨hb, 0, none⟩))] : Array (Nat × Value)).toList = some (nodeC i none none hb) := by kernel_rfl

set_option maxHeartbeats 400000 in
theorem newRemembered_calls (i hb : Nat) (w : World) :
    Calls Try.prog 22 #[.agg (dg i), .pointer (some ⟨hb, 0, none⟩)] w fun e w' => e = .returned (.pointer (some ⟨w.heap.size + 1, 0, none⟩)) ∧ (w.alloc (.cells (dg i) 37)).alloc (.cells (nodeC i none none hb) 66) = w' := by
  go_enter Try.func22, Try.ntmps22
  go_wp2_with (first | refine wpList_load_row rfl 37 (.tmp 2) rfl w.heap.size rfl 37 (dg i) (0, 0) _ (heap_alloc_new w _) Try.underlying37 rfl info37 ?_ | refine wpList_build rfl 66 #[(0, .tmp 5), (3, .tmp 6)] rfl #[(0, .agg (dg i)), (3, .pointer (some ⟨hb, 0, none⟩))] (by simp [go_sem]) (nodeC i none none hb) (built66 i hb) ?_)
  go_ret
  exact ⟨rfl, rfl⟩

/-- older.newer, newer.older. -/
theorem link_calls (a b i j ha hb : Nat) (n1 o1 n2 o2 : Option Addr) (w : World) (h1 : At w a (nodeC i n1 o1 ha) 66) (h2 : At w b (nodeC j n2 o2 hb) 66) (hne : a ≠ b) :
    Calls Try.prog 24 #[.pointer (some ⟨a, 0, none⟩), .pointer (some ⟨b, 0, none⟩)] w fun e w' => e = .returned (.tuple #[]) ∧ (w.setCell ⟨a, 33, none⟩ (.pointer (some ⟨b, 0, none⟩))).setCell ⟨b, 32, none⟩ (.pointer (some ⟨a, 0, none⟩)) = w' := by
  have c1 := h1.cell 33 rfl
  have z1 := h1.frz 33
  have c2 := h2.cell 32 rfl
  have z2 := h2.frz 32
  have hne2 : b ≠ a := Ne.symm hne
  clear h1 h2
  go_enter Try.func24, Try.ntmps24
  go_wp2
  go_end0
  exact ⟨rfl, rfl⟩

theorem setEnds_calls (g eb kb : Nat) (n : Int) (n1 o1 n2 o2 : Option Addr) (w : World) (h1 : At w g (memC n eb kb n1 o1) 63) :
    Calls Try.prog 25 #[.pointer (some ⟨g, 0, none⟩), .pointer n2, .pointer o2] w fun e w' => e = .returned (.tuple #[]) ∧ (w.setCell ⟨g, 4, none⟩ (.pointer n2)).setCell ⟨g, 5, none⟩ (.pointer o2) = w' := by
  have c1 := h1.cell 4 rfl
  have z1 := h1.frz 4
  have c2 := h1.cell 5 rfl
  have z2 := h1.frz 5
  clear h1
  go_enter Try.func25, Try.ntmps25
  go_wp2
  go_end0
  exact ⟨rfl, rfl⟩

theorem newest_calls (g eb kb : Nat) (n : Int) (n1 o1 : Option Addr) (w : World) (h1 : At w g (memC n eb kb n1 o1) 63) :
    Calls Try.prog 12 #[.pointer (some ⟨g, 0, none⟩)] w fun e w' => e = .returned (.pointer n1) ∧ w = w' := by
  have c1 := h1.cell 4 rfl
  clear h1
  go_enter Try.func12, Try.ntmps12
  go_wp2
  go_ret
  exact ⟨rfl, rfl⟩

theorem oldest_calls (g eb kb : Nat) (n : Int) (n1 o1 : Option Addr) (w : World) (h1 : At w g (memC n eb kb n1 o1) 63) :
    Calls Try.prog 15 #[.pointer (some ⟨g, 0, none⟩)] w fun e w' => e = .returned (.pointer o1) ∧ w = w' := by
  have c1 := h1.cell 5 rfl
  clear h1
  go_enter Try.func15, Try.ntmps15
  go_wp2
  go_ret
  exact ⟨rfl, rfl⟩

theorem newer_calls (a i hb : Nat) (n1 o1 : Option Addr) (w : World) (h1 : At w a (nodeC i n1 o1 hb) 66) :
    Calls Try.prog 13 #[.pointer (some ⟨a, 0, none⟩)] w fun e w' => e = .returned (.pointer n1) ∧ w = w' := by
  have c1 := h1.cell 32 rfl
  clear h1
  go_enter Try.func13, Try.ntmps13
  go_wp2
  go_ret
  exact ⟨rfl, rfl⟩

theorem older_calls (a i hb : Nat) (n1 o1 : Option Addr) (w : World) (h1 : At w a (nodeC i n1 o1 hb) 66) :
    Calls Try.prog 14 #[.pointer (some ⟨a, 0, none⟩)] w fun e w' => e = .returned (.pointer o1) ∧ w = w' := by
  have c1 := h1.cell 33 rfl
  clear h1
  go_enter Try.func14, Try.ntmps14
  go_wp2
  go_ret
  exact ⟨rfl, rfl⟩

theorem tokens_calls (b : Nat) (s : ByteArray) (n : Int) (w : World) (h1 : At w b (holdC s n) 77) :
    Calls Try.prog 16 #[.pointer (some ⟨b, 0, none⟩)] w fun e w' => e = .returned (.int .i64 n) ∧ w = w' := by
  have c1 := h1.cell 12 rfl
  clear h1
  go_enter Try.func16, Try.ntmps16
  go_wp2
  go_ret
  exact ⟨rfl, rfl⟩
end Go.Proofs.Qxb6613886a
