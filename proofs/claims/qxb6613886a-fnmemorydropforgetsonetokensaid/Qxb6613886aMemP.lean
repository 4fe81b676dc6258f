/-
  Pointers compared.
-/
import Derived.Test.Qxb6613886aMemD
import Derived.LaidEqlPtr
namespace Go.Proofs.Qxb6613886a
open Go.RowKit

/-- A pointer that is nil or leads to cells. -/
def Live (w : World) (p : Option Nat) : Prop := ∀ x, p = some x → ∃ cs t, At w x cs t

theorem Live.drewN {w : World} {p : Option Nat} (h : Live w p) (n : Nat) : Live (w.drewN n) p := fun x hx => by
  obtain ⟨cs, t, ha⟩ := h x hx; exact ⟨cs, t, ha⟩

theorem equalP {tp te : TypeId} {j : TypeInfo} (hp : Try.prog.underlying tp = some (.pointer te)) (hte : Try.prog.info? te = some j) (hsz : j.size ≠ 0) (w : World) (p q : Option Nat) (lp : Live w p) (lq : Live w q) (d : Nat) :
    (Op.equalIn (d + 1) tp (.pointer (p.map pt)) (.pointer (q.map pt))).run Try.prog w = .ok (p == q) w := by
  cases p with
  | none => cases q with
    | none => simp [Op.equalIn, run_underlying hp]
    | some y => simp [Op.equalIn, run_underlying hp]
  | some x => cases q with
    | none => simp [Op.equalIn, run_underlying hp]
    | some y =>
      by_cases h : x = y
      · subst h
        simp [Op.equalIn, run_underlying hp, sizeOf, typeInfo, hte, run_sameAddr_same]
      · obtain ⟨c1, t1, h1⟩ := lp x rfl
        obtain ⟨c2, t2, h2⟩ := lq y rfl
        have hne : pt x ≠ pt y := fun e => h (by injection e)
        have := run_sameAddr_other (P := Try.prog) w hne h1 h2
        simp [Op.equalIn, run_underlying hp, sizeOf, typeInfo, hte, hsz, this, h]

theorem eqlP {tp te : TypeId} {j : TypeInfo} (hp : Try.prog.underlying tp = some (.pointer te)) (hte : Try.prog.info? te = some j) (hsz : j.size ≠ 0) (w : World) (p q : Option Nat) (lp : Live w p) (lq : Live w q) :
    (binOp .eql tp (.pointer (p.map pt)) (.pointer (q.map pt))).run Try.prog w = .ok (.bool (p == q)) w := by
  simp only [binOp]
  simp [Op.equal, Op.maxDepth, equalP hp hte hsz w p q lp lq 9999]

theorem neqP {tp te : TypeId} {j : TypeInfo} (hp : Try.prog.underlying tp = some (.pointer te)) (hte : Try.prog.info? te = some j) (hsz : j.size ≠ 0) (w : World) (p q : Option Nat) (lp : Live w p) (lq : Live w q) :
    (binOp .neq tp (.pointer (p.map pt)) (.pointer (q.map pt))).run Try.prog w = .ok (.bool (!(p == q))) w := by
  simp only [binOp]
  simp [Op.equal, Op.maxDepth, equalP hp hte hsz w p q lp lq 9999]

theorem info66 : ∃ j, Try.prog.info? 66 = some j ∧ j.size ≠ 0 := by
  have h : (Try.prog.info? 66).map (·.size) = some 39 := by kernel_rfl
  obtain ⟨j, h1, h2⟩ := Option.map_eq_some_iff.1 h
  exact ⟨j, h1, by rw [h2]; decide⟩
theorem info77 : ∃ j, Try.prog.info? 77 = some j ∧ j.size ≠ 0 := by
  have h : (Try.prog.info? 77).map (·.size) = some 13 := by kernel_rfl
  obtain ⟨j, h1, h2⟩ := Option.map_eq_some_iff.1 h
  exact ⟨j, h1, by rw [h2]; decide⟩

theorem eql42 (w : World) (p q : Option Nat) (lp : Live w p) (lq : Live w q) : (binOp .eql 42 (.pointer (p.map pt)) (.pointer (q.map pt))).run Try.prog w = .ok (.bool (p == q)) w := by
  obtain ⟨j, h1, h2⟩ := info77
  exact eqlP Try.underlying42 h1 h2 w p q lp lq
theorem neq42 (w : World) (p q : Option Nat) (lp : Live w p) (lq : Live w q) : (binOp .neq 42 (.pointer (p.map pt)) (.pointer (q.map pt))).run Try.prog w = .ok (.bool (!(p == q))) w := by
  obtain ⟨j, h1, h2⟩ := info77
  exact neqP Try.underlying42 h1 h2 w p q lp lq
theorem neq32 (w : World) (p q : Option Nat) (lp : Live w p) (lq : Live w q) : (binOp .neq 32 (.pointer (p.map pt)) (.pointer (q.map pt))).run Try.prog w = .ok (.bool (!(p == q))) w := by
  obtain ⟨j, h1, h2⟩ := info66
  exact neqP Try.underlying32 h1 h2 w p q lp lq
end Go.Proofs.Qxb6613886a
