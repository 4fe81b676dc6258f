/-
  Members in memory: a slice of Member (two cells an element), read or owned; slices.Clone, hasID, slices.DeleteFunc at Member.
-/
import Derived.Test.Qxb6612844aRows
import Derived.Test.Qxb6612844aShelf
import Derived.WalkKit
import Derived.WalkSpells
import Derived.WalkSmall
import Derived.Below
import Derived.Outline
import Derived.LoopN
import Derived.StillTactics
import Derived.Laws.Pointers
import Derived.RegionTactic
import Derived.Deep.QuietTactic
import Derived.BigQuiet
import Derived.Deep.RegionHeld3
import Derived.Deep.AppendLies
import Derived.Maps.AppendAt
import Derived.Maps.Range
import Derived.Laws.OwnMore
namespace Go.Proofs.Qxb6612844a
open Go.RowKit Go.Sort

abbrev M := Int × ByteArray
def encM (x : M) : List Value := [.int .u64 x.1, .string x.2]

theorem flat_len (l : List M) : (l.flatMap encM).length = l.length * 2 := by
  induction l with
  | nil => rfl
  | cons x r ih => simp [encM] at ih ⊢; omega

theorem flat_get : ∀ (l : List M) (j : Nat), j < l.length → (l.flatMap encM)[j * 2]? = some (.int .u64 l[j]!.1) ∧ (l.flatMap encM)[j * 2 + 1]? = some (.string l[j]!.2)
  | [], j, h => absurd h (Nat.not_lt_zero _)
  | x :: r, 0, _ => ⟨rfl, rfl⟩
  | x :: r, j + 1, h => by
    have ih := flat_get r j (by simpa using h)
    have e1 : (j + 1) * 2 = j * 2 + 2 := by omega
    have e2 : (j + 1) * 2 + 1 = (j * 2 + 1) + 2 := by omega
    rw [e2, e1]
    exact ih

/-- Block g holds the members l from its head on. -/
def Rd (w : World) (g : Nat) (l : List M) : Prop :=
  g < w.heap.size ∧ ∀ j, j < l.length → w.cell? ⟨g, j * 2, none⟩ = some (.int .u64 l[j]!.1) ∧ w.cell? ⟨g, j * 2 + 1, none⟩ = some (.string l[j]!.2)

/-- The slice (a, its length l.length, c) reads as the members l: it is nil, or it begins at the head of a block. -/
def In (w : World) (a : Option Addr) (c : Nat) (l : List M) : Prop := (a = none ∧ c = 0 ∧ l = []) ∨ ∃ g, a = some ⟨g, 0, none⟩ ∧ Rd w g l

/-- .. in memory of the call's own, from block 'base' on. -/
def Own (w : World) (base : Nat) (a : Option Addr) (c : Nat) (l : List M) : Prop := w.ownsRow base 36 2 (.slice a l.length c) l.length (l.flatMap encM)

theorem Rd.flat {w : World} {g : Nat} {l : List M} (h : Rd w g l) (t : Nat) (u : Value) (ht : (l.flatMap encM)[t]? = some u) : w.cell? ⟨g, t, none⟩ = some u := by
  have hlt : t < l.length * 2 := by
    have := (List.getElem?_eq_some_iff.1 ht).1
    rwa [flat_len] at this
  have hj : t / 2 < l.length := by omega
  obtain ⟨f0, f1⟩ := flat_get l (t / 2) hj
  obtain ⟨c0, c1⟩ := h.2 (t / 2) hj
  by_cases e : t % 2 = 0
  · rw [show t / 2 * 2 = t from by omega] at f0 c0
    rw [c0, ← f0, ht]
  · rw [show t / 2 * 2 + 1 = t from by omega] at f1 c1
    rw [c1, ← f1, ht]

theorem Rd.keep {w w' : World} {g : Nat} {l : List M} {row : Option Nat} (h : Rd w g l) (hg : w.grownBy w' row) (hne : some g ≠ row) : Rd w' g l :=
  ⟨Nat.lt_of_lt_of_le h.1 hg.size, fun j hj => ⟨(hg.cell (h.2 j hj).1 hne), (hg.cell (h.2 j hj).2 hne)⟩⟩

theorem In.keep {w w' : World} {a : Option Addr} {c : Nat} {l : List M} (h : In w a c l) (hg : w.grownBy w' none) : In w' a c l := by
  rcases h with h | ⟨g, rfl, h⟩
  · exact .inl h
  · exact .inr ⟨g, rfl, h.keep hg (by simp)⟩

theorem Own.cases {w : World} {base : Nat} {a : Option Addr} {c : Nat} {l : List M} (h : Own w base a c l) :
    (a = none ∧ c = 0 ∧ l = []) ∨ ∃ g, a = some ⟨g, 0, none⟩ ∧ base ≤ g ∧ l.length ≤ c ∧ Rd w g l ∧ ∃ cur, w.heap[g]? = some (.cells cur 36 (0, 0)) ∧ cur.size = c * 2 ∧ c ≤ maxLen := by
  rcases h.2 with ⟨hv, h0⟩ | ⟨g, cap, cur, hv, hb, hh, hnc, hcm, hcs, -⟩
  · left
    simp only [Value.slice.injEq] at hv
    exact ⟨hv.1, hv.2.2, List.length_eq_zero_iff.1 h0⟩
  · right
    simp only [Value.slice.injEq] at hv
    obtain ⟨rfl, -, rfl⟩ := hv
    refine ⟨g, rfl, hb, hnc, ⟨(Array.getElem?_eq_some_iff.1 hh).1, fun j hj => ?_⟩, cur, hh, hcs, hcm⟩
    have hown : w.ownsRow base 36 2 (.slice (some ⟨g, 0, none⟩) l.length c) l.length (l.flatMap encM) := h
    obtain ⟨f0, f1⟩ := flat_get l j hj
    exact ⟨(hown.cellAt (j * 2) (by omega)).trans f0, (hown.cellAt (j * 2 + 1) (by omega)).trans f1⟩

theorem Own.rd {w : World} {base g : Nat} {c : Nat} {l : List M} (h : Own w base (some ⟨g, 0, none⟩) c l) : Rd w g l := by
  rcases h.cases with ⟨h, -⟩ | ⟨g', h, -, -, hr, -⟩
  · cases h
  · cases h; exact hr

theorem Own.read {w : World} {base : Nat} {a : Option Addr} {c : Nat} {l : List M} (h : Own w base a c l) : In w a c l := by
  rcases h.cases with h | ⟨g', h, -, -, hr, -⟩
  · exact .inl h
  · exact .inr ⟨g', h, hr⟩

theorem Own.keep {w w' : World} {base : Nat} {a : Option Addr} {c : Nat} {l : List M} {row : Option Nat} (h : Own w base a c l) (hg : w.grownBy w' row) (hne : ∀ g, a = some ⟨g, 0, none⟩ → some g ≠ row) : Own w' base a c l := by
  refine World.ownsRow.kept h hg ?_
  rcases h.cases with ⟨rfl, -⟩ | ⟨g', rfl, -⟩
  · exact .inl rfl
  · exact .inr (hne g' rfl)

theorem info36 : (Try.prog.info? 36).map (fun i => (i.zero, i.size, i.bytes)) = some (some (.agg #[.int .u64 0, .string ByteArray.empty]), 2, 24) := by kernel_rfl

theorem one_encM (l : List M) : ∀ u ∈ l.flatMap encM, u.oneCell' = true := by
  intro u hu
  rw [List.mem_flatMap] at hu
  obtain ⟨x, -, hx⟩ := hu
  simp [encM] at hx
  rcases hx with rfl | rfl <;> rfl

theorem shape {v' : Value} {w : World} {base n : Nat} {xs : List Value} (h : w.ownsRow base 36 2 v' n xs) : ∃ a c, v' = .slice a n c := by
  rcases h.2 with ⟨hv, h0⟩ | ⟨g, cap, cur, hv, -⟩
  · exact ⟨none, 0, by rw [hv, h0]⟩
  · exact ⟨_, cap, hv⟩
end Go.Proofs.Qxb6612844a
