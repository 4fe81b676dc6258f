/-
  slices.DeleteFunc at Member, whatever the closure.
-/
import Derived.Test.Qxb6612844aPeersA
import Derived.Shelf.SlicesE.DeleteFunc
namespace Go.Proofs.Qxb6612844a
open Go.RowKit Go.Sort

/-- What stands after j elements were looked at and i of them kept. -/
structure KI (p : M → Bool) (l : List M) (j i : Nat) (dk : List M) : Prop where
  le : i < j
  lt : j ≤ l.length
  len : dk.length = l.length
  kept : dk.take i = (l.take j).filter (fun x => !p x)
  rest : dk.drop j = l.drop j

theorem take_succ_get (l : List M) (j : Nat) (h : j < l.length) : l.take (j + 1) = l.take j ++ [l[j]!] := by
  rw [List.take_succ_eq_append_getElem h, getElem!_pos l j h]

theorem KI.start {p : M → Bool} {l : List M} {k : Nat} (hk : k < l.length) (hp : p l[k]! = true) (ha : ∀ j, j < k → p l[j]! = false) : KI p l (k + 1) k l := by
  refine ⟨by omega, hk, rfl, ?_, rfl⟩
  rw [take_succ_get l k hk, List.filter_append]
  have e1 : (l.take k).filter (fun x => !p x) = l.take k := by
    rw [List.filter_eq_self]
    intro x hx
    obtain ⟨j, hj, rfl⟩ := List.mem_iff_getElem.1 hx
    have hjk : j < k := by simp at hj; omega
    have := ha j hjk
    rw [getElem!_pos l j (by omega)] at this
    simp [this]
  rw [e1]
  generalize l[k]! = u at hp
  simp [hp]

theorem KI.skip {p : M → Bool} {l dk : List M} {j i : Nat} (h : KI p l j i dk) (hj : j < l.length) (hp : p l[j]! = true) : KI p l (j + 1) i dk := by
  refine ⟨by have := h.le; omega, hj, h.len, ?_, ?_⟩
  · rw [take_succ_get l j hj, List.filter_append, h.kept]
    generalize l[j]! = u at hp
    simp [hp]
  · rw [← List.drop_drop, ← List.drop_drop, h.rest]

theorem KI.keep {p : M → Bool} {l dk : List M} {j i : Nat} (h : KI p l j i dk) (hj : j < l.length) (hp : p l[j]! = false) : KI p l (j + 1) (i + 1) (dk.set i l[j]!) := by
  have hle := h.le
  refine ⟨by omega, hj, by rw [List.length_set]; exact h.len, ?_, ?_⟩
  · rw [take_succ_get l j hj, List.filter_append, ← h.kept]
    have hi : i < dk.length := by rw [h.len]; omega
    generalize l[j]! = u at hp
    rw [List.take_succ_eq_append_getElem (by simpa using hi), List.getElem_set_self]
    rw [List.take_set_of_le (Nat.le_refl _)]
    simp [hp]
  · rw [List.drop_set_of_lt (by omega), ← List.drop_drop, ← List.drop_drop, h.rest]

theorem KI.get {p : M → Bool} {l dk : List M} {j i : Nat} (h : KI p l j i dk) (hj : j < l.length) : dk[j]! = l[j]! := by
  have hd : j < dk.length := by rw [h.len]; exact hj
  rw [getElem!_pos dk j hd, getElem!_pos l j hj]
  have h1 : (dk.drop j)[0]? = (l.drop j)[0]? := by rw [h.rest]
  simpa [hd, hj] using h1

theorem flat_set (l : List M) (x : M) : ∀ (i : Nat), ((l.flatMap encM).set (i * 2) (.int .u64 x.1)).set (i * 2 + 1) (.string x.2) = (l.set i x).flatMap encM := by
  induction l with
  | nil => intro i; rfl
  | cons y r ih =>
    intro i
    cases i with
    | zero => rfl
    | succ i =>
      have e1 : (i + 1) * 2 = i * 2 + 2 := by omega
      rw [e1]
      show (((encM y ++ r.flatMap encM).set (i * 2 + 2) _).set (i * 2 + 2 + 1) _) = encM y ++ (r.set i x).flatMap encM
      rw [← ih i]
      simp [encM, List.set]
end Go.Proofs.Qxb6612844a
