/-
  Rows that are known whole; counts; what is known of the two maps. No Go in sight.
-/
import Derived.Test.Qxb6613886aMemF
namespace Go.Proofs.Qxb6613886a
open Go.RowKit Go.ChangeMaps Go.MapKept

/-- A row of n cells, by a function. -/
def rowOf (n : Nat) (f : Nat → Value) : Array Value := ((List.range n).map f).toArray

theorem rowOf_size (n : Nat) (f : Nat → Value) : (rowOf n f).size = n := by simp [rowOf]
theorem rowOf_get {n : Nat} (f : Nat → Value) {j : Nat} (hj : j < n) : (rowOf n f)[j]? = some (f j) := by simp [rowOf, hj]
theorem rowOf_congr {n : Nat} {f f' : Nat → Value} (h : ∀ j, j < n → f j = f' j) : rowOf n f = rowOf n f' := by
  unfold rowOf; congr 1; exact List.map_congr_left (fun j hj => h j (by simpa using hj))
theorem rowOf_set {n : Nat} {f f' : Nat → Value} {k : Nat} {v : Value} (hk : f' k = v) (h : ∀ j, j < n → j ≠ k → f' j = f j) : (rowOf n f).setIfInBounds k v = rowOf n f' := by
  apply Array.ext_getElem?
  intro j
  rw [Array.getElem?_setIfInBounds, rowOf_size]
  by_cases hj : j < n
  · rw [rowOf_get f' hj, rowOf_get f hj]
    by_cases e : k = j
    · subst e; simp [hj, hk]
    · rw [if_neg e, h j hj (Ne.symm e)]
  · rw [Array.getElem?_eq_none (by rw [rowOf_size]; omega), Array.getElem?_eq_none (by rw [rowOf_size]; omega)]
    by_cases e : k = j
    · rw [if_pos e, if_neg (by omega)]
    · rw [if_neg e]

theorem at_made {w : World} {base g n : Nat} {e : TypeId} {z : Value} (hz : z.cells = #[z]) (h : w.ownsRow base e 1 (.slice (some ⟨g, 0, none⟩) n n) n (madeCells z.cells (n * 1)).toList) : At w g (rowOf n (fun _ => z)) e := by
  rcases h.2 with ⟨hv, -⟩ | ⟨g', cap, cur, hv, -, hh, -, -, hs, ht⟩
  · cases hv
  · simp only [Value.slice.injEq, Option.some.injEq, Addr.mk.injEq] at hv
    obtain ⟨⟨rfl, -⟩, -, rfl⟩ := hv
    have e1 : cur = rowOf n (fun _ => z) := by
      have h1 : cur.toList.take (n * 1) = cur.toList := List.take_of_length_le (by rw [Array.length_toList, hs]; exact Nat.le_refl _)
      rw [h1] at ht
      apply Array.toList_inj.1
      rw [ht, hz]
      apply List.ext_getElem?
      intro j
      by_cases hj : j < n
      · simp [madeCells, rowOf, hj, Nat.mod_one]
      · rw [List.getElem?_eq_none (by simp [madeCells]; omega), List.getElem?_eq_none (by simp [rowOf]; omega)]
    rw [← e1]
    exact hh

/-- How many of the first k tokens name holder j. -/
def cntTo (L : List Int) (k j : Nat) : Nat := ((L.take k).filter (fun x => x == (j : Int))).length

theorem cntTo_zero (L : List Int) (j : Nat) : cntTo L 0 j = 0 := by simp [cntTo]
theorem cntTo_succ (L : List Int) (k j : Nat) (hk : k < L.length) : cntTo L (k + 1) j = cntTo L k j + (if L[k]! = (j : Int) then 1 else 0) := by
  unfold cntTo
  rw [List.take_add_one, List.filter_append, List.length_append, List.getElem?_eq_getElem hk, getElem!_pos L k hk]
  simp only [Option.toList, List.filter_cons, List.filter_nil]
  by_cases h : L[k] = (j : Int)
  · simp [h]
  · simp [h]
theorem cntTo_le (L : List Int) (k j : Nat) : cntTo L k j ≤ k := by
  unfold cntTo
  exact Nat.le_trans (List.length_filter_le _ _) (by simp; omega)

/-- How many there are in all. -/
def cnt (L : List Int) (j : Nat) : Nat := cntTo L L.length j

/-- .. but for token v. -/
def remTo (L : List Int) (v k : Nat) (j : Nat) : Nat := cntTo L k j - (if v < k ∧ L[v]! = (j : Int) then 1 else 0)

theorem cnt_pos_of (L : List Int) {v k : Nat} {j : Nat} (hk : k ≤ L.length) (hv : v < k) (hj : L[v]! = (j : Int)) : 0 < cntTo L k j := by
  unfold cntTo
  have hvl : v < L.length := by omega
  have : L[v]! ∈ (L.take k).filter (fun x => x == (j : Int)) := by
    rw [List.mem_filter]
    refine ⟨?_, by simp [hj]⟩
    rw [getElem!_pos L v hvl]
    exact List.mem_take_iff_getElem.2 ⟨v, by omega, rfl⟩
  exact List.length_pos_of_mem this

theorem remTo_succ (L : List Int) (v k j : Nat) (hk : k < L.length) : remTo L v (k + 1) j = remTo L v k j + (if k ≠ v ∧ L[k]! = (j : Int) then 1 else 0) := by
  unfold remTo
  rw [cntTo_succ L k j hk]
  by_cases e : k = v
  · subst e
    by_cases h : L[k]! = (j : Int)
    · rw [if_pos h, if_pos ⟨by omega, h⟩, if_neg (by omega), if_neg (by simp)]; omega
    · rw [if_neg h, if_neg (fun h' => h h'.2), if_neg (by omega), if_neg (by simp)]; omega
  · by_cases hv : v < k
    · by_cases hj : L[v]! = (j : Int)
      · have := cnt_pos_of L (Nat.le_of_lt hk) hv hj
        simp only [hj, and_true, hv, show v < k + 1 by omega, if_true, ne_eq, e, not_false_eq_true, true_and]
        split <;> omega
      · have n1 : ¬ (v < k + 1 ∧ L[v]! = (j : Int)) := fun h' => hj h'.2
        have n2 : ¬ (v < k ∧ L[v]! = (j : Int)) := fun h' => hj h'.2
        rw [if_neg n1, if_neg n2]; simp only [ne_eq, e, not_false_eq_true, true_and]; omega
    · have h1 : ¬ v < k + 1 := by omega
      simp [hv, h1, e]

/-- What is known of the holders' map when j holders stand. -/
structure HInv (K : List ByteArray) (c : Nat → Nat) (HP : Nat → Option Nat) (mp : Nat → Bool) (j : Nat) (D : Dt) : Prop where
  pos : ∀ x, x < j → mp x = true → 0 < c x
  hit : ∀ x, x < j → mp x = true → Maps.has D (sk K[x]!) = true ∧ ∃ b, HP x = some b ∧ D.atKey (sk K[x]!) .nil = .lit (.int .i64 (b : Nat))
  only : ∀ y : Nat, Maps.has D (sk K[y]!) = true → ∃ x, x < j ∧ mp x = true ∧ K[x]! = K[y]!
  uniq : ∀ x y, x < j → y < j → mp x = true → mp y = true → K[x]! = K[y]! → x = y
  size : Maps.size D = ((List.range j).filter mp).length

theorem hinv_zero (K : List ByteArray) (c : Nat → Nat) (HP : Nat → Option Nat) (mp : Nat → Bool) : HInv K c HP mp 0 (.map []) :=
  ⟨fun x h => absurd h (Nat.not_lt_zero _), fun x h => absurd h (Nat.not_lt_zero _), fun y h => by simp [Maps.has] at h, fun x y h => absurd h (Nat.not_lt_zero _), by simp [Maps.size]⟩

theorem filter_range_succ (mp mp' : Nat → Bool) (j : Nat) (h : ∀ x, x < j → mp' x = mp x) : ((List.range (j + 1)).filter mp').length = ((List.range j).filter mp).length + (if mp' j then 1 else 0) := by
  rw [List.range_succ, List.filter_append, List.length_append]
  have e : (List.range j).filter mp' = (List.range j).filter mp := List.filter_congr (fun x hx => h x (by simpa using hx))
  rw [e]
  cases h2 : mp' j <;> simp [h2]

theorem hinv_skip {K : List ByteArray} {c : Nat → Nat} {HP HP' : Nat → Option Nat} {mp mp' : Nat → Bool} {j : Nat} {D : Dt} (h : HInv K c HP mp j D) (h1 : ∀ x, x < j → mp' x = mp x) (h2 : mp' j = false) (h3 : ∀ x, x < j → HP' x = HP x) : HInv K c HP' mp' (j + 1) D := by
  have lt : ∀ x, x < j + 1 → mp' x = true → x < j := fun x hx hm => by
    by_cases e : x = j
    · subst e; rw [h2] at hm; cases hm
    · omega
  refine ⟨fun x hx hm => h.pos x (lt x hx hm) (by rw [← h1 x (lt x hx hm)]; exact hm), fun x hx hm => ?_, fun y hy => ?_, fun x y hx hy mx my => ?_, ?_⟩
  · rw [h3 x (lt x hx hm)]; exact h.hit x (lt x hx hm) (by rw [← h1 x (lt x hx hm)]; exact hm)
  · obtain ⟨x, hx, hm, he⟩ := h.only y hy
    exact ⟨x, by omega, by rw [h1 x hx]; exact hm, he⟩
  · exact h.uniq x y (lt x hx mx) (lt y hy my) (by rw [← h1 x (lt x hx mx)]; exact mx) (by rw [← h1 y (lt y hy my)]; exact my)
  · rw [h.size, filter_range_succ mp mp' j h1, h2]; simp

theorem hinv_put {K : List ByteArray} {c : Nat → Nat} {HP HP' : Nat → Option Nat} {mp mp' : Nat → Bool} {j b : Nat} {D : Dt} (h : HInv K c HP mp j D) (ht : Maps.Tidy D) (hk : WideAt.IsKeyLit (sk K[j]!)) (hn : Maps.has D (sk K[j]!) = false) (hc : 0 < c j)
    (h1 : ∀ x, x < j → mp' x = mp x) (h2 : mp' j = true) (h3 : ∀ x, x < j → HP' x = HP x) (h4 : HP' j = some b) : HInv K c HP' mp' (j + 1) (D.put (sk K[j]!) (.lit (.int .i64 b))) := by
  have hne : ∀ x, x < j → mp x = true → K[x]! ≠ K[j]! := fun x hx hm e => by
    have := (h.hit x hx hm).1
    rw [e, hn] at this; cases this
  have hne' : ∀ x, x < j → mp x = true → sk K[x]! ≠ sk K[j]! := fun x hx hm e => hne x hx hm (sk_inj e)
  refine ⟨fun x hx hm => ?_, fun x hx hm => ?_, fun y hy => ?_, fun x y hx hy mx my => ?_, ?_⟩
  · by_cases e : x = j
    · subst e; exact hc
    · exact h.pos x (by omega) (by rw [← h1 x (by omega)]; exact hm)
  · by_cases e : x = j
    · subst e
      exact ⟨Maps.has_put_same ht.isMap hk _, b, h4, Maps.atKey_put_same ht.isMap hk _ _⟩
    · have hx' : x < j := by omega
      have hm' : mp x = true := by rw [← h1 x hx']; exact hm
      obtain ⟨g1, b', g2, g3⟩ := h.hit x hx' hm'
      exact ⟨by rw [Maps.has_put_other (hne' x hx' hm')]; exact g1, b', by rw [h3 x hx']; exact g2, by rw [Maps.atKey_put_other (hne' x hx' hm')]; exact g3⟩
  · by_cases e : sk K[y]! = sk K[j]!
    · exact ⟨j, by omega, h2, (sk_inj e).symm⟩
    · rw [Maps.has_put_other e] at hy
      obtain ⟨x, hx, hm, he⟩ := h.only y hy
      exact ⟨x, by omega, by rw [h1 x hx]; exact hm, he⟩
  · intro he
    by_cases ex : x = j
    · by_cases ey : y = j
      · omega
      · subst ex
        exact absurd he.symm (hne y (by omega) (by rw [← h1 y (by omega)]; exact my))
    · by_cases ey : y = j
      · subst ey
        exact absurd he (hne x (by omega) (by rw [← h1 x (by omega)]; exact mx))
      · exact h.uniq x y (by omega) (by omega) (by rw [← h1 x (by omega)]; exact mx) (by rw [← h1 y (by omega)]; exact my) he
  · rw [Maps.size_put ht, hn, h.size, filter_range_succ mp mp' j h1, h2]; simp

/-- What is known of the tokens' map when i tokens stand. -/
structure EInv (NP : Nat → Option Nat) (i : Nat) (D : Dt) : Prop where
  hit : ∀ x, x < i → Maps.has D (kd x) = true ∧ ∃ b, NP x = some b ∧ D.atKey (kd x) .nil = .lit (.int .i64 (b : Nat))
  miss : ∀ x, i ≤ x → x < 65536 → Maps.has D (kd x) = false
  size : Maps.size D = i

theorem einv_zero (NP : Nat → Option Nat) : EInv NP 0 (.map []) :=
  ⟨fun x h => absurd h (Nat.not_lt_zero _), fun x _ _ => by simp [Maps.has], by simp [Maps.size]⟩

theorem einv_put {NP NP' : Nat → Option Nat} {i b : Nat} {D : Dt} (h : EInv NP i D) (ht : Maps.Tidy D) (hi : i < 65536) (h3 : ∀ x, x < i → NP' x = NP x) (h4 : NP' i = some b) : EInv NP' (i + 1) (D.put (kd i) (.lit (.int .i64 b))) := by
  have hk := key37.key (keyD i)
  refine ⟨fun x hx => ?_, fun x hx hx2 => ?_, ?_⟩
  · by_cases e : x = i
    · subst e
      exact ⟨Maps.has_put_same ht.isMap hk _, b, h4, Maps.atKey_put_same ht.isMap hk _ _⟩
    · have hne : kd x ≠ kd i := fun e' => e (kd_inj (by omega) hi e')
      obtain ⟨g1, b', g2, g3⟩ := h.hit x (by omega)
      exact ⟨by rw [Maps.has_put_other hne]; exact g1, b', by rw [h3 x (by omega)]; exact g2, by rw [Maps.atKey_put_other hne]; exact g3⟩
  · have hne : kd x ≠ kd i := fun e' => by have := kd_inj (by omega) hi e'; omega
    rw [Maps.has_put_other hne]
    exact h.miss x (by omega) hx2
  · rw [Maps.size_put ht, h.miss i (Nat.le_refl _) hi, h.size]; simp
end Go.Proofs.Qxb6613886a
