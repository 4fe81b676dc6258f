/-
  The plain law of Peers: lists alone.
-/
import Derived.Test.Qxb6612844aPeersM
namespace Go.Proofs.Qxb6612844a

theorem anyID_mkM : ∀ (L : List Int) (A : List ByteArray) (x : Int), L.length = A.length → anyID (mkM L A) x = inL L x
  | [], A, x, _ => by cases A <;> rfl
  | y :: r, [], x, h => by simp at h
  | y :: r, z :: s, x, h => by
    have ih := anyID_mkM r s x (by simpa using h)
    unfold anyID inL at *
    have e : mkM (y :: r) (z :: s) = (y, z) :: mkM r s := rfl
    rw [e, List.any_cons, List.any_cons, ih]

theorem nod_tail {x : Int} {r : List Int} (h : Nod (x :: r)) : Nod r := by
  intro i j hij hj
  have := h (i + 1) (j + 1) (by omega) (by simpa using hj)
  simpa using this

theorem nod_inj {L : List Int} (h : Nod L) {i j : Nat} (hi : i < L.length) (hj : j < L.length) (e : L[i]! = L[j]!) : i = j := by
  rcases Nat.lt_trichotomy i j with h1 | h1 | h1
  · exact absurd e (h i j h1 hj)
  · exact h1
  · exact absurd e.symm (h j i h1 hi)

/-- The members of Old that are not among Members, among the first k. -/
def oldOnly (Lm : List Int) (old : List M) (k : Nat) : List M := (old.take k).filter (fun x => !inL Lm x.1)

theorem any_append_false {l l' : List M} {x : Int} : anyID (l ++ l') x = (anyID l x || anyID l' x) := by
  unfold anyID; rw [List.any_append]

theorem votes_eq {Lm Lo : List Int} {Am Ao : List ByteArray} (hm : Lm.length = Am.length) (ho : Lo.length = Ao.length) (hn : Nod Lo) : ∀ k, k ≤ Lo.length → votes (mkM Lm Am) (mkM Lo Ao) k = mkM Lm Am ++ oldOnly Lm (mkM Lo Ao) k
  | 0, _ => by simp [votes, oldOnly]
  | k + 1, hk => by
    have ih := votes_eq hm ho hn k (by omega)
    have hkm : k < (mkM Lo Ao).length := by rw [mkM_len ho]; omega
    have hget := mkM_get ho k (by omega)
    have hno : anyID (oldOnly Lm (mkM Lo Ao) k) Lo[k]! = false := by
      unfold anyID
      rw [List.any_eq_false]
      intro y hy
      unfold oldOnly at hy
      have hy1 := (List.mem_filter.1 hy).1
      obtain ⟨j, hj, rfl⟩ := List.mem_iff_getElem.1 hy1
      have hjk : j < k := by simp at hj; omega
      have e1 : ((mkM Lo Ao).take k)[j] = (mkM Lo Ao)[j]! := by
        rw [getElem!_pos (mkM Lo Ao) j (by omega)]; simp
      rw [e1, mkM_get ho j (by omega)]
      have := hn j k hjk (by omega)
      simpa using this
    unfold votes
    rw [hget, ih, any_append_false, anyID_mkM Lm Am _ hm, hno, Bool.or_false]
    have e2 : oldOnly Lm (mkM Lo Ao) (k + 1) = oldOnly Lm (mkM Lo Ao) k ++ (if inL Lm Lo[k]! then [] else [(Lo[k]!, Ao[k]!)]) := by
      unfold oldOnly
      rw [take_succ_get _ k hkm, List.filter_append, hget]
      cases h : inL Lm Lo[k]! with
      | true =>
        generalize Lo[k]! = u at h
        simp [h]
      | false =>
        generalize Lo[k]! = u at h
        simp [h]
    rw [e2]
    cases h : inL Lm Lo[k]! with
    | true => simp
    | false => simp

/-- All voters. -/
def allV (Lm Lo : List Int) (Am Ao : List ByteArray) : List M := mkM Lm Am ++ (mkM Lo Ao).filter (fun x => !inL Lm x.1)

theorem votes_all {Lm Lo : List Int} {Am Ao : List ByteArray} (hm : Lm.length = Am.length) (ho : Lo.length = Ao.length) (hn : Nod Lo) : votes (mkM Lm Am) (mkM Lo Ao) (mkM Lo Ao).length = allV Lm Lo Am Ao := by
  rw [mkM_len ho, votes_eq hm ho hn _ (Nat.le_refl _)]
  unfold oldOnly allV
  rw [List.take_of_length_le (by rw [mkM_len ho]; exact Nat.le_refl _)]

theorem filter_len_cnt (q : Int → Bool) (L : List Int) (A : List ByteArray) (h : L.length = A.length) : ((mkM L A).filter (fun x => q x.1)).length = cnt q L L.length := by
  rw [← filter_take_len q L A L.length h, List.take_of_length_le (by rw [mkM_len h]; exact Nat.le_refl _)]

/-- How many voters there are but self. -/
theorem allV_count {Lm Lo : List Int} {Am Ao : List ByteArray} (hm : Lm.length = Am.length) (ho : Lo.length = Ao.length) (self : Int) : ((allV Lm Lo Am Ao).filter (fun x => !(x.1 == self))).length = vcount self Lm Lo := by
  unfold allV vcount
  rw [List.filter_append, List.length_append, List.filter_filter]
  have e1 := filter_len_cnt (notSelf self) Lm Am hm
  have e2 := filter_len_cnt (notSelfNotIn self Lm) Lo Ao ho
  unfold notSelf at e1
  unfold notSelfNotIn at e2
  rw [e1, e2]
  rfl

theorem mem_mkM {L : List Int} {A : List ByteArray} (h : L.length = A.length) {x : M} (hx : x ∈ mkM L A) : ∃ j, j < L.length ∧ L[j]! = x.1 ∧ A[j]! = x.2 := by
  obtain ⟨j, hj, rfl⟩ := List.mem_iff_getElem.1 hx
  rw [mkM_len h] at hj
  refine ⟨j, hj, ?_⟩
  have := mkM_get h j hj
  rw [getElem!_pos (mkM L A) j (by rw [mkM_len h]; exact hj)] at this
  rw [this]
  exact ⟨rfl, rfl⟩

/-- Where a voter stands in the configuration. -/
def FromConf (Lm Lo : List Int) (Am Ao : List ByteArray) (x : M) : Prop :=
  (∃ j, j < Lm.length ∧ Lm[j]! = x.1 ∧ (∀ i, i < j → Lm[i]! ≠ x.1) ∧ Am[j]! = x.2) ∨ (inL Lm x.1 = false ∧ ∃ j, j < Lo.length ∧ Lo[j]! = x.1 ∧ (∀ i, i < j → Lo[i]! ≠ x.1) ∧ Ao[j]! = x.2)

theorem fromConf {Lm Lo : List Int} {Am Ao : List ByteArray} (hm : Lm.length = Am.length) (ho : Lo.length = Ao.length) (n1 : Nod Lm) (n2 : Nod Lo) {x : M} (hx : x ∈ allV Lm Lo Am Ao) : FromConf Lm Lo Am Ao x := by
  unfold allV at hx
  rcases List.mem_append.1 hx with h | h
  · obtain ⟨j, hj, e1, e2⟩ := mem_mkM hm h
    exact .inl ⟨j, hj, e1, fun i hi he => absurd (nod_inj n1 (by omega) hj (he.trans e1.symm)) (by omega), e2⟩
  · obtain ⟨h1, h2⟩ := List.mem_filter.1 h
    obtain ⟨j, hj, e1, e2⟩ := mem_mkM ho h1
    exact .inr ⟨by simpa using h2, j, hj, e1, fun i hi he => absurd (nod_inj n2 (by omega) hj (he.trans e1.symm)) (by omega), e2⟩

theorem nod_pair : ∀ (L : List Int) (A : List ByteArray), L.length = A.length → Nod L → (mkM L A).Pairwise (fun x y => x.1 ≠ y.1) := by
  intro L A h hn
  rw [List.pairwise_iff_getElem]
  intro i j hi hj hij
  have hi' : i < L.length := by rw [mkM_len h] at hi; exact hi
  have hj' : j < L.length := by rw [mkM_len h] at hj; exact hj
  have e1 := mkM_get h i hi'
  have e2 := mkM_get h j hj'
  rw [getElem!_pos (mkM L A) i hi] at e1
  rw [getElem!_pos (mkM L A) j hj] at e2
  rw [e1, e2]
  exact hn i j hij hj'

/-- No two voters bear one id. -/
theorem allV_pair {Lm Lo : List Int} {Am Ao : List ByteArray} (hm : Lm.length = Am.length) (ho : Lo.length = Ao.length) (n1 : Nod Lm) (n2 : Nod Lo) : (allV Lm Lo Am Ao).Pairwise (fun x y => x.1 ≠ y.1) := by
  unfold allV
  rw [List.pairwise_append]
  refine ⟨nod_pair Lm Am hm n1, List.Pairwise.filter _ (nod_pair Lo Ao ho n2), fun x hx y hy he => ?_⟩
  obtain ⟨h1, h2⟩ := List.mem_filter.1 hy
  obtain ⟨j, hj, e1, -⟩ := mem_mkM hm hx
  have h3 : inL Lm y.1 = false := by simpa using h2
  exact inL_false h3 j hj (e1.trans he)

/-- The sorted voters but self: strictly ascending. -/
theorem strict_of {S : List M} (hs : S.Pairwise (fun x y => x.1 ≤ y.1)) (hd : S.Pairwise (fun x y => x.1 ≠ y.1)) : S.Pairwise (fun x y => x.1 < y.1) :=
  (hs.and hd).imp (fun h => by have := h.1; have := h.2; omega)

/-- What the law asks of the first k of Peers. -/
structure Front (self : Int) (Lm Lo : List Int) (Am Ao : List ByteArray) (k : Nat) (G : List M) : Prop where
  le : k ≤ G.length
  notSelf : ∀ i, i < k → G[i]!.1 ≠ self
  up : ∀ i, 0 < i → i < k → G[i - 1]!.1 < G[i]!.1
  conf : ∀ i, i < k → FromConf Lm Lo Am Ao G[i]!

theorem front_of {self : Int} {Lm Lo : List Int} {Am Ao : List ByteArray} {S R : List M} (hm : Lm.length = Am.length) (ho : Lo.length = Ao.length) (n1 : Nod Lm) (n2 : Nod Lo) (hp : S.Perm (allV Lm Lo Am Ao)) (hs : S.Pairwise (fun x y => x.1 ≤ y.1)) :
    Front self Lm Lo Am Ao (vcount self Lm Lo) (S.filter (fun x => !(x.1 == self)) ++ R) ∧ (S.filter (fun x => !(x.1 == self)) ++ R).drop (vcount self Lm Lo) = R ∧ (S.filter (fun x => !(x.1 == self))).length = vcount self Lm Lo := by
  have hlen : (S.filter (fun x => !(x.1 == self))).length = vcount self Lm Lo := by
    rw [← allV_count hm ho self]
    exact (hp.filter _).length_eq
  have hd : S.Pairwise (fun x y => x.1 ≠ y.1) := (hp.pairwise_iff (fun h => Ne.symm h)).2 (allV_pair hm ho n1 n2)
  have hst : (S.filter (fun x => !(x.1 == self))).Pairwise (fun x y => x.1 < y.1) := List.Pairwise.filter _ (strict_of hs hd)
  have hget : ∀ i, i < vcount self Lm Lo → (S.filter (fun x => !(x.1 == self)) ++ R)[i]! = (S.filter (fun x => !(x.1 == self)))[i]! := by
    intro i hi
    rw [getElem!_pos (S.filter (fun x => !(x.1 == self)) ++ R) i (by simp only [List.length_append]; omega), getElem!_pos (S.filter (fun x => !(x.1 == self))) i (by omega)]
    rw [List.getElem_append_left]
  have hmem : ∀ i, i < vcount self Lm Lo → (S.filter (fun x => !(x.1 == self)))[i]! ∈ S.filter (fun x => !(x.1 == self)) := by
    intro i hi
    rw [getElem!_pos (S.filter (fun x => !(x.1 == self))) i (by omega)]
    exact List.getElem_mem _
  refine ⟨⟨?_, ?_, ?_, ?_⟩, ?_, hlen⟩
  · rw [List.length_append]; omega
  · intro i hi
    rw [hget i hi]
    have := (List.mem_filter.1 (hmem i hi)).2
    simpa using this
  · intro i h0 hi
    rw [hget i hi, hget (i - 1) (by omega)]
    rw [getElem!_pos (S.filter (fun x => !(x.1 == self))) i (by omega), getElem!_pos (S.filter (fun x => !(x.1 == self))) (i - 1) (by omega)]
    exact (List.pairwise_iff_getElem.1 hst) (i - 1) i _ _ (by omega)
  · intro i hi
    rw [hget i hi]
    exact fromConf hm ho n1 n2 ((hp.mem_iff).1 (List.mem_filter.1 (hmem i hi)).1)
  · rw [← hlen]; simp

theorem nonv_tail {self role : Int} {at' : Option Addr} {Lm Lt : List Int} {Am At : List ByteArray} (hm : Lm.length = Am.length) :
    (nonv role at' (mkM Lt At) (mkM Lm Am)).filter (fun x => !(x.1 == self)) = if ((role == 2) && at'.isSome) = true then tailM self Lm Lt At else [] := by
  unfold nonv
  split
  · unfold tailM
    rw [List.filter_filter]
    apply List.filter_congr
    intro x _
    rw [anyID_mkM Lm Am x.1 hm]
    rfl
  · rfl

theorem peers_split (id role : Int) (at' : Option Addr) (tgt mem S : List M) : peersOf id role at' tgt mem S = S.filter (fun x => !(x.1 == id)) ++ (nonv role at' tgt mem).filter (fun x => !(x.1 == id)) := by
  unfold peersOf; rw [List.filter_append]
end Go.Proofs.Qxb6612844a
