/-
  What FnPeersLeaderAddsNonVotersAfterVoters (4) asks beyond FnPeersExact: Peers has one answer; two members compared.
-/
import Derived.Test.Qxb6612844aPeersQ
import Derived.Laws.StructEq
import Derived.Laws.Concat
namespace Go.Proofs.Qxb6612844a
open Go.RowKit

/-- Two lists that hold the same members, no id twice, both ascending: one list. -/
theorem asc_uniq : ∀ (l l' : List M), l.Perm l' → l.Pairwise (fun x y => x.1 < y.1) → l'.Pairwise (fun x y => x.1 < y.1) → l = l'
  | [], l', hp, _, _ => (List.nil_perm.1 hp).symm
  | x :: r, [], hp, _, _ => absurd hp.length_eq (by simp)
  | x :: r, y :: s, hp, h1, h2 => by
    rw [List.pairwise_cons] at h1 h2
    have hxy : x = y := by
      have hx : x ∈ y :: s := hp.subset (by simp)
      have hy : y ∈ x :: r := hp.symm.subset (by simp)
      rcases List.mem_cons.1 hx with e | hxs
      · exact e
      · rcases List.mem_cons.1 hy with e | hyr
        · exact e.symm
        · have := h1.1 y hyr
          have := h2.1 x hxs
          omega
    subst hxy
    rw [asc_uniq r s (List.perm_cons x |>.1 hp) h1.2 h2.2]

/-- The voters but self, ascending. -/
def IsV (self : Int) (L1 L2 : List Int) (A1 A2 : List ByteArray) (V : List M) : Prop :=
  ∃ S : List M, S.Perm (allV L1 L2 A1 A2) ∧ S.Pairwise (fun x y => x.1 ≤ y.1) ∧ V = S.filter (fun x => !(x.1 == self))

theorem IsV.uniq {self : Int} {L1 L2 : List Int} {A1 A2 : List ByteArray} {V V' : List M} (f1 : L1.length = A1.length) (f2 : L2.length = A2.length) (d1 : Nod L1) (d2 : Nod L2) (h : IsV self L1 L2 A1 A2 V) (h' : IsV self L1 L2 A1 A2 V') : V = V' := by
  obtain ⟨S, p1, s1, rfl⟩ := h
  obtain ⟨S', p2, s2, rfl⟩ := h'
  have q1 : S.Pairwise (fun x y => x.1 ≠ y.1) := (p1.pairwise_iff (fun h => Ne.symm h)).2 (allV_pair f1 f2 d1 d2)
  have q2 : S'.Pairwise (fun x y => x.1 ≠ y.1) := (p2.pairwise_iff (fun h => Ne.symm h)).2 (allV_pair f1 f2 d1 d2)
  rw [asc_uniq S S' (p1.trans p2.symm) (strict_of s1 q1) (strict_of s2 q2)]

/-- Peers' answer. -/
def ansG (self : Int) (ld : Bool) (L1 L3 : List Int) (A3 : List ByteArray) (V : List M) : List M := V ++ (if ld = true then tailM self L1 L3 A3 else [])

theorem ansG_drop {self : Int} {ld : Bool} {L1 L2 L3 : List Int} {A1 A2 A3 : List ByteArray} {V : List M} (f1 : L1.length = A1.length) (f2 : L2.length = A2.length) (d1 : Nod L1) (d2 : Nod L2) (h : IsV self L1 L2 A1 A2 V) :
    V.length = vcount self L1 L2 ∧ (ansG self ld L1 L3 A3 V).drop (vcount self L1 L2) = (if ld = true then tailM self L1 L3 A3 else []) := by
  obtain ⟨S, p1, s1, rfl⟩ := h
  have hf := front_of (self := self) (R := (if ld = true then tailM self L1 L3 A3 else [])) f1 f2 d1 d2 p1 s1
  exact ⟨hf.2.2, hf.2.1⟩

theorem small_mk {L : List Int} {A : List ByteArray} (f : L.length = A.length) (hs : Small A) {x : M} (hx : x ∈ mkM L A) : x.2.size ≤ 1048576 := by
  obtain ⟨j, hj, -, e⟩ := mem_mkM f hx
  rw [← e]; exact hs j (by omega)

theorem ansG_small {self : Int} {ld : Bool} {L1 L2 L3 : List Int} {A1 A2 A3 : List ByteArray} {V : List M} (f1 : L1.length = A1.length) (f2 : L2.length = A2.length) (f3 : L3.length = A3.length) (hs : Small A1 ∧ Small A2 ∧ Small A3) (h : IsV self L1 L2 A1 A2 V) {x : M} (hx : x ∈ ansG self ld L1 L3 A3 V) : x.2.size ≤ 1048576 := by
  obtain ⟨S, p1, s1, rfl⟩ := h
  unfold ansG at hx
  rcases List.mem_append.1 hx with h | h
  · have h2 := p1.subset (List.mem_filter.1 h).1
    unfold allV at h2
    rcases List.mem_append.1 h2 with h3 | h3
    · exact small_mk f1 hs.1 h3
    · exact small_mk f2 hs.2.1 (List.mem_filter.1 h3).1
  · split at h
    · unfold tailM at h
      exact small_mk f3 hs.2.2 (List.mem_filter.1 h).1
    · simp at h

theorem ansG_len {self : Int} {ld : Bool} {L1 L2 L3 : List Int} {A1 A2 A3 : List ByteArray} {V : List M} (f1 : L1.length = A1.length) (f2 : L2.length = A2.length) (f3 : L3.length = A3.length) (l1 : L1.length ≤ 1024) (l3 : L2.length ≤ 1024) (l5 : L3.length ≤ 1024) (h : IsV self L1 L2 A1 A2 V) : (ansG self ld L1 L3 A3 V).length ≤ 65536 := by
  obtain ⟨S, p1, s1, rfl⟩ := h
  have h1 := p1.length_eq
  have h2 := List.length_filter_le (fun x : M => !(x.1 == self)) S
  have h3 : (allV L1 L2 A1 A2).length ≤ 2048 := by
    unfold allV
    rw [List.length_append]
    have := List.length_filter_le (fun x : M => !inL L1 x.1) (mkM L2 A2)
    rw [mkM_len f1]; rw [mkM_len f2] at this; omega
  have h4 : (if ld = true then tailM self L1 L3 A3 else []).length ≤ 1024 := by
    split
    · unfold tailM
      have := List.length_filter_le (fun x : M => notSelfNotIn self L1 x.1) (mkM L3 A3)
      rw [mkM_len f3] at this; omega
    · simp
  unfold ansG
  rw [List.length_append]
  omega

/-- Peers, on a core that stands in memory. -/
theorem peersH (self role : Int) (g : Nat) (am ao at' : Option Addr) (cm co ct : Nat) (L1 L2 L3 : List Int) (A1 A2 A3 : List ByteArray) (f1 : L1.length = A1.length) (f2 : L2.length = A2.length) (d2 : Nod L2)
    (W : World) (hP : PC W g self role am cm (mkM L1 A1) ao co (mkM L2 A2) at' ct (mkM L3 A3)) :
    Calls Try.prog 14 #[.pointer (some ⟨g, 0, none⟩)] W fun e w' =>
      ∃ a' c' V, e = .returned (.slice a' (ansG self ((role == 2) && at'.isSome) L1 L3 A3 V).length c') ∧ IsV self L1 L2 A1 A2 V ∧ Own w' W.heap.size a' c' (ansG self ((role == 2) && at'.isSome) L1 L3 A3 V) ∧ W.grownBy w' none := by
  refine (peers_calls _ _ _ _ _ _ _ _ _ _ _ _ _ hP).mono fun e w' ⟨a', c', S, h1, h2, h3, h4, h5⟩ => ?_
  rw [votes_all f1 f2 d2] at h2
  have he : peersOf self role at' (mkM L3 A3) (mkM L1 A1) S = ansG self ((role == 2) && at'.isSome) L1 L3 A3 (S.filter (fun x => !(x.1 == self))) := by
    rw [peers_split, nonv_tail f1]; rfl
  rw [he] at h1 h4
  exact ⟨a', c', _, h1, ⟨S, h2, h3, rfl⟩, h4, h5⟩

theorem und36 : Try.prog.underlying 36 = some (.struct (Try.prog.fieldsOf 36)) := by kernel_rfl
theorem held36 : Try.prog.stoodInHeld 36 = false := by kernel_rfl
theorem guard36 : Try.prog.eqGuardType Try.prog.depth 36 = false := by kernel_rfl
theorem fields36 : (Try.prog.fieldsOf 36).toList.map (fun f => (f.name == "_", f.type, f.offset)) = [(false, 22, 0), (false, 9, 1)] := by kernel_rfl
theorem cells22 : Try.prog.cellsOf 22 = 1 := by kernel_rfl
theorem cells9 : Try.prog.cellsOf 9 = 1 := by kernel_rfl

theorem neqM (x : Int) (s : ByteArray) (w : World) : (binOp .neq 36 (.agg #[.int .u64 x, .string s]) (.agg #[.int .u64 x, .string s])).run Try.prog w = .ok (.bool false) w := by
  rw [run_neq_struct, run_equalIn_struct w 9999 36 _ _ und36 held36]
  have h := fields36
  generalize (Try.prog.fieldsOf 36).toList = fs at h
  obtain ⟨p, r, rfl, hp, hr⟩ := List.map_eq_cons_iff.1 h
  obtain ⟨q, r2, rfl, hq, hr2⟩ := List.map_eq_cons_iff.1 hr
  obtain rfl := List.map_eq_nil_iff.1 hr2
  simp at hp hq
  obtain ⟨h1, h2, h3⟩ := hp
  obtain ⟨h4, h5, h6⟩ := hq
  simp [Op.eqFields, h1, h2, h3, h4, h5, h6, go_sem, Try.underlying22, Try.underlying9]
end Go.Proofs.Qxb6612844a
