/-
  zzPeersBytes, zzPeersPremise, zzMembers, ZZnewCorePeers.
-/
import Derived.Test.Qxb6612844aPeersJ
namespace Go.Proofs.Qxb6612844a
open Go.RowKit

theorem peersBytes_calls (a1 a2 a3 a4 a5 a6 : Option Addr) (c1 c2 c3 c4 c5 c6 n1 n3 n5 : Nat) (A1 A2 A3 : List ByteArray) (w : World) (s1 : SrcS w a2 A1) (s2 : SrcS w a4 A2) (s3 : SrcS w a6 A3)
    (l1 : n1 ≤ 65536) (l3 : n3 ≤ 65536) (l5 : n5 ≤ 65536) (l2 : A1.length ≤ 65536) (l4 : A2.length ≤ 65536) (l6 : A3.length ≤ 65536) :
    Calls Try.prog 10 #[.slice a1 n1 c1, .slice a2 A1.length c2, .slice a3 n3 c3, .slice a4 A2.length c4, .slice a5 n5 c5, .slice a6 A3.length c6] w fun e w' => (∃ r, e = .returned (.int .i64 r)) ∧ w = w' := by
  have h1 := fun t => addStrLens a2 c2 A1 t w s1 l2
  have h2 := fun t => addStrLens a4 c4 A2 t w s2 l4
  have h3 := fun t => addStrLens a6 c6 A3 t w s3 l6
  have H1 : Hid _ := h1
  have H2 : Hid _ := h2
  have H3 : Hid _ := h3
  clear h1 h2 h3 s1 s2 s3
  generalize A1.length = n2 at *
  generalize A2.length = n4 at *
  generalize A3.length = n6 at *
  go_enter Try.func10, Try.ntmps10
  go_wp2_with fail
  refine (H1.out _).mono ?_
  rintro e w' ⟨⟨r1, rfl⟩, rfl⟩
  go_wp2_with fail
  refine (H2.out _).mono ?_
  rintro e w' ⟨⟨r2, rfl⟩, rfl⟩
  go_wp2_with fail
  refine (H3.out _).mono ?_
  rintro e w' ⟨⟨r3, rfl⟩, rfl⟩
  go_wp2
  go_ret
  exact ⟨⟨_, rfl⟩, rfl⟩

set_option maxHeartbeats 800000 in
theorem premise_calls (a1 a2 a3 a4 a5 a6 : Option Addr) (c1 c2 c3 c4 c5 c6 n2 n4 n6 : Nat) (L1 L2 L3 : List Int) (w : World) (s1 : SrcI w a1 L1) (s2 : SrcI w a3 L2) (s3 : SrcI w a5 L3)
    (l1 : L1.length ≤ 65536) (l2 : L2.length ≤ 65536) (l3 : L3.length ≤ 65536) :
    Calls Try.prog 11 #[.slice a1 L1.length c1, .slice a2 n2 c2, .slice a3 L2.length c3, .slice a4 n4 c4, .slice a5 L3.length c5, .slice a6 n6 c6] w fun e w' => BoolR e ((L1.length = n2 ∧ L2.length = n4 ∧ L3.length = n6) ∧ Nod L1 ∧ Nod L2 ∧ Nod L3) ∧ w.grownBy w' none := by
  have H1 : Hid (∀ W, w.grownBy W none → _) := fun W hW => distinct_calls a1 c1 L1 W (s1.later (grown_below hW)) l1
  have H2 : Hid (∀ W, w.grownBy W none → _) := fun W hW => distinct_calls a3 c3 L2 W (s2.later (grown_below hW)) l2
  have H3 : Hid (∀ W, w.grownBy W none → _) := fun W hW => distinct_calls a5 c5 L3 W (s3.later (grown_below hW)) l3
  clear s1 s2 s3
  generalize L1.length = n1 at *
  generalize L2.length = n3 at *
  generalize L3.length = n5 at *
  by_cases e1 : n1 = n2
  · by_cases e2 : n3 = n4
    · by_cases e3 : n5 = n6
      · subst e1; subst e2; subst e3
        go_enter Try.func11, Try.ntmps11
        go_wp2_with fail
        refine (H1.out _ (World.grownBy.refl _ _)).mono ?_
        rintro e w1 ⟨⟨r1, rfl, p1⟩, g1⟩
        cases r1 with
        | false =>
          go_wp2_with fail
          go_ret
          exact ⟨⟨false, rfl, fun h => by cases h⟩, g1⟩
        | true =>
          have P1 := p1 rfl
          clear p1
          go_wp2_with fail
          refine (H2.out _ g1).mono ?_
          rintro e w2 ⟨⟨r2, rfl, p2⟩, g2⟩
          cases r2 with
          | false =>
            go_wp2_with fail
            go_ret
            exact ⟨⟨false, rfl, fun h => by cases h⟩, g1.trans g2⟩
          | true =>
            have P2 := p2 rfl
            clear p2
            go_wp2_with fail
            refine (H3.out _ (g1.trans g2)).mono ?_
            rintro e w3 ⟨⟨r3, rfl, p3⟩, g3⟩
            have HP3 : Hid (r3 = true → Nod L3) := p3
            clear p3
            go_wp2_with fail
            go_ret
            exact ⟨⟨r3, rfl, fun h => ⟨by simp, P1, P2, HP3.out h⟩⟩, (g1.trans g2).trans g3⟩
      · have f3 : ((n5 : Int) != (n6 : Int)) = true := by rw [bne_iff_ne]; omega
        subst e1; subst e2
        go_enter Try.func11, Try.ntmps11
        go_wp2_with fail
        go_ret
        exact ⟨⟨false, rfl, fun h => by cases h⟩, World.grownBy.refl _ _⟩
    · have f2 : ((n3 : Int) != (n4 : Int)) = true := by rw [bne_iff_ne]; omega
      subst e1
      go_enter Try.func11, Try.ntmps11
      go_wp2_with fail
      go_ret
      exact ⟨⟨false, rfl, fun h => by cases h⟩, World.grownBy.refl _ _⟩
  · have f1 : ((n1 : Int) != (n2 : Int)) = true := by rw [bne_iff_ne]; omega
    go_enter Try.func11, Try.ntmps11
    go_wp2_with fail
    go_ret
    exact ⟨⟨false, rfl, fun h => by cases h⟩, World.grownBy.refl _ _⟩

/-- The Core that ZZnewCorePeers lays. -/
def peerCells (id role : Int) (m o t : Value) : Array Value :=
  #[.int .u64 id, .int .u64 0, .int .u64 0, .int .i64 role, .int .u64 0, .map none, .bool false, .bool false, m, o, .int .u64 0, t,
    .int .u64 0, .int .u64 0, .slice none 0 0, .slice none 0 0, .slice none 0 0, .int .u64 0, .int .u64 0, .map none, .map none, .map none, .int .u64 0]

theorem newPeers_calls (id role : Int) (am ao at' : Option Addr) (nm no nt cm co ct : Nat) (w : World) :
    Calls Try.prog 13 #[.int .u64 id, .int .i64 role, .slice am nm cm, .slice ao no co, .slice at' nt ct] w fun e w' =>
      e = .returned (.pointer (some ⟨w.heap.size, 0, none⟩)) ∧ w.alloc (.cells (peerCells id role (.slice am nm cm) (.slice ao no co) (.slice at' nt ct)) 74) = w' := by
  go_enter Try.func13, Try.ntmps13
  go_wp2
  go_ret
  exact ⟨rfl, rfl⟩

theorem pc_made {w : World} {id role : Int} {am ao at' : Option Addr} {cm co ct : Nat} {mem old tgt : List M} (im : In w am cm mem) (io : In w ao co old) (it : In w at' ct tgt) (lm : mem.length ≤ 1024) (lo : old.length ≤ 1024) (lt : tgt.length ≤ 1024) :
    PC (w.alloc (.cells (peerCells id role (.slice am mem.length cm) (.slice ao old.length co) (.slice at' tgt.length ct)) 74)) w.heap.size id role am cm mem ao co old at' ct tgt := by
  have hb : Below w.heap.size w (w.alloc (.cells (peerCells id role (.slice am mem.length cm) (.slice ao old.length co) (.slice at' tgt.length ct)) 74)) := (Below.refl _ _).alloc (Nat.le_refl _) _
  exact ⟨by simp [peerCells], by simp [peerCells], by simp [peerCells], by simp [peerCells], by simp [peerCells], by simp, im.later hb, io.later hb, it.later hb, lm, lo, lt⟩

/-! ### zzMembers -/
def mkM (L : List Int) (A : List ByteArray) : List M := List.zip L A

theorem mkM_len {L : List Int} {A : List ByteArray} (h : L.length = A.length) : (mkM L A).length = L.length := by simp [mkM]; omega

theorem mkM_get {L : List Int} {A : List ByteArray} (h : L.length = A.length) (j : Nat) (hj : j < L.length) : (mkM L A)[j]! = (L[j]!, A[j]!) := by
  rw [getElem!_pos _ j (by rw [mkM_len h]; exact hj), getElem!_pos L j hj, getElem!_pos A j (by omega)]
  simp [mkM]

theorem made_flat (n : Nat) : (madeCells #[.int .u64 0, .string ByteArray.empty] (n * 2)).toList = (List.replicate n ((0, ByteArray.empty) : M)).flatMap encM := by
  apply List.ext_getElem?
  intro t
  by_cases ht : t < n * 2
  · have hj : t / 2 < (List.replicate n ((0, ByteArray.empty) : M)).length := by simp; omega
    obtain ⟨f0, f1⟩ := flat_get _ _ hj
    have e : (List.replicate n ((0, ByteArray.empty) : M))[t / 2]! = (0, ByteArray.empty) := by rw [getElem!_pos (List.replicate n ((0, ByteArray.empty) : M)) (t / 2) hj]; simp
    rw [e] at f0 f1
    have hm : t % 2 = 0 ∨ t % 2 = 1 := by omega
    rcases hm with hm | hm
    · rw [show t / 2 * 2 = t from by omega] at f0
      rw [f0]
      simp [madeCells, ht, hm]
    · rw [show t / 2 * 2 + 1 = t from by omega] at f1
      rw [f1]
      simp [madeCells, ht, hm]
  · rw [List.getElem?_eq_none (by simp [madeCells]; omega), List.getElem?_eq_none (by rw [flat_len]; simp; omega)]

theorem list_ext_get {l l' : List M} (hl : l.length = l'.length) (h : ∀ j, j < l.length → l[j]! = l'[j]!) : l = l' := by
  apply List.ext_getElem hl
  intro j h1 h2
  have := h j h1
  rwa [getElem!_pos l j h1, getElem!_pos l' j h2] at this

set_option maxHeartbeats 1600000 in
theorem members_some (b off : Nat) (a2 : Option Addr) (c c2 : Nat) (L : List Int) (A : List ByteArray) (w : World) (hs : L = [] ∨ (b < w.heap.size ∧ ∀ i, i < L.length → w.cell? ⟨b, off + i, none⟩ = some (.int .u64 L[i]!))) (hs2 : SrcS w a2 A) (hl : L.length = A.length) (hn : L.length ≤ 1024) (x0 : Addr) (hx0 : L ≠ [] → x0 = ⟨b, off, none⟩) :
    Calls Try.prog 12 #[.slice (some x0) L.length c, .slice a2 A.length c2] w fun e w' => e = .returned (.slice (some ⟨w.heap.size, 0, none⟩) L.length L.length) ∧ Own w' w.heap.size (some ⟨w.heap.size, 0, none⟩) L.length (mkM L A) ∧ w.grownBy w' none := by
  obtain ⟨i0, hi, hz0, hz1, hz2⟩ := info_parts info36
  have heq := fun w' => Lib.run_eql_slice_nil (P := Try.prog) w' 23 22 (some x0) L.length c 0 0 Try.underlying23
  obtain ⟨n, hln⟩ : ∃ n, n = L.length := ⟨_, rfl⟩
  have HL : Hid (n = L.length) := hln
  have HA : Hid (L.length = A.length) := hl
  have HS : Hid (L = [] ∨ (b < w.heap.size ∧ ∀ i, i < L.length → w.cell? ⟨b, off + i, none⟩ = some (.int .u64 L[i]!))) := hs
  have HS2 : Hid (SrcS w a2 A) := hs2
  have HX : Hid (L ≠ [] → x0 = ⟨b, off, none⟩) := hx0
  rw [← hl]
  rw [← hln] at hn heq ⊢
  clear hs hs2 hl hln hx0
  go_enter Try.func12, Try.ntmps12
  go_wp2_with (at_make; refine wpList_make_full _ rfl _ _ 28 rfl w.heap.size 36 i0 _ 2 Try.underlying28 hi hz0 hz1 .i64 .i64 n n n rfl rfl rfl rfl (by rw [hz2]; omega) (by unfold maxLen; omega) (by simp) ?_; intro w1 hown hg)
  have HO1 : Hid (w1.ownsRow w.heap.size 36 2 (.slice (some ⟨w.heap.size, 0, none⟩) n n) n ((List.replicate n ((0, ByteArray.empty) : M)).flatMap encM)) := by rw [← made_flat]; exact hown
  have HG1 : Hid (w.grownBy w1 none) := hg
  clear hown hg
  go_loopw [6] (fun s6 wr => ∃ (k : Nat) (dk : List M), k ≤ n ∧ s6 = .int .i64 k ∧ Hid (dk.length = n ∧ ∀ j, j < k → dk[j]! = (L[j]!, A[j]!)) ∧ Hid (wr.ownsRow w.heap.size 36 2 (.slice (some ⟨w.heap.size, 0, none⟩) n n) n (dk.flatMap encM)) ∧ Hid (w.grownBy wr none)) (fun s6 _ => n - (intOf s6).toNat)
  case atStart => exact ⟨0, _, Nat.zero_le _, rfl, ⟨by simp, fun j hj => absurd hj (Nat.not_lt_zero _)⟩, HO1, HG1⟩
  case round =>
    obtain ⟨k, dk, hk, rfl, hdk, hown, hg⟩ := hrel
    by_cases hlt : k < n
    · have hkl : k < L.length := by have := HL.out; omega
      have hka : k < A.length := by have := HA.out; omega
      have hne : L ≠ [] := fun h => by rw [h] at hkl; simp at hkl
      obtain rfl := HX.out hne
      rcases HS.out with h | ⟨hbw, hc⟩
      · exact absurd h hne
      · rcases HS2.out with h | ⟨b2, off2, rfl, hbw2, hc2⟩
        · rw [h] at hka; simp at hka
        · have e0 := hg.out.cell (hc k hkl) (by simp)
          have e1 := hg.out.cell (hc2 k hka) (by simp)
          have hkd : k < dk.length := by have := hdk.out.1; omega
          obtain ⟨f0, f1⟩ := flat_get dk k hkd
          have o0 := (hown.out.cellAt (k * 2) (by omega)).trans f0
          have o1 := (hown.out.cellAt (k * 2 + 1) (by omega)).trans f1
          have z0 := hown.out.frozenAt (k * 2)
          have z1 := hown.out.frozenAt (k * 2 + 1)
          clear f0 f1 hc hc2 hkd
          generalize hx : L[k]! = x at e0
          generalize hy : A[k]! = y at e1
          generalize dk[k]!.1 = d0 at o0
          generalize dk[k]!.2 = d1 at o1
          have HXX : Hid (L[k]! = x ∧ A[k]! = y) := ⟨hx, hy⟩
          clear hx hy hkl hka hne
          obtain ⟨s1, t1⟩ := hown.out.stored (k * 2) (.int .u64 x)
          obtain ⟨s2, t2⟩ := s1.stored (k * 2 + 1) (.string y)
          have e2 := flat_set dk (x, y) k
          simp only at e2
          rw [e2] at s2
          have R1 : Hid (((wr.setCell ⟨w.heap.size, k * 2, none⟩ (.int .u64 x)).setCell ⟨w.heap.size, k * 2 + 1, none⟩ (.string y)).ownsRow w.heap.size 36 2 (.slice (some ⟨w.heap.size, 0, none⟩) n n) n ((dk.set k (x, y)).flatMap encM)) := s2
          have R2 : Hid (w.grownBy ((wr.setCell ⟨w.heap.size, k * 2, none⟩ (.int .u64 x)).setCell ⟨w.heap.size, k * 2 + 1, none⟩ (.string y)) none) := hg.out.andThen (t1.trans t2) (fun j hj => by cases hj; exact .inl (Nat.le_refl _))
          clear s1 s2 t1 t2 e2
          have y0 : (0 : Int) ≤ (k : Int) := by omega
          have y1 : (k : Int) < (n : Int) := by omega
          go_wp2
          go_region
          go_wp2
          go_roundw
          case rel =>
            refine ⟨k + 1, dk.set k (x, y), by omega, by go_num, (show Hid _ from ⟨by rw [List.length_set]; exact hdk.out.1, fun j hj => ?_⟩), R1.out, below_grown (grown_below R2.out).drew⟩
            have hjd : j < dk.length := by have := hdk.out.1; omega
            rw [getElem!_pos _ j (by rw [List.length_set]; exact hjd), List.getElem_set]
            by_cases e : k = j
            · subst e; rw [if_pos rfl, HXX.out.1, HXX.out.2]
            · rw [if_neg e, ← getElem!_pos dk j hjd]; exact hdk.out.2 j (by omega)
          case measure => simp [intOf]; omega
    · have hkn : k = n := by omega
      subst hkn
      have hltz : ¬ (k : Int) < (k : Int) := by omega
      have HF : Hid (Own wr w.heap.size (some ⟨w.heap.size, 0, none⟩) k (mkM L A)) := by
        have e1 : dk = mkM L A := list_ext_get (by rw [mkM_len HA.out, hdk.out.1]; exact HL.out) (fun j hj => by
          rw [mkM_get HA.out j (by have := hdk.out.1; have := HL.out; omega)]
          exact hdk.out.2 j (by have := hdk.out.1; omega))
        show wr.ownsRow w.heap.size 36 2 (.slice (some ⟨w.heap.size, 0, none⟩) (mkM L A).length k) (mkM L A).length ((mkM L A).flatMap encM)
        rw [mkM_len HA.out, ← HL.out, ← e1]
        exact hown.out
      go_wp2
      go_ret
      exact ⟨rfl, HF.out, hg.out⟩

theorem members_none (a2 : Option Addr) (n2 c2 : Nat) (w : World) :
    Calls Try.prog 12 #[.slice none 0 0, .slice a2 n2 c2] w fun e w' => e = .returned (.slice none 0 0) ∧ w = w' := by
  have heq := fun w' => Lib.run_eql_slice_nil (P := Try.prog) w' 23 22 none 0 0 0 0 Try.underlying23
  go_enter Try.func12, Try.ntmps12
  go_wp2
  go_ret
  exact ⟨rfl, rfl⟩

/-- zzMembers: nil just where the ids are nil; else new memory. -/
theorem members_calls (a a2 : Option Addr) (c c2 : Nat) (L : List Int) (A : List ByteArray) (w : World) (hs : SrcI w a L) (hnil : a = none → L = [] ∧ c = 0) (hs2 : SrcS w a2 A) (hl : L.length = A.length) (hn : L.length ≤ 1024) :
    Calls Try.prog 12 #[.slice a L.length c, .slice a2 A.length c2] w fun e w' => ∃ a' c', e = .returned (.slice a' (mkM L A).length c') ∧ (a'.isSome = a.isSome) ∧ In w' a' c' (mkM L A) ∧ w.grownBy w' none := by
  have hml := mkM_len hl
  cases a with
  | none =>
    obtain ⟨h1, rfl⟩ := hnil rfl
    subst h1
    refine (members_none a2 A.length c2 w).mono fun e w' ⟨h1, h2⟩ => ?_
    subst h2
    exact ⟨none, 0, h1, rfl, .inl ⟨rfl, rfl, rfl⟩, World.grownBy.refl _ _⟩
  | some x0 =>
    have key : ∃ b off, (L = [] ∨ (b < w.heap.size ∧ ∀ i, i < L.length → w.cell? ⟨b, off + i, none⟩ = some (.int .u64 L[i]!))) ∧ (L ≠ [] → x0 = ⟨b, off, none⟩) := by
      rcases hs with h | ⟨b, off, h, h1, h2⟩
      · exact ⟨0, 0, .inl h, fun h' => absurd h h'⟩
      · cases h
        exact ⟨b, off, .inr ⟨h1, h2⟩, fun _ => rfl⟩
    obtain ⟨b, off, k1, k2⟩ := key
    refine (members_some b off a2 c c2 L A w k1 hs2 hl hn x0 k2).mono fun e w' ⟨h1, h2, h3⟩ => ⟨some ⟨w.heap.size, 0, none⟩, L.length, ?_, rfl, h2.read, h3⟩
    rw [hml]; exact h1
end Go.Proofs.Qxb6612844a
