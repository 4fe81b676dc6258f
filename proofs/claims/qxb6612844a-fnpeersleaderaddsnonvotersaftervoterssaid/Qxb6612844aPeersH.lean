/-
  (*Core).Peers.
-/
import Derived.Test.Qxb6612844aPeersG
namespace Go.Proofs.Qxb6612844a
open Go.RowKit

def peersOf (id role : Int) (at' : Option Addr) (tgt mem S : List M) : List M := (S ++ nonv role at' tgt mem).filter (fun x => !(x.1 == id))

theorem nonv_len (role : Int) (at' : Option Addr) (tgt mem : List M) : (nonv role at' tgt mem).length ≤ tgt.length := by
  unfold nonv
  split
  · exact List.length_filter_le _ _
  · exact Nat.zero_le _

theorem Own.below {w W W' : World} {a : Option Addr} {c : Nat} {l : List M} (h : Own W w.heap.size a c l) (hb : Below w.heap.size w W) (h2 : W.grownBy W' ((Value.slice a l.length c).ownBlock)) : Below w.heap.size w W' := by
  refine hb.grown h2 hb.size fun j hj => ?_
  rcases h.cases with ⟨rfl, -⟩ | ⟨g, rfl, hb, -⟩
  · cases hj
  · simp [Value.ownBlock] at hj
    omega

set_option maxHeartbeats 3200000 in
theorem peers_calls (g : Nat) (id role : Int) (am : Option Addr) (cm : Nat) (mem : List M) (ao : Option Addr) (co : Nat) (old : List M) (at' : Option Addr) (ct : Nat) (tgt : List M) (w : World) (hP : PC w g id role am cm mem ao co old at' ct tgt) :
    Calls Try.prog 14 #[.pointer (some ⟨g, 0, none⟩)] w fun e w' => ∃ a' c' S, e = .returned (.slice a' (peersOf id role at' tgt mem S).length c') ∧ S.Perm (votes mem old old.length) ∧ S.Pairwise (fun x y => x.1 ≤ y.1) ∧ Own w' w.heap.size a' c' (peersOf id role at' tgt mem S) ∧ w.grownBy w' none := by
  have hb0 : Below w.heap.size w (w.alloc (.cells #[.pointer (some ⟨g, 0, none⟩)] 30)) := (Below.refl _ _).alloc (Nat.le_refl _) _
  have hP1 := hP.later hb0
  have HP1 : Hid (PC (w.alloc (.cells #[.pointer (some ⟨g, 0, none⟩)] 30)) g id role am cm mem ao co old at' ct tgt) := hP1
  have c8 := hP.c8
  have c9 := hP.c9
  have glt := hP.lt
  have hvl := votes_len mem old old.length
  have hnl := nonv_len role at' tgt mem
  have HV : Hid (∀ W, Below (w.alloc (.cells #[.pointer (some ⟨g, 0, none⟩)] 30)).heap.size (w.alloc (.cells #[.pointer (some ⟨g, 0, none⟩)] 30)) W → _) := fun W hW => voters_calls am ao cm co mem old W ((HP1.out.later hW).im) ((HP1.out.later hW).io) HP1.out.lm HP1.out.lo
  have HN : Hid (∀ W, Below (w.alloc (.cells #[.pointer (some ⟨g, 0, none⟩)] 30)).heap.size (w.alloc (.cells #[.pointer (some ⟨g, 0, none⟩)] 30)) W → _) := fun W hW => nonVoters_calls g id role am cm mem ao co old at' ct tgt W (HP1.out.later hW)
  have HL : Hid (∀ S : List M, S.Perm (votes mem old old.length) → S.length ≤ 2048 ∧ (nonv role at' tgt mem).length ≤ 1024) := fun S hS => by
    have h1 := hS.length_eq; have := hP.lm; have := hP.lo; have := hP.ltt; omega
  obtain ⟨nm, hnm⟩ : ∃ nm, nm = mem.length := ⟨_, rfl⟩
  obtain ⟨no, hno⟩ : ∃ no, no = old.length := ⟨_, rfl⟩
  rw [← hnm] at c8
  rw [← hno] at c9
  have HV2 : Hid (∀ W, Below (w.alloc (.cells #[.pointer (some ⟨g, 0, none⟩)] 30)).heap.size (w.alloc (.cells #[.pointer (some ⟨g, 0, none⟩)] 30)) W → Calls Try.prog 34 #[.agg #[.slice am nm cm, .slice ao no co]] W fun e w' => ∃ a' c' S, e = .returned (.slice a' S.length c') ∧ S.Perm (votes mem old old.length) ∧ S.Pairwise (fun x y => x.1 ≤ y.1) ∧ Own w' W.heap.size a' c' S ∧ W.grownBy w' none) := by
    subst hnm; subst hno; exact HV
  clear HV hP hP1 hvl hnl hnm hno
  generalize hNV : nonv role at' tgt mem = NV at HN HL
  have HNV : Hid (nonv role at' tgt mem = NV) := hNV
  clear hNV
  go_enter Try.func14, Try.ntmps14
  go_wp2
  go_region_held3 (fun w' => w'.cell? ⟨w.heap.size, 0, none⟩ = some (.pointer (some ⟨g, 0, none⟩)) ∧ w'.cell? ⟨g, 8, none⟩ = some (.slice am nm cm) ∧ w'.cell? ⟨g, 9, none⟩ = some (.slice ao no co)) (simp [*, go_sem])
    (first
      | (go_at_call 34; refine (HV2.out _ (by exact (Below.refl _ _).drew)).mono ?_; rintro e w2 ⟨a1, c1, S, rfl, hp, hw, ho2, hg2⟩; have HB2 : Hid (Below (w.alloc (.cells #[.pointer (some ⟨g, 0, none⟩)] 30)).heap.size (w.alloc (.cells #[.pointer (some ⟨g, 0, none⟩)] 30)) w2) := (Below.refl _ _).drew.trans (grown_below hg2); have HO2 : Hid (Own w2 (w.alloc (.cells #[.pointer (some ⟨g, 0, none⟩)] 30)).heap.size a1 c1 S) := ho2; have HS : Hid (S.Perm (votes mem old old.length) ∧ S.Pairwise (fun x y => x.1 ≤ y.1)) := ⟨hp, hw⟩; have m0 : w2.cell? ⟨w.heap.size, 0, none⟩ = some (.pointer (some ⟨g, 0, none⟩)) := (HB2.out.cell (p := ⟨w.heap.size, 0, none⟩) (by simp)).trans (by simp); have m1 : w2.cell? ⟨g, 8, none⟩ = some (.slice am nm cm) := (HB2.out.cell (p := ⟨g, 8, none⟩) (by simp; omega)).trans (by simp [*, go_sem]); have m2 : w2.cell? ⟨g, 9, none⟩ = some (.slice ao no co) := (HB2.out.cell (p := ⟨g, 9, none⟩) (by simp; omega)).trans (by simp [*, go_sem]); clear ho2 hg2 hp hw)
      | (go_at_call 35; refine (HN.out _ (by exact HB2.out)).mono ?_; rintro e w3 ⟨a2, c2, rfl, ho3, hg3⟩; have HB3 : Hid (Below (w.alloc (.cells #[.pointer (some ⟨g, 0, none⟩)] 30)).heap.size (w.alloc (.cells #[.pointer (some ⟨g, 0, none⟩)] 30)) w3) := HB2.out.trans ((grown_below hg3).mono HB2.out.size); have HO3 : Hid (In w3 a2 c2 NV) := ho3.read; have HO4 : Hid (Own w3 (w.alloc (.cells #[.pointer (some ⟨g, 0, none⟩)] 30)).heap.size a1 c1 S) := HO2.out.keep hg3 (by simp); have n0 : w3.cell? ⟨w.heap.size, 0, none⟩ = some (.pointer (some ⟨g, 0, none⟩)) := (HB3.out.cell (p := ⟨w.heap.size, 0, none⟩) (by simp)).trans (by simp); have n1 : w3.cell? ⟨g, 8, none⟩ = some (.slice am nm cm) := (HB3.out.cell (p := ⟨g, 8, none⟩) (by simp; omega)).trans (by simp [*, go_sem]); have n2 : w3.cell? ⟨g, 9, none⟩ = some (.slice ao no co) := (HB3.out.cell (p := ⟨g, 9, none⟩) (by simp; omega)).trans (by simp [*, go_sem]); clear ho3 hg3)
      | (refine step_appendM _ (by rfl) _ _ (by rfl) (w.alloc (.cells #[.pointer (some ⟨g, 0, none⟩)] 30)).heap.size a1 c1 S a2 c2 NV S.length NV.length rfl rfl (by rfl) (by rfl) (by exact HO4.out) (by exact HO3.out) (by have := HL.out S HS.out.1; omega) (by exact HB3.out.size) ?_; intro a4 c4 w4 ho4 hg4; have HB4 : Hid (Below (w.alloc (.cells #[.pointer (some ⟨g, 0, none⟩)] 30)).heap.size (w.alloc (.cells #[.pointer (some ⟨g, 0, none⟩)] 30)) w4) := HO4.out.below HB3.out hg4; have q0 : w4.cell? ⟨w.heap.size, 0, none⟩ = some (.pointer (some ⟨g, 0, none⟩)) := (HB4.out.cell (p := ⟨w.heap.size, 0, none⟩) (by simp)).trans (by simp); have q1 : w4.cell? ⟨g, 8, none⟩ = some (.slice am nm cm) := (HB4.out.cell (p := ⟨g, 8, none⟩) (by simp; omega)).trans (by simp [*, go_sem]); have q2 : w4.cell? ⟨g, 9, none⟩ = some (.slice ao no co) := (HB4.out.cell (p := ⟨g, 9, none⟩) (by simp; omega)).trans (by simp [*, go_sem]); have HO5 : Hid (Own w4 (w.alloc (.cells #[.pointer (some ⟨g, 0, none⟩)] 30)).heap.size a4 c4 (S ++ NV)) := ho4; clear ho4 hg4))
  have hdel := deleteM_calls 37 #[.pointer (some ⟨w.heap.size, 0, none⟩)] (fun x => x.1 == id) enters37 _ a4 c4 (S ++ NV) w4 HO5.out (fun g' hg' W' x hW' => by
    have hbel : Below (w.alloc (.cells #[.pointer (some ⟨g, 0, none⟩)] 30)).heap.size (w.alloc (.cells #[.pointer (some ⟨g, 0, none⟩)] 30)) W' :=
      HB4.out.grown hW' HB4.out.size (fun k hk => by
        cases hk
        rcases HO5.out.cases with ⟨h, -⟩ | ⟨g2, h, hb2, -⟩
        · rw [h] at hg'; cases hg'
        · rw [h] at hg'; cases hg'; exact hb2)
    exact closure37 x w.heap.size g id W' ((hbel.cell (p := ⟨w.heap.size, 0, none⟩) (by simp)).trans (by simp)) (HP1.out.later hbel).c0) (by have := HL.out S HS.out.1; simp; omega)
  have hP3 : peersOf id role at' tgt mem S = (S ++ NV).filter (fun x => !(x.1 == id)) := by unfold peersOf; rw [HNV.out]
  have HF : Hid (∀ W, Own W (w.alloc (.cells #[.pointer (some ⟨g, 0, none⟩)] 30)).heap.size a4 c4 ((S ++ NV).filter (fun x => !(x.1 == id))) → w4.grownBy W ((Value.slice a4 (S ++ NV).length c4).ownBlock) →
      ∃ a' c' S', Ending.returned (.slice a4 ((S ++ NV).filter (fun x => !(x.1 == id))).length c4) = .returned (.slice a' (peersOf id role at' tgt mem S').length c') ∧ S'.Perm (votes mem old old.length) ∧ S'.Pairwise (fun x y => x.1 ≤ y.1) ∧ Own W w.heap.size a' c' (peersOf id role at' tgt mem S') ∧ w.grownBy W none) := by
    intro W h1 h2
    refine ⟨a4, c4, S, by rw [hP3], HS.out.1, HS.out.2, ?_, ?_⟩
    · rw [hP3]; exact h1.mono (by simp)
    · exact below_grown (hb0.trans ((HO5.out.below HB4.out h2).mono (by simp)))
  rw [List.length_append] at hdel HF
  clear hP3 q0 q1 q2 n0 n1 n2 m0 m1 m2
  generalize (S ++ NV).filter (fun x => !(x.1 == id)) = R at hdel HF
  go_wp2_with (go_at_call 36; refine hdel.mono ?_; rintro e w5 ⟨rfl, ho5, hg5⟩)
  go_ret
  exact HF.out w5 ho5 hg5
end Go.Proofs.Qxb6612844a
