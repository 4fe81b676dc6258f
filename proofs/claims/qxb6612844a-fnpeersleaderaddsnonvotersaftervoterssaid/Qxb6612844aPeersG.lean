/-
  NonVoters and Peers.
-/
import Derived.Test.Qxb6612844aPeersF
namespace Go.Proofs.Qxb6612844a
open Go.RowKit

theorem index50_none (fv : Value) (w : World) (hf : ∃ f a b, fv = .func f a b) :
    Calls Try.prog 50 #[.slice none 0 0, fv] w fun e w' => e = .returned (.int .i64 (-1)) ∧ w = w' := by
  obtain ⟨f, a, b, rfl⟩ := hf
  go_enter Try.func50, Try.ntmps50
  go_wp2
  refine wp_loop_rounds 1 ?_
  rw [rounds_succ]
  go_wp2
  go_ret
  exact ⟨rfl, rfl⟩

theorem deleteM_none (fv : Value) (w : World) (hf : ∃ f a b, fv = .func f a b) :
    Calls Try.prog 36 #[.slice none 0 0, fv] w fun e w' => e = .returned (.slice none 0 0) ∧ w = w' := by
  obtain ⟨f, a, b, rfl⟩ := hf
  go_enter Try.func36, Try.ntmps36
  go_wp2_with (go_at_call 50; refine (index50_none _ _ ⟨_, _, _, rfl⟩).mono ?_; rintro e w' ⟨rfl, rfl⟩)
  go_ret
  exact ⟨rfl, rfl⟩

theorem deleteM_calls (fg : Nat) (lb : Array Value) (p : M → Bool) (eg : ∀ args w, (callFunc fg args).run Try.prog w = .ok (.enter fg args) w) (base : Nat) (a : Option Addr) (c : Nat) (l : List M) (w : World) (ho : Own w base a c l) (hp : ∀ g, a = some ⟨g, 0, none⟩ → Gives fg lb p w g) (hn : l.length ≤ 65536) :
    Calls Try.prog 36 #[.slice a l.length c, .func (.func fg) #[] lb] w fun e w' => e = .returned (.slice a (l.filter fun x => !p x).length c) ∧ Own w' base a c (l.filter fun x => !p x) ∧ w.grownBy w' ((Value.slice a l.length c).ownBlock) := by
  rcases ho.cases with ⟨rfl, rfl, rfl⟩ | ⟨g, rfl, -⟩
  · exact (deleteM_none _ w ⟨_, _, _, rfl⟩).mono fun e w' ⟨h1, h2⟩ => by subst h2; exact ⟨h1, Own.nil _ _, World.grownBy.refl _ _⟩
  · exact deleteM_some fg lb p eg base g c l w ho (hp g rfl) hn

theorem enters49 : ∀ args w, (callFunc 49 args).run Try.prog w = .ok (.enter 49 args) w := enters_of Try.func49 (by kernel_rfl) rfl
theorem enters37 : ∀ args w, (callFunc 37 args).run Try.prog w = .ok (.enter 37 args) w := enters_of Try.func37 (by kernel_rfl) rfl

/-- The non-voters of a leader that catches up a target. -/
def nonv (role : Int) (at' : Option Addr) (tgt mem : List M) : List M := if ((role == 2) && at'.isSome) = true then tgt.filter (fun x => !anyID mem x.1) else []

set_option maxHeartbeats 1600000 in
theorem nonVoters_calls (g : Nat) (id role : Int) (am : Option Addr) (cm : Nat) (mem : List M) (ao : Option Addr) (co : Nat) (old : List M) (at' : Option Addr) (ct : Nat) (tgt : List M) (w : World) (hP : PC w g id role am cm mem ao co old at' ct tgt) :
    Calls Try.prog 35 #[.pointer (some ⟨g, 0, none⟩)] w fun e w' => ∃ a' c', e = .returned (.slice a' (nonv role at' tgt mem).length c') ∧ Own w' w.heap.size a' c' (nonv role at' tgt mem) ∧ w.grownBy w' none := by
  have hb0 : Below w.heap.size w (w.alloc (.cells #[.pointer (some ⟨g, 0, none⟩)] 30)) := (Below.refl _ _).alloc (Nat.le_refl _) _
  have hP1 := hP.later hb0
  have hcu := catchingUp_calls g role at' tgt.length ct _ hP1.c3 hP1.c11
  have c11 := hP.c11
  have glt := hP.lt
  cases hb : ((role == 2) && at'.isSome) with
  | false =>
    rw [hb] at hcu
    have e1 : nonv role at' tgt mem = [] := by unfold nonv; rw [hb]; rfl
    rw [e1]
    clear hP hP1 e1 hb
    go_enter Try.func35, Try.ntmps35
    go_wp2_with (go_at_call 48; refine hcu.mono ?_; rintro e w1 ⟨rfl, rfl⟩)
    go_ret
    exact ⟨none, 0, rfl, Own.nil _ _, below_grown hb0⟩
  | true =>
    rw [hb] at hcu
    have e1 : nonv role at' tgt mem = tgt.filter (fun x => !anyID mem x.1) := by unfold nonv; rw [hb]; rfl
    rw [e1]
    have hcl := cloneM_calls at' ct tgt _ hP1.it (by have := hP.ltt; omega)
    have hdel := fun (W : World) (a1 : Option Addr) (c1 : Nat) (ho : Own W (w.alloc (.cells #[.pointer (some ⟨g, 0, none⟩)] 30)).heap.size a1 c1 tgt) (hg : (w.alloc (.cells #[.pointer (some ⟨g, 0, none⟩)] 30)).grownBy W none) =>
      deleteM_calls 49 #[.pointer (some ⟨w.heap.size, 0, none⟩)] (fun x => anyID mem x.1) enters49 _ a1 c1 tgt W ho (fun g' hg' W' x hW' => by
        have hbel : Below (w.alloc (.cells #[.pointer (some ⟨g, 0, none⟩)] 30)).heap.size (w.alloc (.cells #[.pointer (some ⟨g, 0, none⟩)] 30)) W' :=
          (grown_below hg).grown hW' hg.size (fun k hk => by
            cases hk
            rcases ho.cases with ⟨h, -⟩ | ⟨g2, h, hb2, -⟩
            · rw [h] at hg'; cases hg'
            · rw [h] at hg'; cases hg'; exact hb2)
        have hP2 := hP1.later hbel
        exact closure49 x w.heap.size g am cm mem W' ((hbel.cell (p := ⟨w.heap.size, 0, none⟩) (by simp)).trans (by simp)) hP2.c8 hP2.im hP.lm) (by have := hP.ltt; omega)
    have HF : Hid (∀ (W W' : World) (a1 : Option Addr) (c1 : Nat), Own W (w.alloc (.cells #[.pointer (some ⟨g, 0, none⟩)] 30)).heap.size a1 c1 tgt → (w.alloc (.cells #[.pointer (some ⟨g, 0, none⟩)] 30)).grownBy W none → Own W' (w.alloc (.cells #[.pointer (some ⟨g, 0, none⟩)] 30)).heap.size a1 c1 (tgt.filter fun x => !anyID mem x.1) → W.grownBy W' ((Value.slice a1 tgt.length c1).ownBlock) → Own W' w.heap.size a1 c1 (tgt.filter fun x => !anyID mem x.1) ∧ w.grownBy W' none) :=
      fun W W' a1 c1 h1 h2 h3 h4 => ⟨h3.mono (by simp), (below_grown hb0).trans (Own.grown h1 h2 h4)⟩
    obtain ⟨nt, hnt⟩ : ∃ nt, nt = tgt.length := ⟨_, rfl⟩
    rw [← hnt] at hcl hdel HF c11
    generalize tgt.filter (fun x => !anyID mem x.1) = R at hdel HF ⊢
    have HD : Hid _ := hdel
    clear hP hP1 e1 hb hnt hdel
    go_enter Try.func35, Try.ntmps35
    go_wp2_with (first
      | (go_at_call 48; refine hcu.mono ?_; rintro e w1 ⟨rfl, rfl⟩)
      | (go_at_call 43; refine hcl.mono ?_; rintro e w2 ⟨a1, c1, rfl, ho2, hg2⟩; have HO2 : Hid _ := ho2; have HG2 : Hid _ := hg2; clear ho2 hg2)
      | (go_at_call 36; refine (HD.out w2 a1 c1 HO2.out HG2.out).mono ?_; rintro e w3 ⟨rfl, ho3, hg3⟩))
    go_ret
    obtain ⟨f1, f2⟩ := HF.out w2 w3 a1 c1 HO2.out HG2.out ho3 hg3
    exact ⟨a1, c1, rfl, f1, f2⟩
end Go.Proofs.Qxb6612844a
