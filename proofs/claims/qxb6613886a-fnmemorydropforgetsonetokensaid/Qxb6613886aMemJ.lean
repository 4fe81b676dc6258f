/-
  The steps of zzBuild's second loop on what is known of memory.
-/
import Derived.Test.Qxb6613886aMemH
namespace Go.Proofs.Qxb6613886a
open Go.RowKit Go.ChangeMaps Go.MapKept

theorem any_world {Q : World → Prop} {W : World} (R : World → Prop) (h : R W) (k : ∀ W', R W' → Q W') : Q W := k W h

def upd {α : Type} (f : Nat → α) (j : Nat) (v : α) : Nat → α := fun x => if x = j then v else f x
theorem upd_same {α : Type} (f : Nat → α) (j : Nat) (v : α) : upd f j v j = v := if_pos rfl
theorem upd_other {α : Type} (f : Nat → α) {j x : Nat} (v : α) (h : x ≠ j) : upd f j v x = f x := if_neg h

theorem hinv_congr {K : List ByteArray} {c : Nat → Nat} {HP HP' : Nat → Option Nat} {mp : Nat → Bool} {j : Nat} {D : Dt} (h : HInv K c HP mp j D) (h3 : ∀ x, x < j → HP' x = HP x) : HInv K c HP' mp j D :=
  ⟨h.pos, fun x hx hm => by rw [h3 x hx]; exact h.hit x hx hm, h.only, h.uniq, h.size⟩

section
variable {w0 w : World} {L : List Int} {K : List ByteArray} {h kb rh rc rm j : Nat} {HP : Nat → Option Nat} {mp : Nat → Bool} {DH : Dt}

theorem HPart.grow {w' : World} (p : HPart w0 w L K h kb rh rc rm j HP mp DH) (hg : w.grownBy w' none) : HPart w0 w' L K h kb rh rc rm j HP mp DH :=
  p.turn (ex := fun _ => False) (Turn.of_grown hg (fun k hk => by cases hk)) (fun k hk => hk.elim)

/-- A holder made and noted in hs. -/
theorem HPart.newH {W : World} {s : ByteArray} {q : Nat} (p : HPart w0 w L K h kb rh rc rm j HP mp DH) (hs : K[j]! = s) (hq : cnt L j = q)
    (hW : ((w.setCell ⟨rh, j, none⟩ (.pointer (some ⟨w.heap.size, 0, none⟩))).alloc (.cells (holdC s q) 77)).drew = W) :
    HPart w0 W L K h kb rh rc rm j (upd HP j (some w.heap.size)) mp DH ∧ At W w.heap.size (holdC K[j]! (cnt L j)) 77 ∧ Turn w W (fun k => k = rh) ∧ (∀ x, x < j → upd HP j (some w.heap.size) x ≠ some w.heap.size) := by
  have t1 : Turn w (w.setCell ⟨rh, j, none⟩ (.pointer (some ⟨w.heap.size, 0, none⟩))) (fun k => k = rh) := Turn.set _ _ _ rfl
  have t2 : Turn (w.setCell ⟨rh, j, none⟩ (.pointer (some ⟨w.heap.size, 0, none⟩))) W (fun k => k = rh) := by
    rw [← hW]
    have := World.grownBy_alloc (w.setCell ⟨rh, j, none⟩ (.pointer (some ⟨w.heap.size, 0, none⟩))) (.cells (holdC s q) 77) none
    exact ⟨this.os, this.tape, this.output, this.size, fun k hk _ => this.block k hk (by simp)⟩
  have t2' : Turn (w.setCell ⟨rh, j, none⟩ (.pointer (some ⟨w.heap.size, 0, none⟩))) W (fun _ => False) := by
    rw [← hW]
    have := World.grownBy_alloc (w.setCell ⟨rh, j, none⟩ (.pointer (some ⟨w.heap.size, 0, none⟩))) (.cells (holdC s q) 77) none
    exact ⟨this.os, this.tape, this.output, this.size, fun k hk _ => this.block k hk (by simp)⟩
  have t := t1.trans t2
  have hold' : ∀ x, x < j → ∃ b, upd HP j (some w.heap.size) x = some b ∧ w0.heap.size ≤ b ∧ At w b (holdC K[x]! (cnt L x)) 77 := fun x hx => by
    rw [upd_other HP _ (by omega)]; exact p.hold x hx
  refine ⟨⟨t.at p.rowC (p.rowC.ne p.rowH (by decide)), ?_, t.at p.rowM (p.rowM.ne p.rowH (by decide)), fun x hx => ?_, ?_, t.map p.mH (fun e => p.rowH.ne_map p.mH e.symm), ?_⟩, ?_, t, fun x hx e => ?_⟩
  · have a1 := p.rowH.set j (.pointer (some ⟨w.heap.size, 0, none⟩))
    rw [rowOf_set (f' := fun x => .pointer ((upd HP j (some w.heap.size) x).map pt))] at a1
    · exact t2'.at a1 (fun h => h)
    · simp [upd_same]
    · intro x _ hne; simp [upd_other HP _ hne]
  · obtain ⟨b, h1, h2, h3⟩ := hold' x hx
    exact ⟨b, h1, h2, t.at h3 (h3.ne p.rowH (by decide))⟩
  · intro x y hx hy e
    rw [upd_other HP _ (by omega), upd_other HP _ (by omega)] at e
    exact p.hinj x y hx hy e
  · exact hinv_congr p.hinv (fun x hx => upd_other HP _ (by omega))
  · rw [hs, hq, ← hW]
    have e : (w.setCell ⟨rh, j, none⟩ (.pointer (some ⟨w.heap.size, 0, none⟩))).heap.size = w.heap.size := by simp [World.setCell]
    have := heap_alloc_new (w.setCell ⟨rh, j, none⟩ (.pointer (some ⟨w.heap.size, 0, none⟩))) (.cells (holdC s q) 77)
    rw [e] at this
    exact this
  · obtain ⟨b, h1, -, h3⟩ := hold' x hx
    rw [h1] at e
    cases e
    exact absurd h3.lt (Nat.lt_irrefl _)

theorem hold_succ {nb : Nat} (p : HPart w0 w L K h kb rh rc rm j HP mp DH) (hh : At w nb (holdC K[j]! (cnt L j)) 77) (hn : HP j = some nb) (h0 : w0.heap.size ≤ nb) (hf : ∀ x, x < j → HP x ≠ some nb) :
    (∀ x, x < j + 1 → ∃ b, HP x = some b ∧ w0.heap.size ≤ b ∧ At w b (holdC K[x]! (cnt L x)) 77) ∧ (∀ x y, x < j + 1 → y < j + 1 → HP x = HP y → x = y) := by
  refine ⟨fun x hx => ?_, fun x y hx hy e => ?_⟩
  · by_cases e : x = j
    · subst e; exact ⟨nb, hn, h0, hh⟩
    · exact p.hold x (by omega)
  · by_cases ex : x = j
    · by_cases ey : y = j
      · omega
      · subst ex; rw [hn] at e; exact absurd e.symm (hf y (by omega))
    · by_cases ey : y = j
      · subst ey; rw [hn] at e; exact absurd e (hf x (by omega))
      · exact p.hinj x y (by omega) (by omega) e

theorem HPart.skip {nb : Nat} (p : HPart w0 w L K h kb rh rc rm j HP mp DH) (hh : At w nb (holdC K[j]! (cnt L j)) 77) (hn : HP j = some nb) (h0 : w0.heap.size ≤ nb) (hf : ∀ x, x < j → HP x ≠ some nb) :
    HPart w0 w L K h kb rh rc rm (j + 1) HP (upd mp j false) DH := by
  obtain ⟨a1, a2⟩ := hold_succ p hh hn h0 hf
  refine ⟨p.rowC, p.rowH, ?_, a1, a2, World.ownsMap.mono p.mH (by omega), hinv_skip p.hinv (fun x hx => upd_other mp _ (by omega)) (upd_same mp j false) (fun _ _ => rfl)⟩
  have := p.rowM
  rw [rowOf_congr (f' := fun x => .bool (decide (x < j + 1) && upd mp j false x))] at this
  · exact this
  · intro x _
    by_cases e : x = j
    · subst e; simp [upd_same]
    · rw [upd_other mp _ e]
      congr 2
      exact decide_eq_decide.2 (by omega)

theorem HPart.put {nb : Nat} {w1 : World} (p : HPart w0 w L K h kb rh rc rm j HP mp DH) (hh : At w nb (holdC K[j]! (cnt L j)) 77) (hn : HP j = some nb) (h0 : w0.heap.size ≤ nb) (hf : ∀ x, x < j → HP x ≠ some nb)
    (hs : K[j]!.size ≤ maxLen) (hnot : Maps.has DH (sk K[j]!) = false) (hc : 0 < cnt L j) (hm : mapH w1 kb (j + 1) (DH.put (sk K[j]!) (.lit (.int .i64 nb)))) (hg : w.grownBy w1 (some kb)) :
    HPart w0 (w1.setCell ⟨rm, j, none⟩ (.bool true)) L K h kb rh rc rm (j + 1) HP (upd mp j true) (DH.put (sk K[j]!) (.lit (.int .i64 nb))) := by
  obtain ⟨a1, a2⟩ := hold_succ p hh hn h0 hf
  have k1 : ∀ {b : Nat} {cs : Array Value} {t : TypeId}, At w b cs t → At w1 b cs t := fun ha => ha.keep hg (by simpa using ha.ne_map p.mH)
  refine ⟨(k1 p.rowC).other (p.rowC.ne p.rowM (by decide)) _, (k1 p.rowH).other (p.rowH.ne p.rowM (by decide)) _, ?_, fun x hx => ?_, a2, World.ownsMap.setCell hm (fun e => p.rowM.ne_map p.mH e.symm) _, hinv_put p.hinv (World.ownsMap.tidy p.mH key9) (key9.key (keyS hs)) hnot hc (fun x hx => upd_other mp _ (by omega)) (upd_same mp j true) (fun _ _ => rfl) hn⟩
  · have a3 := (k1 p.rowM).set j (.bool true)
    rw [rowOf_set (f' := fun x => .bool (decide (x < j + 1) && upd mp j true x))] at a3
    · exact a3
    · simp [upd_same]
    · intro x _ e
      rw [upd_other mp _ e]
      congr 2
      exact decide_eq_decide.2 (by omega)
  · obtain ⟨b, h1, h2, h3⟩ := a1 x hx
    exact ⟨b, h1, h2, (k1 h3).other (h3.ne p.rowM (by decide)) _⟩

/-- What holders[K[j]] says. -/
theorem HPart.look (p : HPart w0 w L K h kb rh rc rm j HP mp DH) (y : Nat) : ∃ o : Option Nat, Maps.has DH (sk K[y]!) = o.isSome ∧ (∀ x, o = some x → DH.atKey (sk K[y]!) .nil = .lit (.int .i64 (x : Nat))) ∧ ∀ b, o = some b → ∃ x, x < j ∧ mp x = true ∧ K[x]! = K[y]! ∧ HP x = some b := by
  cases e : Maps.has DH (sk K[y]!) with
  | false => exact ⟨none, rfl, fun x hx => (by cases hx), fun b hb => (by cases hb)⟩
  | true =>
    obtain ⟨x, h1, h2, h3⟩ := p.hinv.only y e
    obtain ⟨-, b, h4, h5⟩ := p.hinv.hit x h1 h2
    rw [h3] at h5
    exact ⟨some b, rfl, fun z hz => (by cases hz; exact h5), fun z hz => (by cases hz; exact ⟨x, h1, h2, h3, h4⟩)⟩
end
end Go.Proofs.Qxb6613886a
