/-
  The steps of zzBuild's third loop on what is known of memory.
-/
import Derived.Test.Qxb6613886aMemJ
namespace Go.Proofs.Qxb6613886a
open Go.RowKit Go.ChangeMaps Go.MapKept

section
variable {w0 w : World} {L : List Int} {n eb rn i : Nat} {HP NP : Nat → Option Nat} {DE : Dt}

theorem nwA_congr {NP NP' : Nat → Option Nat} {x : Nat} (h : ∀ y, y < x → NP' y = NP y) : nwA NP' x = nwA NP x := by
  unfold nwA
  by_cases e : x = 0
  · rw [if_pos e, if_pos e]
  · rw [if_neg e, if_neg e]; exact h _ (by omega)
theorem olA_congr {NP NP' : Nat → Option Nat} {m x : Nat} (h : ∀ y, y < m → NP' y = NP y) : olA NP' m x = olA NP m x := by
  unfold olA
  by_cases e : x + 1 < m
  · rw [if_pos e, if_pos e]; exact h _ e
  · rw [if_neg e, if_neg e]

theorem einv_congr {NP NP' : Nat → Option Nat} {i : Nat} {D : Dt} (h : EInv NP i D) (h3 : ∀ x, x < i → NP' x = NP x) : EInv NP' i D :=
  ⟨fun x hx => by rw [h3 x hx]; exact h.hit x hx, h.miss, h.size⟩

/-- A token made and noted in nodes. -/
theorem NPart.new {W : World} {nb : Nat} (p : NPart w0 w L n eb rn i HP NP DE) (t : Turn w W (fun k => k = rn)) (hrow : At W rn (rowOf n (fun x => .pointer ((upd NP i (some nb) x).map pt))) 32) :
    NPart w0 W L n eb rn i HP (upd NP i (some nb)) DE := by
  have hc : ∀ y, y < i → upd NP i (some nb) y = NP y := fun y hy => upd_other NP _ (by omega)
  refine ⟨hrow, fun x hx => ?_, t.map p.mE (fun e => p.rowN.ne_map p.mE e.symm), einv_congr p.einv hc⟩
  obtain ⟨b, hb, h1, h2, h3, h4⟩ := p.node x hx
  refine ⟨b, hb, (hc x hx).trans h1, h2, h3, ?_⟩
  rw [nwA_congr (fun y hy => hc y (by omega)), olA_congr hc]
  exact t.at h4 (h4.ne p.rowN (by decide))

/-- Token i is in the map; it is not linked yet. -/
structure NMid (w0 w : World) (L : List Int) (n eb rn i nb hb : Nat) (HP NP : Nat → Option Nat) (DE : Dt) : Prop where
  rowN : At w rn (rowOf n (fun x => .pointer ((NP x).map pt))) 32
  node : ∀ x, x < i → ∃ b hb, NP x = some b ∧ w0.heap.size ≤ b ∧ HP (L[x]!.toNat) = some hb ∧ At w b (nodeC x ((nwA NP x).map pt) ((olA NP i x).map pt) hb) 66
  last : NP i = some nb ∧ w0.heap.size ≤ nb ∧ HP (L[i]!.toNat) = some hb ∧ At w nb (nodeC i none none hb) 66
  mE : mapE w eb (i + 1) DE
  einv : EInv NP (i + 1) DE

theorem NPart.put {W1 : World} {nb hb : Nat} (p : NPart w0 w L n eb rn i HP NP DE) (hi : i < 65536) (hn : NP i = some nb) (h0 : w0.heap.size ≤ nb) (hh : HP (L[i]!.toNat) = some hb) (ha : At w nb (nodeC i none none hb) 66)
    (hm : mapE W1 eb (i + 1) (DE.put (kd i) (.lit (.int .i64 nb)))) (hg : w.grownBy W1 (some eb)) : NMid w0 W1 L n eb rn i nb hb HP NP (DE.put (kd i) (.lit (.int .i64 nb))) := by
  have k1 : ∀ {b : Nat} {cs : Array Value} {t : TypeId}, At w b cs t → At W1 b cs t := fun h => h.keep hg (by simpa using h.ne_map p.mE)
  refine ⟨k1 p.rowN, fun x hx => ?_, ⟨hn, h0, hh, k1 ha⟩, hm, einv_put p.einv (World.ownsMap.tidy p.mE key37) hi (fun _ _ => rfl) hn⟩
  obtain ⟨b, hb', h1, h2, h3, h4⟩ := p.node x hx
  exact ⟨b, hb', h1, h2, h3, k1 h4⟩

theorem NMid.first {nb hb : Nat} (p : NMid w0 w L n eb rn 0 nb hb HP NP DE) : NPart w0 w L n eb rn 1 HP NP DE := by
  refine ⟨p.rowN, fun x hx => ?_, p.mE, p.einv⟩
  obtain rfl : x = 0 := by omega
  obtain ⟨h1, h2, h3, h4⟩ := p.last
  exact ⟨nb, hb, h1, h2, h3, h4⟩

theorem NMid.prev {nb hb ip : Nat} (p : NMid w0 w L n eb rn (ip + 1) nb hb HP NP DE) (hi : ip + 1 < 65536) : ∃ a ha, NP ip = some a ∧ w0.heap.size ≤ a ∧ a ≠ nb ∧ HP (L[ip]!.toNat) = some ha ∧ At w a (nodeC ip ((nwA NP ip).map pt) none ha) 66 := by
  obtain ⟨a, ha, h1, h2, h3, h4⟩ := p.node ip (by omega)
  have e : olA NP (ip + 1) ip = none := by unfold olA; rw [if_neg (by omega)]
  rw [e] at h4
  refine ⟨a, ha, h1, h2, fun e' => ?_, h3, h4⟩
  subst e'
  have e2 := h4.symm.trans p.last.2.2.2
  simp at e2
  have := nodeC_inj (by omega) hi e2
  omega

theorem NMid.linked {nb hb ip a ha : Nat} (p : NMid w0 w L n eb rn (ip + 1) nb hb HP NP DE) (hi : ip + 1 < 65536) (h1 : NP ip = some a) (h2 : w0.heap.size ≤ a) (hne : a ≠ nb) (h3 : HP (L[ip]!.toNat) = some ha) (h4 : At w a (nodeC ip ((nwA NP ip).map pt) none ha) 66) :
    NPart w0 ((w.setCell ⟨a, 33, none⟩ (.pointer (some ⟨nb, 0, none⟩))).setCell ⟨nb, 32, none⟩ (.pointer (some ⟨a, 0, none⟩))) L n eb rn (ip + 1 + 1) HP NP DE := by
  obtain ⟨l1, l2, l3, l4⟩ := p.last
  refine ⟨(p.rowN.other (p.rowN.ne h4 (by decide)) _).other (p.rowN.ne l4 (by decide)) _, fun x hx => ?_, ?_, p.einv⟩
  · by_cases e1 : x = ip + 1
    · subst e1
      refine ⟨nb, hb, l1, l2, l3, ?_⟩
      have e : olA NP (ip + 1 + 1) (ip + 1) = none := by unfold olA; rw [if_neg (by omega)]
      have e' : nwA NP (ip + 1) = some a := by unfold nwA; rw [if_neg (by omega)]; exact h1
      rw [e, e']
      exact (l4.other hne.symm _).set 32 _
    · by_cases e2 : x = ip
      · subst e2
        refine ⟨a, ha, h1, h2, h3, ?_⟩
        have e : olA NP (x + 1 + 1) x = some nb := by unfold olA; rw [if_pos (by omega)]; exact l1
        rw [e]
        exact (h4.set 33 _).other hne _
      · obtain ⟨b, hb', g1, g2, g3, g4⟩ := p.node x (by omega)
        refine ⟨b, hb', g1, g2, g3, ?_⟩
        have e : olA NP (ip + 1 + 1) x = olA NP (ip + 1) x := by unfold olA; rw [if_pos (by omega), if_pos (by omega)]
        rw [e]
        have n1 : b ≠ a := fun e' => by
          subst e'
          have e3 := g4.symm.trans h4
          simp at e3
          have := nodeC_inj (by omega) (by omega) e3
          omega
        have n2 : b ≠ nb := fun e' => by
          subst e'
          have e3 := g4.symm.trans l4
          simp at e3
          have := nodeC_inj (by omega) (by omega) e3
          omega
        exact (g4.other n1 _).other n2 _
  · exact World.ownsMap.setCell (World.ownsMap.setCell p.mE (fun e => h4.ne_map p.mE e.symm) _) (fun e => l4.ne_map p.mE e.symm) _

theorem NMid.prev' {nb hb ip : Nat} (p : NMid w0 w L n eb rn i nb hb HP NP DE) (hip : i = ip + 1) (hi : i < 65536) : ∃ a ha, NP ip = some a ∧ w0.heap.size ≤ a ∧ a ≠ nb ∧ HP (L[ip]!.toNat) = some ha ∧ At w a (nodeC ip ((nwA NP ip).map pt) none ha) 66 := by
  subst hip; exact p.prev hi

theorem NMid.linked' {nb hb ip a ha : Nat} (p : NMid w0 w L n eb rn i nb hb HP NP DE) (hip : i = ip + 1) (hi : i < 65536) (h1 : NP ip = some a) (h2 : w0.heap.size ≤ a) (hne : a ≠ nb) (h3 : HP (L[ip]!.toNat) = some ha) (h4 : At w a (nodeC ip ((nwA NP ip).map pt) none ha) 66) :
    NPart w0 ((w.setCell ⟨a, 33, none⟩ (.pointer (some ⟨nb, 0, none⟩))).setCell ⟨nb, 32, none⟩ (.pointer (some ⟨a, 0, none⟩))) L n eb rn (i + 1) HP NP DE := by
  subst hip; exact p.linked hi h1 h2 hne h3 h4

theorem NPart.newN {wd W : World} {hb : Nat} (p : NPart w0 w L n eb rn i HP NP DE) (hgd : w.drew.grownBy wd none)
    (hW : ((wd.setCell ⟨rn, i, none⟩ (.pointer (some ⟨wd.heap.size + 1, 0, none⟩))).alloc (.cells (dg i) 37)).alloc (.cells (nodeC i none none hb) 66) = W) :
    NPart w0 W L n eb rn i HP (upd NP i (some (wd.heap.size + 1))) DE ∧ At W (wd.heap.size + 1) (nodeC i none none hb) 66 ∧ Turn w W (fun k => k = rn) ∧ w.heap.size ≤ wd.heap.size + 1 := by
  have g1 := undrew hgd
  have t0 : Turn w wd (fun k => k = rn) := Turn.of_grown g1 (fun k hk => by cases hk)
  have t1 : Turn wd (wd.setCell ⟨rn, i, none⟩ (.pointer (some ⟨wd.heap.size + 1, 0, none⟩))) (fun k => k = rn) := Turn.set _ _ _ rfl
  have g2 : (wd.setCell ⟨rn, i, none⟩ (.pointer (some ⟨wd.heap.size + 1, 0, none⟩))).grownBy W none := by
    rw [← hW]; exact (World.grownBy_alloc _ _ none).trans (World.grownBy_alloc _ _ none)
  have t2 : Turn (wd.setCell ⟨rn, i, none⟩ (.pointer (some ⟨wd.heap.size + 1, 0, none⟩))) W (fun k => k = rn) := Turn.of_grown g2 (fun k hk => by cases hk)
  have t := (t0.trans t1).trans t2
  have hrow : At W rn (rowOf n (fun x => .pointer ((upd NP i (some (wd.heap.size + 1)) x).map pt))) 32 := by
    have a1 := (p.rowN.keep g1 (by simp)).set i (.pointer (some ⟨wd.heap.size + 1, 0, none⟩))
    rw [rowOf_set (f' := fun x => .pointer ((upd NP i (some (wd.heap.size + 1)) x).map pt))] at a1
    · exact a1.keep g2 (by simp)
    · simp [upd_same]
    · intro x _ hne; simp [upd_other NP _ hne]
  refine ⟨p.new t hrow, ?_, t, by have := g1.size; omega⟩
  rw [← hW]
  have e : ((wd.setCell ⟨rn, i, none⟩ (.pointer (some ⟨wd.heap.size + 1, 0, none⟩))).alloc (.cells (dg i) 37)).heap.size = wd.heap.size + 1 := by simp [World.setCell]
  have := heap_alloc_new ((wd.setCell ⟨rn, i, none⟩ (.pointer (some ⟨wd.heap.size + 1, 0, none⟩))).alloc (.cells (dg i) 37)) (.cells (nodeC i none none hb) 66)
  rw [e] at this
  exact this
end

/-- What zzBuild lays. -/
structure Built (w0 w : World) (L : List Int) (K : List ByteArray) (n h g eb kb rn rh rc rm : Nat) (HP NP : Nat → Option Nat) (mp : Nat → Bool) (DE DH : Dt) : Prop where
  grown : w0.grownBy w none
  hek : eb ≠ kb
  hg : w0.heap.size ≤ g
  he : w0.heap.size ≤ eb
  hk : w0.heap.size ≤ kb
  mem : At w g (memC n eb kb ((if n = 0 then none else NP 0).map pt) ((if n = 0 then none else NP (n - 1)).map pt)) 63
  hp : HPart w0 w L K h kb rh rc rm h HP mp DH
  np : NPart w0 w L n eb rn n HP NP DE

def BuiltR (w0 w : World) (e : Ending) (L : List Int) (K : List ByteArray) (n h : Nat) : Prop :=
  ∃ g eb kb rn rh rc rm HP NP mp DE DH, e = .returned (.tuple #[.pointer (some ⟨g, 0, none⟩), .slice (some ⟨rn, 0, none⟩) n n, .slice (some ⟨rh, 0, none⟩) h h, .slice (some ⟨rc, 0, none⟩) h h, .slice (some ⟨rm, 0, none⟩) h h]) ∧ Built w0 w L K n h g eb kb rn rh rc rm HP NP mp DE DH

theorem results_tmp5 {fn : Func} {t u v x y : Tmp} (h : fn.results = #[.tmp t, .tmp u, .tmp v, .tmp x, .tmp y]) (tmps : Array Value) (P : Program) (w : World) :
    (results fn tmps).run P w = .ok (.tuple #[tmps.getD t undef, tmps.getD u undef, tmps.getD v undef, tmps.getD x undef, tmps.getD y undef]) w := by
  simp [results, h]
end Go.Proofs.Qxb6613886a
