/-
  drop.
-/
import Derived.Test.Qxb6613886aMemP
namespace Go.Proofs.Qxb6613886a
open Go.RowKit Go.ChangeMaps Go.MapKept

theorem undrewN {w w' : World} {n : Nat} {row : Option Nat} (h : (w.drewN n).drew.grownBy w' row) : w.grownBy w' row := ⟨h.os, h.tape, h.output, h.size, h.block⟩

theorem wp_world {P : Program} {c : Code} {Q : Exit → Act → World → Prop} {a : Act} {W : World} (R : World → Prop) (h : R W) (k : ∀ W', R W' → Code.wp P c Q a W') : Code.wp P c Q a W := k W h

/-- 'delete(m, k)' as one step of a region that draws. -/
theorem step_delete_own {H : Type} {P : Program} {ops : Array Oper} {o : Oper} {a : Act} {w : World} {K : Act → World → Prop} {Q : Exit → Act → World → Prop} {E : Prop}
    (hg : o.guard = none) (m x : Operand) (t k : TypeId) (hop : o.op = Op.call { callee := Callee.builtin Builtin.delete, args := #[m, x], argTypes := #[t, k] })
    (e : TypeId) (Kd : Maps.Keyed P k) (ht : P.underlying t = some (.map k e)) (R : Value → Option (DataW H × List MemPlace)) (b n : Nat) (D : DataW H)
    (hm : a.eval m = .map (some b)) (hown : w.ownsMap P k R b n D) (key : Value) (kl : Lit) (hx : a.eval x = key) (hkey : keyOf P k key = some kl)
    (hK : ∀ w', w'.ownsMap P k R b n (D.del kl) → w.mapTurned w' b → K (a.put o.dst (.tuple #[])) w') :
    if Region.wanted o (yielded ops a.tmps) = true then Oper.wp P o a w K Q else E := by
  have hw : Region.wanted o (yielded ops a.tmps) = true := by simp [Region.wanted, hg]
  rw [if_pos hw]
  obtain ⟨w', hrun, r1, r2⟩ := hown.drop Kd ht hkey o.type
  unfold Oper.wp
  simp [execOp, hop, resolve, invoke, builtin, hm, hx, hrun, Result.andThen]
  exact hK _ r1 r2

theorem Like.at {w w' : World} {b : Nat} {cs : Array Value} {t : TypeId} (h : Like w w') (ha : At w b cs t) : At w' b cs t := by
  unfold At at *; rw [h.heap]; exact ha
theorem Like.map {w w' : World} {k b n : Nat} {D : Dt} (h : Like w w') (ha : w.ownsMap Try.prog k ptrElem b n D) : w'.ownsMap Try.prog k ptrElem b n D := by
  obtain ⟨es, clock, hb, r⟩ := ha
  exact ⟨es, clock, by rw [h.heap]; exact hb, r⟩
theorem Like.below {w w' : World} (h : Like w w') (B : Nat) : Below B w w' := ⟨h.os, h.tape, h.output, by rw [h.heap]; exact Nat.le_refl _, fun k _ => by rw [h.heap]⟩

/-- A turn of memory: what of w is still there in w' but for the blocks 'ex'. -/
structure Turn (w w' : World) (ex : Nat → Prop) : Prop where
  os : w'.os = w.os
  tape : w'.tape = w.tape
  output : w'.output = w.output
  size : w.heap.size ≤ w'.heap.size
  block : ∀ k, k < w.heap.size → ¬ ex k → w'.heap[k]? = w.heap[k]?

theorem Turn.refl (w : World) (ex : Nat → Prop) : Turn w w ex := ⟨rfl, rfl, rfl, Nat.le_refl _, fun _ _ _ => rfl⟩
theorem Turn.trans {w w' w'' : World} {ex : Nat → Prop} (h : Turn w w' ex) (h' : Turn w' w'' ex) : Turn w w'' ex :=
  ⟨h'.os.trans h.os, h'.tape.trans h.tape, h'.output.trans h.output, Nat.le_trans h.size h'.size, fun k hk hn => (h'.block k (Nat.lt_of_lt_of_le hk h.size) hn).trans (h.block k hk hn)⟩
theorem Turn.of_grown {w w' : World} {row : Option Nat} {ex : Nat → Prop} (h : w.grownBy w' row) (hr : ∀ k, row = some k → ex k) : Turn w w' ex :=
  ⟨h.os, h.tape, h.output, h.size, fun k hk hn => h.block k hk (fun e => hn (hr k e.symm))⟩
theorem Turn.of_like {w w' : World} {ex : Nat → Prop} (h : Like w w') : Turn w w' ex := ⟨h.os, h.tape, h.output, by rw [h.heap]; exact Nat.le_refl _, fun k _ _ => by rw [h.heap]⟩
theorem Turn.set (w : World) (a : Addr) (v : Value) {ex : Nat → Prop} (h : ex a.block) : Turn w (w.setCell a v) ex := Turn.of_grown (grown_set w a v) (fun k hk => by cases hk; exact h)
theorem Turn.at {w w' : World} {ex : Nat → Prop} {b : Nat} {cs : Array Value} {t : TypeId} (h : Turn w w' ex) (ha : At w b cs t) (hn : ¬ ex b) : At w' b cs t := (h.block b ha.lt hn).trans ha
theorem Turn.map {w w' : World} {ex : Nat → Prop} {k b n : Nat} {D : Dt} (h : Turn w w' ex) (ha : w.ownsMap Try.prog k ptrElem b n D) (hn : ¬ ex b) : w'.ownsMap Try.prog k ptrElem b n D := by
  have hlt := ha.lt
  obtain ⟨es, clock, hb, r⟩ := ha
  exact ⟨es, clock, (h.block b hlt hn).trans hb, r⟩
theorem Turn.below {w w' : World} {ex : Nat → Prop} (h : Turn w w' ex) {B : Nat} (hB : B ≤ w.heap.size) (he : ∀ k, ex k → B ≤ k) : Below B w w' :=
  ⟨h.os, h.tape, h.output, h.size, fun k hk => h.block k (by omega) (fun e => by have := he k e; omega)⟩
theorem Turn.mono {w w' : World} {ex ex' : Nat → Prop} (h : Turn w w' ex) (he : ∀ k, ex k → ex' k) : Turn w w' ex' := ⟨h.os, h.tape, h.output, h.size, fun k hk hn => h.block k hk (fun e => hn (he k e))⟩

/-- What unlink leaves. -/
structure Unlinked (w w' : World) (g eb kb b i hb : Nat) (cap : Int) (nst ost : Option Addr) (nw ol : Option Nat) : Prop where
  turn : Turn w w' (fun k => k = g ∨ k = b ∨ nw = some k ∨ ol = some k)
  mem : At w' g (memC cap eb kb (if nw = none then ol.map pt else nst) (if ol = none then nw.map pt else ost)) 63
  node : At w' b (nodeC i none none hb) 66
  newer : ∀ a ia na oa ha, nw = some a → At w a (nodeC ia na oa ha) 66 → At w' a (nodeC ia na (ol.map pt) ha) 66
  older : ∀ c ic nc oc hc, ol = some c → At w c (nodeC ic nc oc hc) 66 → At w' c (nodeC ic (nw.map pt) oc hc) 66

theorem unlinked_of {w : World} {g eb kb b i hb : Nat} {cap : Int} {nst ost : Option Addr} {nw ol : Option Nat} (hg : At w g (memC cap eb kb nst ost) 63) (hr : At w b (nodeC i (nw.map pt) (ol.map pt) hb) 66)
    (hN : ∀ a, nw = some a → a ≠ b ∧ ∃ ia na oa ha, At w a (nodeC ia na oa ha) 66) (hO : ∀ c, ol = some c → c ≠ b ∧ ∃ ia na oa ha, At w c (nodeC ia na oa ha) 66) (hNO : ∀ a c, nw = some a → ol = some c → a ≠ c) :
    Unlinked w (unl g b nw ol w) g eb kb b i hb cap nst ost nw ol := by
  have gb : g ≠ b := hg.ne hr (by decide)
  cases nw with
  | none =>
    cases ol with
    | none =>
      refine ⟨?_, ?_, ?_, fun _ _ _ _ _ h => (by cases h), fun _ _ _ _ _ h => (by cases h)⟩
      · exact (((Turn.set w _ _ (.inl rfl)).trans (Turn.set _ _ _ (.inl rfl))).trans (Turn.set _ _ _ (.inr (.inl rfl)))).trans (Turn.set _ _ _ (.inr (.inl rfl)))
      · exact (((hg.set 4 _).set 5 _).other gb _).other gb _
      · exact (((hr.other gb.symm _).other gb.symm _).set 32 _).set 33 _
    | some c =>
      obtain ⟨cb, ic, nc, oc, hc, hcc⟩ := hO c rfl
      have cg : c ≠ g := hcc.ne hg (by decide)
      refine ⟨?_, ?_, ?_, fun _ _ _ _ _ h => (by cases h), fun c' ic' nc' oc' hc' h h' => ?_⟩
      · exact (((Turn.set w _ _ (.inl rfl)).trans (Turn.set _ _ _ (.inr (.inr (.inr rfl))))).trans (Turn.set _ _ _ (.inr (.inl rfl)))).trans (Turn.set _ _ _ (.inr (.inl rfl)))
      · exact (((hg.set 4 _).other cg.symm _).other gb _).other gb _
      · exact (((hr.other gb.symm _).other cb.symm _).set 32 _).set 33 _
      · cases h
        exact (((h'.other cg _).set 32 _).other cb _).other cb _
  | some a =>
    obtain ⟨ab, ia, na, oa, ha, haa⟩ := hN a rfl
    have ag : a ≠ g := haa.ne hg (by decide)
    cases ol with
    | none =>
      refine ⟨?_, ?_, ?_, fun a' ia' na' oa' ha' h h' => ?_, fun _ _ _ _ _ h => (by cases h)⟩
      · exact (((Turn.set w _ _ (.inr (.inr (.inl rfl)))).trans (Turn.set _ _ _ (.inl rfl))).trans (Turn.set _ _ _ (.inr (.inl rfl)))).trans (Turn.set _ _ _ (.inr (.inl rfl)))
      · exact (((hg.other ag.symm _).set 5 _).other gb _).other gb _
      · exact (((hr.other ab.symm _).other gb.symm _).set 32 _).set 33 _
      · cases h
        exact (((h'.set 33 _).other ag _).other ab _).other ab _
    | some c =>
      obtain ⟨cb, ic, nc, oc, hc, hcc⟩ := hO c rfl
      have cg : c ≠ g := hcc.ne hg (by decide)
      have ac : a ≠ c := hNO a c rfl rfl
      refine ⟨?_, ?_, ?_, fun a' ia' na' oa' ha' h h' => ?_, fun c' ic' nc' oc' hc' h h' => ?_⟩
      · exact (((Turn.set w _ _ (.inr (.inr (.inl rfl)))).trans (Turn.set _ _ _ (.inr (.inr (.inr rfl))))).trans (Turn.set _ _ _ (.inr (.inl rfl)))).trans (Turn.set _ _ _ (.inr (.inl rfl)))
      · exact (((hg.other ag.symm _).other cg.symm _).other gb _).other gb _
      · exact (((hr.other ab.symm _).other cb.symm _).set 32 _).set 33 _
      · cases h
        exact (((h'.set 33 _).other ac _).other ab _).other ab _
      · cases h
        exact (((h'.other ac.symm _).set 32 _).other cb _).other cb _

/-- What drop leaves. -/
def Dropped (w w' : World) (g eb kb b i hb nE nH : Nat) (tk : Int) (nw ol p : Option Nat) (s : ByteArray) (DE DH : Dt) : Prop :=
  ∃ w1 w2 w3, mapE w1 eb nE (DE.del (kd i)) ∧ w.grownBy w1 (some eb) ∧ Like (unl g b nw ol w1) w2 ∧ Like (w2.setCell ⟨hb, 12, none⟩ (.int .i64 (tk - 1))) w3 ∧
    ((tk = 1 ∧ p = some hb ∧ mapH w' kb nH (DH.del (sk s)) ∧ w3.grownBy w' (some kb)) ∨ (¬ (tk = 1 ∧ p = some hb) ∧ Like w3 w'))

set_option maxHeartbeats 1600000 in
theorem drop_calls (g eb kb b i hb nE nH : Nat) (cap tk : Int) (nst ost : Option Addr) (nw ol p : Option Nat) (s : ByteArray) (DE DH : Dt) (w : World) (hs : s.size ≤ maxLen) (htk : 1 ≤ tk ∧ tk ≤ 65536) (hek : eb ≠ kb)
    (hg : At w g (memC cap eb kb nst ost) 63) (hr : At w b (nodeC i (nw.map pt) (ol.map pt) hb) 66) (hh : At w hb (holdC s tk) 77) (hmE : mapE w eb nE DE) (hmH : mapH w kb nH DH)
    (hp : Maps.has DH (sk s) = p.isSome) (hpa : ∀ x, p = some x → DH.atKey (sk s) .nil = .lit (.int .i64 (x : Nat))) (hpl : ∀ x, p = some x → ∃ s' n', At w x (holdC s' n') 77)
    (hN : ∀ a, nw = some a → a ≠ b ∧ ∃ ia na oa ha, At w a (nodeC ia na oa ha) 66) (hO : ∀ c, ol = some c → c ≠ b ∧ ∃ ia na oa ha, At w c (nodeC ia na oa ha) 66) (hNO : ∀ a c, nw = some a → ol = some c → a ≠ c) :
    Calls Try.prog 26 #[.pointer (some ⟨g, 0, none⟩), .pointer (some ⟨b, 0, none⟩)] w fun e w' => e = .returned (.tuple #[]) ∧ Dropped w w' g eb kb b i hb nE nH tk nw ol p s DE DH := by
  have c1 : w.cell? ⟨g, 3, none⟩ = some (.map (some eb)) := hg.cell 3 rfl
  have c2 : w.rangeAt b 0 (dg i).toList := fun j v hv => by
    rw [Nat.zero_add]
    refine hr.cell j ?_
    have hj : j < 32 := by
      have := (List.getElem?_eq_some_iff.1 hv).1
      simpa [dg] using this
    rw [nodeC_dg i _ _ hb j hj]; exact hv
  obtain ⟨cs, hcs⟩ : ∃ cs, cs = (dg i).toList := ⟨_, rfl⟩
  have hk : keyOf Try.prog 37 (.agg cs.toArray) = some (kd i) := by rw [hcs]; simpa using keyD i
  have hu := Try.underlying37
  have hsz : (Try.prog.info? 37).map (·.size) = some cs.length := by rw [hcs, Array.length_toList]; exact info37
  rw [← hcs] at c2
  have ng := hg.ne_map hmE
  have nn := hr.ne_map hmE
  have HME : Hid (w.ownsMap Try.prog 37 ptrElem eb nE DE) := hmE
  clear hcs
  go_enter Try.func26, Try.ntmps26
  go_wp2_with fail
  go_region_held3 (fun w' => w'.cell? ⟨g, 3, none⟩ = some (.map (some eb)) ∧ w'.rangeAt b 0 cs) (simp [*, go_sem])
    ((refine step_delete_own rfl (.tmp 7) (.tmp 11) 59 37 rfl 32 key37 Try.underlying59 ptrElem eb nE DE rfl HME.out _ (kd i) rfl hk ?_; intro w1 ho1 ht1; have hw2a : w1.cell? ⟨g, 3, none⟩ = some (.map (some eb)) := ht1.grown.cell (w := w.drew) c1 (by simpa using ng); have hw2b : w1.rangeAt b 0 cs := fun j v hv => ht1.grown.cell (w := w.drew) (c2 j v hv) (by simpa using nn)))
  have t1 := undrew ht1.grown
  have hu1 : Hid (Unlinked w1 (unl g b nw ol w1) g eb kb b i hb cap nst ost nw ol) := unlinked_of (hg.keep t1 (by simpa using ng)) (hr.keep t1 (by simpa using nn)) (fun a h => ⟨(hN a h).1, by obtain ⟨-, x1, x2, x3, x4, h4⟩ := hN a h; exact ⟨x1, x2, x3, x4, h4.keep t1 (by simpa using h4.ne_map hmE)⟩⟩) (fun a h => ⟨(hO a h).1, by obtain ⟨-, x1, x2, x3, x4, h4⟩ := hO a h; exact ⟨x1, x2, x3, x4, h4.keep t1 (by simpa using h4.ne_map hmE)⟩⟩) hNO
  have hc1 := unlink_calls g eb kb b i hb cap nst ost nw ol w1 (hg.keep t1 (by simpa using ng)) (hr.keep t1 (by simpa using nn)) (fun a h => ⟨(hN a h).1, by obtain ⟨-, x1, x2, x3, x4, h4⟩ := hN a h; exact ⟨x1, x2, x3, x4, h4.keep t1 (by simpa using h4.ne_map hmE)⟩⟩) (fun a h => ⟨(hO a h).1, by obtain ⟨-, x1, x2, x3, x4, h4⟩ := hO a h; exact ⟨x1, x2, x3, x4, h4.keep t1 (by simpa using h4.ne_map hmE)⟩⟩) hNO
  have HC1 := hidI hc1
  have hh1 : Hid (At w1 hb (holdC s tk) 77) := hh.keep t1 (by simpa using hh.ne_map hmE)
  have hmH1 : Hid (w1.ownsMap Try.prog 9 ptrElem kb nH DH) := World.ownsMap.kept hmH t1 (by simpa using hek.symm)
  have HO1 : Hid (mapE w1 eb nE (DE.del (kd i))) := ho1
  have HT1 : Hid (w.grownBy w1 (some eb)) := t1
  obtain ⟨htk1, htk2⟩ := htk
  have HP1 : Hid (∀ x, p = some x → ∃ s' n', At w1 x (holdC s' n') 77 ∧ ¬ (x = g ∨ x = b ∨ nw = some x ∨ ol = some x)) := fun x hx => by
    obtain ⟨s', n', h'⟩ := hpl x hx
    refine ⟨s', n', h'.keep t1 (by simpa using h'.ne_map hmE), ?_⟩
    rintro (h | h | h | h)
    · exact h'.ne hg (by decide) h
    · exact h'.ne hr (by decide) h
    · obtain ⟨-, x1, x2, x3, x4, h4⟩ := hN x h; exact h'.ne h4 (by decide) rfl
    · obtain ⟨-, x1, x2, x3, x4, h4⟩ := hO x h; exact h'.ne h4 (by decide) rfl
  have HKH : Hid (hb ≠ kb) := hh.ne_map hmH
  have HNB : Hid (hb ≠ g ∧ hb ≠ b ∧ (∀ a, nw = some a → hb ≠ a) ∧ (∀ a, ol = some a → hb ≠ a) ∧ kb ≠ g ∧ kb ≠ b ∧ (∀ a, nw = some a → kb ≠ a) ∧ (∀ a, ol = some a → kb ≠ a)) :=
    ⟨hh.ne hg (by decide), hh.ne hr (by decide), fun a h => by obtain ⟨-, x1, x2, x3, x4, h4⟩ := hN a h; exact hh.ne h4 (by decide), fun a h => by obtain ⟨-, x1, x2, x3, x4, h4⟩ := hO a h; exact hh.ne h4 (by decide), (hg.ne_map hmH).symm, (hr.ne_map hmH).symm, fun a h => by obtain ⟨-, x1, x2, x3, x4, h4⟩ := hN a h; exact (h4.ne_map hmH).symm, fun a h => by obtain ⟨-, x1, x2, x3, x4, h4⟩ := hO a h; exact (h4.ne_map hmH).symm⟩
  clear hg hr hh hmE hmH hpl hN hO hNO t1 ht1 ho1 hc1 c1 c2 hk hu hsz ng nn HME hw2a hw2b
  go_wp2_with fail
  refine HC1.out.mono ?_
  rintro e w2 ⟨rfl, hlike⟩
  have g6 : w2.cell? ⟨g, 6, none⟩ = some (.map (some kb)) := (hlike.at hu1.out.mem).cell 6 rfl
  have b34 : w2.cell? ⟨b, 34, none⟩ = some (.pointer (some ⟨hb, 0, none⟩)) := (hlike.at hu1.out.node).cell 34 rfl
  have hnx : ¬ (fun k => k = g ∨ k = b ∨ nw = some k ∨ ol = some k) hb := by
    obtain ⟨h1, h2, h3, h4, -⟩ := HNB.out
    rintro (h | h | h | h)
    · exact h1 h
    · exact h2 h
    · exact h3 hb h rfl
    · exact h4 hb h rfl
  have hkx : ¬ (fun k => k = g ∨ k = b ∨ nw = some k ∨ ol = some k) kb := by
    obtain ⟨-, -, -, -, h1, h2, h3, h4⟩ := HNB.out
    rintro (h | h | h | h)
    · exact h1 h
    · exact h2 h
    · exact h3 kb h rfl
    · exact h4 kb h rfl
  have hh2 : At w2 hb (holdC s tk) 77 := hlike.at (hu1.out.turn.at hh1.out hnx)
  have h12 : w2.cell? ⟨hb, 12, none⟩ = some (.int .i64 tk) := hh2.cell 12 rfl
  have f12 := hh2.frz 12
  have HH3 : Hid (At (w2.setCell ⟨hb, 12, none⟩ (.int .i64 (tk - 1))) hb (holdC s (tk - 1)) 77) := hh2.set 12 _
  have HM3 : Hid ((w2.setCell ⟨hb, 12, none⟩ (.int .i64 (tk - 1))).ownsMap Try.prog 9 ptrElem kb nH DH) := (hlike.map (hu1.out.turn.map hmH1.out hkx)).setCell (by simpa using (hh2.ne_map (hlike.map (hu1.out.turn.map hmH1.out hkx))).symm) _
  have hbg := HNB.out.1
  have hbb := HNB.out.2.1
  have HLK : Hid (Like (unl g b nw ol w1) w2) := hlike
  have hgb2 : g ≠ hb := hbg.symm
  have hbb2 : b ≠ hb := hbb.symm
  have HLV : Hid (Live (w2.setCell ⟨hb, 12, none⟩ (.int .i64 (tk - 1))) p) := fun x hx => by
    by_cases e : x = hb
    · subst e; exact ⟨_, _, HH3.out⟩
    · obtain ⟨s', n', h', hx'⟩ := HP1.out x hx
      exact ⟨_, _, (hlike.at (hu1.out.turn.at h' hx')).other e _⟩
  clear hlike hnx hkx hh2
  go_wp2_with fail
  refine wp_world (fun W => Like (w2.setCell ⟨hb, 12, none⟩ (.int .i64 (tk - 1))) W ∧ W.cell? ⟨g, 6, none⟩ = some (.map (some kb)) ∧ W.cell? ⟨b, 34, none⟩ = some (.pointer (some ⟨hb, 0, none⟩)) ∧ W.cell? ⟨hb, 12, none⟩ = some (.int .i64 (tk - 1)) ∧ W.cell? ⟨hb, 0, none⟩ = some (.string s) ∧ W.ownsMap Try.prog 9 ptrElem kb nH DH) ⟨⟨rfl, rfl, rfl, rfl⟩, (grown_set w2 _ _).cell g6 (by simpa using hgb2), (grown_set w2 _ _).cell b34 (by simpa using hbb2), HH3.out.cell 12 rfl, HH3.out.cell 0 rfl, HM3.out⟩ ?_
  rintro W3 ⟨hl3, m6, m34, m12, m0, hm3⟩
  have lq : Live W3 (some hb) := fun x hx => by cases hx; exact ⟨_, _, hl3.at HH3.out⟩
  have lp : Live W3 p := fun x hx => by obtain ⟨cs', t', h'⟩ := HLV.out x hx; exact ⟨_, _, hl3.at h'⟩
  have heq := fun n => eql42 (W3.drewN n) p (some hb) (lp.drewN n) (lq.drewN n)
  have HL3 : Hid (Like (w2.setCell ⟨hb, 12, none⟩ (.int .i64 (tk - 1))) W3) := hl3
  have HMM : Hid (W3.ownsMap Try.prog 9 ptrElem kb nH DH) := hm3
  clear g6 b34 h12 f12 HH3 HM3 hl3 lp lq HLV HP1
  have hlk := fun n => lookH1 kb nH DH s hs p hp hpa (W3.drewN n) hm3
  clear hm3
  by_cases h1 : tk = 1
  · subst h1
    simp only [show (1 : Int) - 1 = 0 from rfl] at m12
    by_cases hph : p = some hb
    · subst hph
      simp only [Option.map, BEq.rfl] at hlk heq
      have k6 : kb ≠ g := HNB.out.2.2.2.2.1
      have kb' : kb ≠ b := HNB.out.2.2.2.2.2.1
      go_quiet (fail)
      go_wp2_with fail
      go_region_held3 (fun w' => w'.cell? ⟨g, 6, none⟩ = some (.map (some kb)) ∧ w'.cell? ⟨b, 34, none⟩ = some (.pointer (some ⟨hb, 0, none⟩)) ∧ w'.cell? ⟨hb, 0, none⟩ = some (.string s)) (simp [*, go_sem])
        ((refine step_delete_own rfl (.tmp 55) (.tmp 62) 60 9 rfl 42 key9 Try.underlying60 ptrElem kb nH DH rfl HMM.out _ (sk s) rfl (keyS hs) ?_; intro w5 ho5 ht5; have hw2a : w5.cell? ⟨g, 6, none⟩ = some (.map (some kb)) := (ht5.grown.cell m6 (by simpa using k6.symm)); have hw2b : w5.cell? ⟨b, 34, none⟩ = some (.pointer (some ⟨hb, 0, none⟩)) := (ht5.grown.cell m34 (by simpa using kb'.symm)); have hw2c : w5.cell? ⟨hb, 0, none⟩ = some (.string s) := (ht5.grown.cell m0 (by simpa using HKH.out))))
      go_wp2_with fail
      go_end0
      exact ⟨rfl, w1, w2, W3, HO1.out, HT1.out, HLK.out, HL3.out, .inl ⟨rfl, rfl, ho5, undrewN ht5.grown⟩⟩
    · have hpf : (p == some hb) = false := beq_eq_false_iff_ne.2 hph
      simp only [hpf] at heq
      cases p with
      | none =>
        simp only [Option.map] at hlk heq
        go_quiet (fail)
        go_wp2_with fail
        go_end0
        exact ⟨rfl, w1, w2, W3, HO1.out, HT1.out, HLK.out, HL3.out, .inr ⟨fun h => hph h.2, ⟨rfl, rfl, rfl, rfl⟩⟩⟩
      | some x =>
        simp only [Option.map] at hlk heq
        go_quiet (fail)
        go_wp2_with fail
        go_end0
        exact ⟨rfl, w1, w2, W3, HO1.out, HT1.out, HLK.out, HL3.out, .inr ⟨fun h => hph h.2, ⟨rfl, rfl, rfl, rfl⟩⟩⟩
  · have hne1 : (tk - 1 == 0) = false := beq_eq_false_iff_ne.2 (by omega)
    have hne2 : decide (tk - 1 = 0) = false := decide_eq_false (by omega)
    go_quiet (fail)
    go_wp2_with fail
    go_end0
    exact ⟨rfl, w1, w2, W3, HO1.out, HT1.out, HLK.out, HL3.out, .inr ⟨fun h => h1 h.1, ⟨rfl, rfl, rfl, rfl⟩⟩⟩

/-- What drop leaves, object by object. -/
structure After (w w' : World) (g eb kb b i hb nE nH : Nat) (cap tk : Int) (nst ost : Option Addr) (nw ol p : Option Nat) (s : ByteArray) (DE DH : Dt) : Prop where
  turn : Turn w w' (fun k => k = g ∨ k = b ∨ nw = some k ∨ ol = some k ∨ k = hb ∨ k = eb ∨ k = kb)
  mem : At w' g (memC cap eb kb (if nw = none then ol.map pt else nst) (if ol = none then nw.map pt else ost)) 63
  node : At w' b (nodeC i none none hb) 66
  newer : ∀ a ia na oa ha, nw = some a → At w a (nodeC ia na oa ha) 66 → At w' a (nodeC ia na (ol.map pt) ha) 66
  older : ∀ c ic nc oc hc, ol = some c → At w c (nodeC ic nc oc hc) 66 → At w' c (nodeC ic (nw.map pt) oc hc) 66
  hold : At w' hb (holdC s (tk - 1)) 77
  mE : mapE w' eb nE (DE.del (kd i))
  mH : mapH w' kb nH (if tk = 1 ∧ p = some hb then DH.del (sk s) else DH)

theorem after_of {w w' : World} {g eb kb b i hb nE nH : Nat} {cap tk : Int} {nst ost : Option Addr} {nw ol p : Option Nat} {s : ByteArray} {DE DH : Dt} (hek : eb ≠ kb)
    (hg : At w g (memC cap eb kb nst ost) 63) (hr : At w b (nodeC i (nw.map pt) (ol.map pt) hb) 66) (hh : At w hb (holdC s tk) 77) (hmE : mapE w eb nE DE) (hmH : mapH w kb nH DH)
    (hN : ∀ a, nw = some a → a ≠ b ∧ ∃ ia na oa ha, At w a (nodeC ia na oa ha) 66) (hO : ∀ c, ol = some c → c ≠ b ∧ ∃ ia na oa ha, At w c (nodeC ia na oa ha) 66) (hNO : ∀ a c, nw = some a → ol = some c → a ≠ c)
    (hd : Dropped w w' g eb kb b i hb nE nH tk nw ol p s DE DH) : After w w' g eb kb b i hb nE nH cap tk nst ost nw ol p s DE DH := by
  obtain ⟨w1, w2, w3, m1, t1, l2, l3, hfin⟩ := hd
  have k1 : ∀ {x : Nat} {cs : Array Value} {t : TypeId}, At w x cs t → At w1 x cs t := fun h => h.keep t1 (by simpa using h.ne_map hmE)
  have u := unlinked_of (k1 hg) (k1 hr) (fun a h => ⟨(hN a h).1, by obtain ⟨-, x1, x2, x3, x4, h4⟩ := hN a h; exact ⟨x1, x2, x3, x4, k1 h4⟩⟩) (fun a h => ⟨(hO a h).1, by obtain ⟨-, x1, x2, x3, x4, h4⟩ := hO a h; exact ⟨x1, x2, x3, x4, k1 h4⟩⟩) hNO
  have hnx : ¬ (hb = g ∨ hb = b ∨ nw = some hb ∨ ol = some hb) := by
    rintro (h | h | h | h)
    · exact hh.ne hg (by decide) h
    · exact hh.ne hr (by decide) h
    · obtain ⟨-, x1, x2, x3, x4, h4⟩ := hN hb h; exact hh.ne h4 (by decide) rfl
    · obtain ⟨-, x1, x2, x3, x4, h4⟩ := hO hb h; exact hh.ne h4 (by decide) rfl
  have hmapx : ∀ {k n x : Nat} {D : Dt}, w.ownsMap Try.prog k ptrElem x n D → ¬ (x = g ∨ x = b ∨ nw = some x ∨ ol = some x) := fun {k n x D} hm => by
    rintro (h | h | h | h)
    · exact hg.ne_map hm h.symm
    · exact hr.ne_map hm h.symm
    · obtain ⟨-, x1, x2, x3, x4, h4⟩ := hN x h; exact h4.ne_map hm rfl
    · obtain ⟨-, x1, x2, x3, x4, h4⟩ := hO x h; exact h4.ne_map hm rfl
  have hh2 : At w2 hb (holdC s tk) 77 := l2.at (u.turn.at (k1 hh) hnx)
  have hm1E : mapE w3 eb nE (DE.del (kd i)) := l3.map ((l2.map (u.turn.map m1 (hmapx hmE))).setCell (by simpa using (hh.ne_map hmE).symm) _)
  have hm1H : mapH w3 kb nH DH := l3.map ((l2.map (u.turn.map (World.ownsMap.kept hmH t1 (by simpa using hek.symm)) (hmapx hmH))).setCell (by simpa using (hh.ne_map hmH).symm) _)
  have k3 : ∀ {x : Nat} {cs : Array Value} {t : TypeId}, At (unl g b nw ol w1) x cs t → x ≠ hb → At w3 x cs t := fun h hne => l3.at ((l2.at h).other hne _)
  have k4 : ∀ {x : Nat} {cs : Array Value} {t : TypeId}, At w3 x cs t → x ≠ kb → At w' x cs t := fun {x cs t} h hne => by
    rcases hfin with ⟨-, -, -, h4⟩ | ⟨-, h4⟩
    · exact h.keep h4 (by simpa using hne)
    · exact h4.at h
  refine ⟨?_, ?_, ?_, ?_, ?_, ?_, ?_, ?_⟩
  · have a1 : Turn w w1 (fun k => k = g ∨ k = b ∨ nw = some k ∨ ol = some k ∨ k = hb ∨ k = eb ∨ k = kb) := Turn.of_grown t1 (fun k hk => by cases hk; exact .inr (.inr (.inr (.inr (.inr (.inl rfl))))))
    have a2 : Turn w1 (unl g b nw ol w1) (fun k => k = g ∨ k = b ∨ nw = some k ∨ ol = some k ∨ k = hb ∨ k = eb ∨ k = kb) := u.turn.mono (fun k hk => by rcases hk with h | h | h | h <;> simp [h])
    have a3 : Turn (unl g b nw ol w1) w2 (fun k => k = g ∨ k = b ∨ nw = some k ∨ ol = some k ∨ k = hb ∨ k = eb ∨ k = kb) := Turn.of_like l2
    have a4 : Turn w2 w3 (fun k => k = g ∨ k = b ∨ nw = some k ∨ ol = some k ∨ k = hb ∨ k = eb ∨ k = kb) := (Turn.set w2 _ _ (.inr (.inr (.inr (.inr (.inl rfl)))))).trans (Turn.of_like l3)
    have a5 : Turn w3 w' (fun k => k = g ∨ k = b ∨ nw = some k ∨ ol = some k ∨ k = hb ∨ k = eb ∨ k = kb) := by
      rcases hfin with ⟨-, -, -, h4⟩ | ⟨-, h4⟩
      · exact Turn.of_grown h4 (fun k hk => by cases hk; exact .inr (.inr (.inr (.inr (.inr (.inr rfl))))))
      · exact Turn.of_like h4
    exact (((a1.trans a2).trans a3).trans a4).trans a5
  · exact k4 (k3 u.mem (fun h => hnx (.inl h.symm))) (hg.ne_map hmH)
  · exact k4 (k3 u.node (fun h => hnx (.inr (.inl h.symm)))) (hr.ne_map hmH)
  · intro a ia na oa ha h h'
    exact k4 (k3 (u.newer a ia na oa ha h (k1 h')) (h'.ne hh (by decide))) (h'.ne_map hmH)
  · intro a ia na oa ha h h'
    exact k4 (k3 (u.older a ia na oa ha h (k1 h')) (h'.ne hh (by decide))) (h'.ne_map hmH)
  · exact k4 (l3.at (hh2.set 12 _)) (hh.ne_map hmH)
  · rcases hfin with ⟨-, -, -, h4⟩ | ⟨-, h4⟩
    · exact World.ownsMap.kept hm1E h4 (by simpa using hek)
    · exact h4.map hm1E
  · rcases hfin with ⟨h1, h2, h3, -⟩ | ⟨h3, h4⟩
    · rw [if_pos ⟨h1, h2⟩]; exact h3
    · rw [if_neg h3]; exact h4.map hm1H

theorem zzdrop_calls (g b : Nat) (w : World) (R : World → World → Prop) (h : Calls Try.prog 26 #[.pointer (some ⟨g, 0, none⟩), .pointer (some ⟨b, 0, none⟩)] w fun e w' => e = .returned (.tuple #[]) ∧ R w w') :
    Calls Try.prog 8 #[.pointer (some ⟨g, 0, none⟩), .pointer (some ⟨b, 0, none⟩)] w fun e w' => e = .returned (.tuple #[]) ∧ R w w' := by
  have H := hidI h
  clear h
  go_enter Try.func8, Try.ntmps8
  go_wp2_with fail
  refine H.out.mono ?_
  rintro e w' ⟨rfl, hr⟩
  have HR := hidI hr
  clear hr
  go_wp2_with fail
  go_end0
  exact ⟨rfl, HR.out⟩
end Go.Proofs.Qxb6613886a
