/-
  The walk of slices.DeleteFunc at Member.
-/
import Derived.Test.Qxb6612844aPeersB
namespace Go.Proofs.Qxb6612844a
open Go.RowKit Go.Sort

def zerosM (n : Nat) : List Value := (Builtin.zeroCells #[.int .u64 0, .string ByteArray.empty] n).toList

theorem zerosM_len (n : Nat) : (zerosM n).length = n * 2 := by simp [zerosM, Builtin.zeroCells]

theorem zerosM_one (n : Nat) : ∀ v ∈ zerosM n, v.oneCell' = true := by
  intro v hv
  simp [zerosM, Builtin.zeroCells] at hv
  obtain ⟨a, -, rfl⟩ := hv
  have h : a % 2 = 0 ∨ a % 2 = 1 := by omega
  rcases h with h | h <;> rw [h] <;> rfl

/-- 'clear(s)' at n > 0 members. -/
theorem run_clearM (w : World) (ty : TypeId) (b o n c : Nat) (hn : 0 < n) (hc : ∀ j, j < n * 2 → (w.cell? ⟨b, o + j, none⟩).isSome = true) (hf : ∀ j, j < n * 2 → w.frozen? ⟨b, o + j, none⟩ = false) :
    (Builtin.clear_ #[28] ty #[.slice (some ⟨b, o, none⟩) n c]).run Try.prog w = .ok (.tuple #[]) (w.setCells b o (zerosM n)) := by
  have hst := run_storeCells_cells (P := Try.prog) b o (zerosM n) 0 w (by rw [zerosM_len]; simpa using hc) (by rw [zerosM_len]; simpa using hf) (zerosM_one n)
  simp only [Nat.add_zero] at hst
  obtain ⟨m, rfl⟩ : ∃ m, n = m + 1 := ⟨n - 1, by omega⟩
  have hz : (Builtin.zeroCells (Value.agg #[.int .u64 0, .string { data := #[] }]).cells (m + 1)).toList = zerosM (m + 1) := rfl
  simp [Builtin.clear_, run_underlying Try.underlying28, hz, hst]

theorem grown_setCells {w : World} (b : Nat) : ∀ (vs : List Value) (o : Nat) (W : World), w.grownBy W (some b) → w.grownBy (W.setCells b o vs) (some b)
  | [], _, _, h => h
  | v :: vs, o, W, h => grown_setCells b vs (o + 1) _ (h.trans ⟨rfl, rfl, rfl, by simp, fun k _ hk => heap_setCell_other W ⟨b, o, none⟩ k v (fun e => hk (by simp [e]))⟩)

theorem block_setCells (b : Nat) : ∀ (vs : List Value) (o : Nat) (W : World) (cur : Array Value), W.heap[b]? = some (.cells cur 36 (0, 0)) → ∃ cur' : Array Value, (W.setCells b o vs).heap[b]? = some (.cells cur' 36 (0, 0)) ∧ cur'.size = cur.size
  | [], _, _, cur, h => ⟨cur, h, rfl⟩
  | v :: vs, o, W, cur, h => by
    obtain ⟨cur', h1, h2⟩ := block_setCells b vs (o + 1) (W.setCell ⟨b, o, none⟩ v) (cur.setIfInBounds o v) (heap_setCell_same W b o cur 36 v h)
    exact ⟨cur', h1, by rw [h2]; simp⟩

/-- A slice that begins at the head of a block that is known, and whose first members are read, is owned. -/
theorem own_of {w : World} {base g c : Nat} {l : List M} {cur : Array Value} (hb : base ≤ g) (hh : w.heap[g]? = some (.cells cur 36 (0, 0))) (hs : cur.size = c * 2) (hm : c ≤ maxLen) (hl : l.length ≤ c) (hr : Rd w g l) : Own w base (some ⟨g, 0, none⟩) c l := by
  refine ⟨flat_len l, .inr ⟨g, c, cur, rfl, hb, hh, hl, hm, hs, ?_⟩⟩
  apply List.ext_getElem?
  intro t
  by_cases ht : t < l.length * 2
  · obtain ⟨u, hu⟩ : ∃ u, (l.flatMap encM)[t]? = some u := ⟨_, List.getElem?_eq_getElem (by rw [flat_len]; exact ht)⟩
    have hc := hr.flat t u hu
    rw [hu, List.getElem?_take_of_lt ht]
    simpa [World.cell?, hh] using hc
  · rw [List.getElem?_eq_none (by simp; omega), List.getElem?_eq_none (by rw [flat_len]; omega)]

/-- What the loop of DeleteFunc leaves: the kept ones, then zero values. -/
theorem own_cleared {w wr : World} {base g c n : Nat} {l dk : List M} {i : Nat} {p : M → Bool} (hown : wr.ownsRow base 36 2 (.slice (some ⟨g, 0, none⟩) n c) n (dk.flatMap encM)) (hn : n = l.length) (hk : KI p l l.length i dk) (hg : w.grownBy wr (some g)) (k : Nat) :
    Own (wr.setCells g (i * 2) (zerosM k)) base (some ⟨g, 0, none⟩) c (l.filter fun x => !p x) ∧ w.grownBy (wr.setCells g (i * 2) (zerosM k)) (some g) ∧ (l.filter fun x => !p x).length = i := by
  have hlen : dk.length = n := by rw [hk.len, hn]
  have ho : Own wr base (some ⟨g, 0, none⟩) c dk := by unfold Own; rw [hlen]; exact hown
  have hkept : dk.take i = l.filter fun x => !p x := by have := hk.kept; rwa [List.take_length] at this
  have hi : (l.filter fun x => !p x).length = i := by rw [← hkept]; simp; have := hk.le; have := hk.len; omega
  refine ⟨?_, grown_setCells g _ _ _ hg, hi⟩
  rcases ho.cases with ⟨h, -⟩ | ⟨g', h, hb, hlc, hr, cur, hh, hcs, hcm⟩
  · cases h
  · cases h
    obtain ⟨cur', h1, h2⟩ := block_setCells g (zerosM k) (i * 2) wr cur hh
    refine own_of hb h1 (by rw [h2, hcs]) hcm (by rw [hi]; have := hk.le; have := hk.len; omega) ?_
    refine ⟨(Array.getElem?_eq_some_iff.1 h1).1, fun j hj => ?_⟩
    rw [hi] at hj
    have hjd : j < dk.length := by have := hk.le; have := hk.len; omega
    obtain ⟨c0, c1⟩ := hr.2 j hjd
    have hget : (l.filter fun x => !p x)[j]! = dk[j]! := by
      rw [← hkept, getElem!_pos _ j (by simp; omega), getElem!_pos dk j hjd]
      simp
    rw [hget, World.cell?_setCells_out _ _ _ _ _ (by simp; omega), World.cell?_setCells_out _ _ _ _ _ (by simp; omega)]
    exact ⟨c0, c1⟩

/-- What is asked of the closure: it gives p, whatever the row holds meanwhile, and turns nothing. -/
def Gives (fg : Nat) (lb : Array Value) (p : M → Bool) (w : World) (g : Nat) : Prop :=
  ∀ (W : World) (x : M), w.grownBy W (some g) → Calls Try.prog fg (#[.agg #[.int .u64 x.1, .string x.2]] ++ lb) W fun e w' => e = .returned (.bool (p x)) ∧ W.grownBy w' none

theorem grown_but {a c : World} (h : a.grownBy c none) (row : Option Nat) : a.grownBy c row := ⟨h.os, h.tape, h.output, h.size, fun i hi _ => h.block i hi (by simp)⟩

theorem index50 (fg : Nat) (lb : Array Value) (p : M → Bool) (eg : ∀ args w, (callFunc fg args).run Try.prog w = .ok (.enter fg args) w) (g c : Nat) (l : List M) (w : World) (hr : Rd w g l) (hp : Gives fg lb p w g) (hn : l.length ≤ 65536) :
    Calls Try.prog 50 #[.slice (some ⟨g, 0, none⟩) l.length c, .func (.func fg) #[] lb] w fun e w' => e = .returned (.int .i64 (Lib.idxBy (fun _ y => p y) l default)) ∧ w.grownBy w' none := by
  have hpb : PredBelow Try.prog fg lb (fun x : M => .agg (encM x).toArray) p w := fun W x hb =>
    (hp W x (grown_but (below_grown hb) _)).mono fun e w' ⟨h1, h2⟩ => ⟨h1, grown_below ((below_grown hb).trans h2)⟩
  have h := AnyQ.slices_IndexFunc (P := Try.prog) Try.indexM 2 Try.isAgg36 Try.sizeOf36 encM (fun _ => rfl) p fg lb eg g 0 l.length c l w hpb (Nat.le_refl _) (by omega) hr.1 (by
    intro j hj i v hv
    obtain ⟨c0, c1⟩ := hr.2 j hj
    match i, hv with
    | 0, hv => simp [encM] at hv; subst hv; simpa using c0
    | 1, hv => simp [encM] at hv; subst hv; simpa using c1
    | i + 2, hv => simp [encM] at hv)
  rw [List.take_length] at h
  exact h.mono fun e w' ⟨h1, h2⟩ => ⟨h1, below_grown h2⟩

theorem skip_step {w wr w2 : World} {base g c n : Nat} {dk : List M} {u : M} (hown : wr.ownsRow base 36 2 (.slice (some ⟨g, 0, none⟩) n c) n (dk.flatMap encM)) (hg : w.grownBy wr (some g))
    (h2 : (wr.alloc (.cells #[.int .u64 u.1, .string u.2] 36)).grownBy w2 none) : w2.ownsRow base 36 2 (.slice (some ⟨g, 0, none⟩) n c) n (dk.flatMap encM) ∧ w.grownBy w2 (some g) :=
  have h3 : wr.grownBy w2 none := (World.grownBy_alloc wr _ none).trans h2
  ⟨hown.kept h3 (.inr (by simp [Value.ownBlock])), hg.trans (grown_but h3 _)⟩

theorem store_step {w wr w2 : World} {base g c n i : Nat} {dk : List M} {u : M} (hown : wr.ownsRow base 36 2 (.slice (some ⟨g, 0, none⟩) n c) n (dk.flatMap encM)) (hg : w.grownBy wr (some g)) (hlen : dk.length = n) (hi : i < n)
    (h2 : (wr.alloc (.cells #[.int .u64 u.1, .string u.2] 36)).grownBy w2 none) :
    (w2.cell? ⟨wr.heap.size, 0, none⟩ = some (.int .u64 u.1) ∧ w2.cell? ⟨wr.heap.size, 1, none⟩ = some (.string u.2)) ∧ (∃ o0 o1, w2.cell? ⟨g, i * 2, none⟩ = some o0 ∧ w2.cell? ⟨g, i * 2 + 1, none⟩ = some o1) ∧ (w2.frozen? ⟨g, i * 2, none⟩ = false ∧ w2.frozen? ⟨g, i * 2 + 1, none⟩ = false) ∧
      ((w2.setCell ⟨g, i * 2, none⟩ (.int .u64 u.1)).setCell ⟨g, i * 2 + 1, none⟩ (.string u.2)).ownsRow base 36 2 (.slice (some ⟨g, 0, none⟩) n c) n ((dk.set i u).flatMap encM) ∧
      w.grownBy ((w2.setCell ⟨g, i * 2, none⟩ (.int .u64 u.1)).setCell ⟨g, i * 2 + 1, none⟩ (.string u.2)) (some g) := by
  obtain ⟨ho2, hg2⟩ := skip_step hown hg h2
  obtain ⟨s1, t1⟩ := ho2.stored (i * 2) (.int .u64 u.1)
  obtain ⟨s2, t2⟩ := s1.stored (i * 2 + 1) (.string u.2)
  rw [flat_set] at s2
  have hid : i < dk.length := by omega
  obtain ⟨f0, f1⟩ := flat_get dk i hid
  refine ⟨⟨?_, ?_⟩, ⟨_, _, (ho2.cellAt (i * 2) (by omega)).trans f0, (ho2.cellAt (i * 2 + 1) (by omega)).trans f1⟩, ⟨ho2.frozenAt _, ho2.frozenAt _⟩, s2, (hg2.trans t1).trans t2⟩
  · exact h2.cell (by simp) (by simp)
  · exact h2.cell (by simp) (by simp)

set_option maxHeartbeats 1600000 in
theorem deleteM_some (fg : Nat) (lb : Array Value) (p : M → Bool) (eg : ∀ args w, (callFunc fg args).run Try.prog w = .ok (.enter fg args) w) (base g c : Nat) (l : List M) (w : World) (ho : Own w base (some ⟨g, 0, none⟩) c l) (hp : Gives fg lb p w g) (hn : l.length ≤ 65536) :
    Calls Try.prog 36 #[.slice (some ⟨g, 0, none⟩) l.length c, .func (.func fg) #[] lb] w fun e w' => e = .returned (.slice (some ⟨g, 0, none⟩) (l.filter fun x => !p x).length c) ∧ Own w' base (some ⟨g, 0, none⟩) c (l.filter fun x => !p x) ∧ w.grownBy w' (some g) := by
  have hIF := index50 fg lb p eg g c l w ho.rd hp hn
  rcases idxByFrom_spec (fun _ y => p y) default l 0 with ⟨e1, hall⟩ | ⟨k0, hk0, e1, ht, hall⟩
  · have e2 : Lib.idxBy (fun _ y => p y) l default = -1 := e1
    rw [e2] at hIF
    have hfil : (l.filter fun x => !p x) = l := by
      rw [List.filter_eq_self]
      intro x hx
      obtain ⟨j, hj, rfl⟩ := List.mem_iff_getElem.1 hx
      have := hall j hj
      rw [getElem!_pos l j hj] at this
      simp [this]
    rw [hfil]
    have HO : Hid (∀ w', w.grownBy w' none → Own w' base (some ⟨g, 0, none⟩) c l ∧ w.grownBy w' (some g)) := fun w' hg => ⟨ho.keep hg (by simp), grown_but hg _⟩
    clear hp ho hall e1 e2 hfil
    generalize hll : l.length = n at *
    clear hll
    go_enter Try.func36, Try.ntmps36
    go_wp2_with (go_at_call 50; refine hIF.mono ?_; rintro e w1 ⟨rfl, hg1⟩)
    go_ret
    exact ⟨rfl, HO.out _ hg1⟩
  · have e2 : Lib.idxBy (fun _ y => p y) l default = (k0 : Int) := by unfold Lib.idxBy; rw [e1]; simp
    rw [e2] at hIF
    have hne1 : ((k0 : Int) == -1) = false := beq_eq_false_iff_ne.2 (by omega)
    have HS : Hid (KI p l (k0 + 1) k0 l) := KI.start hk0 ht hall
    obtain ⟨n, hln⟩ : ∃ n, n = l.length := ⟨_, rfl⟩
    have HL : Hid (n = l.length) := hln
    have hown0 : w.ownsRow base 36 2 (.slice (some ⟨g, 0, none⟩) n c) n (l.flatMap encM) := by rw [hln]; exact ho
    have HP : Hid (Gives fg lb p w g) := hp
    have hnc : n ≤ c := by
      rcases ho.cases with ⟨h, -⟩ | ⟨g', h, -, hlc, -⟩
      · cases h
      · omega
    rw [← hln] at hIF hn hk0 ⊢
    clear hp ho hall ht e1 e2 hln
    go_enter Try.func36, Try.ntmps36
    go_wp2_with (go_at_call 50; refine hIF.mono ?_; rintro e w1 ⟨rfl, hg1⟩)
    have HO1 : Hid (w1.ownsRow base 36 2 (.slice (some ⟨g, 0, none⟩) n c) n (l.flatMap encM)) := hown0.kept hg1 (.inr (by simp [Value.ownBlock]))
    have HG1 : Hid (w.grownBy w1 (some g)) := grown_but hg1 _
    clear hown0 hg1 hIF
    go_loopw [5, 6] (fun s5 s6 wr => ∃ (i j : Nat) (dk : List M), s5 = .int .i64 i ∧ s6 = .int .i64 j ∧ Hid (KI p l j i dk) ∧ Hid (wr.ownsRow base 36 2 (.slice (some ⟨g, 0, none⟩) n c) n (dk.flatMap encM)) ∧ Hid (w.grownBy wr (some g))) (fun _ s6 _ => n - (intOf s6).toNat)
    case atStart => exact ⟨k0, k0 + 1, l, rfl, by go_num, HS, HO1, HG1⟩
    case round =>
      obtain ⟨i, j, dk, rfl, rfl, hki, hown, hg⟩ := hrel
      have hij := hki.out.le
      have hjn : j ≤ n := by have := hki.out.lt; have := HL.out; omega
      have hdl : dk.length = n := by have := hki.out.len; have := HL.out; omega
      have HD : Hid (dk.length = n) := hdl
      clear hdl
      by_cases hlt : j < n
      · have hltz : (j : Int) < (n : Int) := by omega
        have hjl : j < l.length := by have := HL.out; omega
        have hjd : j < dk.length := by have := HD.out; omega
        obtain ⟨f0, f1⟩ := flat_get dk j hjd
        have c0 := (hown.out.cellAt (j * 2) (by omega)).trans f0
        have c1 := (hown.out.cellAt (j * 2 + 1) (by omega)).trans f1
        rw [hki.out.get hjl] at c0 c1
        clear f0 f1 hjd
        have HQ0 := hki.out.skip hjl
        have HQ1 := hki.out.keep hjl
        generalize l[j]! = u at c0 c1 HQ0 HQ1
        have hcall := HP.out (wr.alloc (.cells #[.int .u64 u.1, .string u.2] 36)) u (hg.out.trans (World.grownBy_alloc wr _ _))
        have HT0 : Hid (p u = true → KI p l (j + 1) i dk) := HQ0
        have HT1 : Hid (p u = false → KI p l (j + 1) (i + 1) (dk.set i u)) := HQ1
        clear HQ0 HQ1 hjl
        cases hq : p u with
        | true =>
          rw [hq] at hcall
          go_wp2_with (go_at_fn fg; refine hcall.mono ?_; rintro e w2 ⟨rfl, hg2⟩)
          obtain ⟨ho3, hg3⟩ := skip_step hown.out hg.out hg2
          go_roundw
          case rel => exact ⟨i, j + 1, dk, rfl, by go_num, HT0.out hq, ho3, hg3⟩
          case measure => simp [intOf]; omega
        | false =>
          rw [hq] at hcall
          have hin : i < n := by omega
          have HST : Hid (∀ w2, (wr.alloc (.cells #[.int .u64 u.1, .string u.2] 36)).grownBy w2 none → _) := fun w2 h2 => store_step (i := i) hown.out hg.out HD.out hin h2
          go_wp2_with (go_at_fn fg; refine hcall.mono ?_; rintro e w2 ⟨rfl, hg2⟩; obtain ⟨⟨k0', k1'⟩, ⟨o0, o1, k2', k3'⟩, ⟨k4', k5'⟩, HB⟩ := HST.out w2 hg2; have HB' := show Hid _ from HB; clear HB)
          go_roundw
          case rel => exact ⟨i + 1, j + 1, dk.set i u, by go_num, by go_num, HT1.out hq, HB'.out.1, HB'.out.2⟩
          case measure => simp [intOf]; omega
      · have hjeq : j = n := by omega
        subst hjeq
        have hltz : ¬ (j : Int) < (j : Int) := by omega
        have hjl : j = l.length := HL.out
        have hki2 : KI p l l.length i dk := by rw [← hjl]; exact hki.out
        obtain ⟨E1, E2, E3⟩ := own_cleared (w := w) hown.out hjl hki2 hg.out (j - i)
        have HE : Hid (Own (wr.setCells g (i * 2) (zerosM (j - i))) base (some ⟨g, 0, none⟩) c (l.filter fun x => !p x) ∧ w.grownBy (wr.setCells g (i * 2) (zerosM (j - i))) (some g) ∧ (l.filter fun x => !p x).length = i) := ⟨E1, E2, E3⟩
        clear E1 E2 E3
        have hcl : ∀ ty, (Builtin.clear_ #[28] ty #[.slice (some ⟨g, i * 2, none⟩) (j - i) (c - i)]).run Try.prog wr = .ok (.tuple #[]) (wr.setCells g (i * 2) (zerosM (j - i))) :=
          fun ty => run_clearM wr ty g (i * 2) (j - i) (c - i) (by omega) (fun t ht => by
            rw [hown.out.cellAt (i * 2 + t) (by omega)]
            rw [List.getElem?_eq_getElem (by rw [flat_len, HD.out]; omega)]
            rfl) (fun t _ => hown.out.frozenAt _)
        clear hki2 hjl
        have hci : ¬ c = i := by omega
        have hc0 : ¬ c = 0 := by omega
        go_wp2
        go_ret
        refine ⟨?_, HE.out.1, HE.out.2.1⟩
        rw [HE.out.2.2]
        rfl
end Go.Proofs.Qxb6612844a
