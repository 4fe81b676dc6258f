/-
  (Configuration).Voters.
-/
import Derived.Test.Qxb6612844aPeersD
namespace Go.Proofs.Qxb6612844a
open Go.RowKit

/-- The voters gathered after k members of Old were looked at. -/
def votes (mem old : List M) : Nat → List M
  | 0 => mem
  | k + 1 => if anyID (votes mem old k) old[k]!.1 then votes mem old k else votes mem old k ++ [old[k]!]

theorem votes_len (mem old : List M) : ∀ k, (votes mem old k).length ≤ mem.length + k
  | 0 => Nat.le_refl _
  | k + 1 => by
    have ih := votes_len mem old k
    unfold votes
    split
    · omega
    · simp; omega

theorem Own.mono {w : World} {base base' : Nat} {a : Option Addr} {c : Nat} {l : List M} (h : Own w base a c l) (hb : base' ≤ base) : Own w base' a c l := by
  obtain ⟨h1, h2⟩ := h
  refine ⟨h1, ?_⟩
  rcases h2 with h | ⟨g, cap, cur, hv, hbg, rest⟩
  · exact .inl h
  · exact .inr ⟨g, cap, cur, hv, Nat.le_trans hb hbg, rest⟩

/-- A slice of the call's own: what is written behind it leaves all that lay before the call. -/
theorem Own.grown {w W W' : World} {a : Option Addr} {c : Nat} {l : List M} (h : Own W w.heap.size a c l) (hg : w.grownBy W none) (h2 : W.grownBy W' ((Value.slice a l.length c).ownBlock)) : w.grownBy W' none := by
  refine hg.andThen h2 fun j hj => .inl ?_
  rcases h.cases with ⟨rfl, -⟩ | ⟨g, rfl, hb, -⟩
  · cases hj
  · simp [Value.ownBlock] at hj
    omega

theorem flat_snoc (V : List M) (u : M) : (V ++ [u]).flatMap encM = V.flatMap encM ++ [.int .u64 u.1, .string u.2] := by simp [encM]

theorem two_new (w : World) (x : Int) (y : ByteArray) : ∀ (j : Nat) (u : Value), ([.int .u64 x, .string y] : List Value)[j]? = some u → (w.alloc (.cells #[.int .u64 x, .string y] 36)).cell? ((⟨w.heap.size, 0, none⟩ : Addr).add j) = some u := by
  intro j u hj
  match j, hj with
  | 0, hj => simp at hj; subst hj; simp [Addr.add]
  | 1, hj => simp at hj; subst hj; simp [Addr.add]
  | j + 2, hj => simp at hj

theorem two_one (x : Int) (y : ByteArray) : ∀ u ∈ ([.int .u64 x, .string y] : List Value), u.oneCell' = true := by
  intro u hu
  simp at hu
  rcases hu with rfl | rfl <;> rfl

set_option maxHeartbeats 1600000 in
theorem voters_calls (am ao : Option Addr) (cm co : Nat) (mem old : List M) (w : World) (hm : In w am cm mem) (ho : In w ao co old) (hml : mem.length ≤ 1024) (hol : old.length ≤ 1024) :
    Calls Try.prog 34 #[.agg #[.slice am mem.length cm, .slice ao old.length co]] w fun e w' => ∃ a' c' S, e = .returned (.slice a' S.length c') ∧ S.Perm (votes mem old old.length) ∧ S.Pairwise (fun x y => x.1 ≤ y.1) ∧ Own w' w.heap.size a' c' S ∧ w.grownBy w' none := by
  obtain ⟨i0, hi, hz0, hz1, hz2⟩ := info_parts info36
  have hcl := cloneM_calls am cm mem (w.alloc (.cells #[.slice am mem.length cm, .slice ao old.length co] 66)) (hm.keep (World.grownBy_alloc _ _ none)) (by omega)
  have HO : Hid (In w ao co old) := ho
  obtain ⟨n, hln⟩ : ∃ n, n = old.length := ⟨_, rfl⟩
  have HL : Hid (n = old.length) := hln
  have hml' : mem.length ≤ 1024 := hml
  obtain ⟨nm, hlm⟩ : ∃ nm, nm = mem.length := ⟨_, rfl⟩
  have HM : Hid (nm = mem.length) := hlm
  rw [← hln] at hol hcl ⊢
  rw [← hlm] at hml hcl ⊢
  clear hm ho hln hlm hml'
  go_enter Try.func34, Try.ntmps34
  go_wp2_with (go_at_call 43; refine hcl.mono ?_; rintro e w1 ⟨a1, c1, rfl, ho1, hg1⟩; have b1 : w1.cell? ⟨w.heap.size, 1, none⟩ = some (.slice ao n co) := hg1.cell (by simp) (by simp))
  have HO1 : Hid (Own w1 w.heap.size a1 c1 mem) := ho1.mono (by simp)
  have HG1 : Hid (w.grownBy w1 none) := (World.grownBy_alloc w _ none).trans hg1
  clear ho1 hg1 hcl b1
  go_loopw [3, 12] (fun s3 s12 wr => ∃ (k m : Nat) (a' : Option Addr) (c' : Nat), k ≤ n ∧ s12 = .int .i64 k ∧ s3 = .slice a' m c' ∧ Hid (m = (votes mem old k).length) ∧ Hid (Own wr w.heap.size a' c' (votes mem old k)) ∧ Hid (w.grownBy wr none)) (fun _ s12 _ => n - (intOf s12).toNat)
  case atStart => exact ⟨0, nm, a1, c1, Nat.zero_le _, rfl, rfl, HM.out, HO1, HG1⟩
  case round =>
    obtain ⟨k, m, a', c', hk, rfl, rfl, hm, hown, hg⟩ := hrel
    have hVl := votes_len mem old k
    rw [← HM.out, ← hm.out] at hVl
    by_cases hlt : k < n
    · have hltz : (k : Int) < (n : Int) := by omega
      have hko : k < old.length := by have := HL.out; omega
      rcases HO.out with ⟨rfl, -, rfl⟩ | ⟨go, rfl, hr⟩
      · simp at hko
      · have hr2 := hr.keep hg.out (by simp)
        obtain ⟨c0, c1'⟩ := hr2.2 k hko
        have HV : Hid (votes mem old (k + 1) = if anyID (votes mem old k) old[k]!.1 then votes mem old k else votes mem old k ++ [old[k]!]) := rfl
        generalize old[k]! = u at c0 c1' HV
        generalize votes mem old k = V at hm hown HV
        generalize hV1 : votes mem old (k + 1) = V1 at HV
        have HV1 : Hid (votes mem old (k + 1) = V1) := hV1
        clear hV1 hr hr2 hko
        have hin : In (wr.alloc (.cells #[.int .u64 u.1, .string u.2] 36)) a' c' V := (hown.out.keep (World.grownBy_alloc wr _ none) (by simp)).read
        have hid := hasID_calls a' c' V u.1 _ hin (by have := hm.out; omega)
        rw [← hm.out] at hid
        clear hin
        cases hb : anyID V u.1 with
        | true =>
          rw [hb] at hid
          go_wp2_with (go_at_call 44; refine hid.mono ?_; rintro e w2 ⟨rfl, hg2⟩)
          have hg3 : wr.grownBy w2 none := (World.grownBy_alloc wr _ none).trans hg2
          have e1 : V1 = V := by have := HV.out; rw [hb] at this; simpa using this
          have R1 : Hid (m = (votes mem old (k + 1)).length) := by rw [HV1.out, e1]; exact hm
          have R2 : Hid (Own w2 w.heap.size a' c' (votes mem old (k + 1))) := by rw [HV1.out, e1]; exact hown.out.keep hg3 (by simp)
          have R3 : Hid (w.grownBy w2 none) := hg.out.trans hg3
          clear hg2 hg3 e1
          go_roundw
          case rel => exact ⟨k + 1, m, a', c', by omega, by go_num, rfl, R1, R2, R3⟩
          case measure => simp [intOf]; omega
        | false =>
          rw [hb] at hid
          go_wp2_with (first
            | (go_at_call 44; refine hid.mono ?_; rintro e w2 ⟨rfl, hg2⟩; have m0 : w2.cell? ⟨wr.heap.size, 0, none⟩ = some (.int .u64 u.1) := hg2.cell (by simp) (by simp); have m1 : w2.cell? ⟨wr.heap.size, 1, none⟩ = some (.string u.2) := hg2.cell (by simp) (by simp); have HG2 : Hid (wr.grownBy w2 none) := (World.grownBy_alloc wr _ none).trans hg2; clear hg2)
            | (at_builtin; refine wpList_append_own _ rfl _ _ 28 rfl w.heap.size 36 i0 _ 2 24 Try.underlying28 hi hz0 hz1 hz2 rfl (by decide) _ m (V.flatMap encM) rfl (by exact (by rw [hm.out]; exact (hown.out.keep (HG2.out.trans (World.grownBy_alloc w2 _ none)) (by simp)))) ⟨w2.heap.size, 0, none⟩ 1 1 [.int .u64 u.1, .string u.2] rfl rfl (by exact two_new _ _ _) (by exact two_one _ _) (by unfold maxLen; omega) (by omega) (by have := HG2.out.size; have := hg.out.size; simp; omega) ?_; intro v' w3 hown3 hg3 hnil3))
          have hg4 : (w2.alloc (.cells #[.int .u64 u.1, .string u.2] 36)).grownBy w3 ((Value.slice a' m c').ownBlock) := hg3
          clear hg3 hnil3
          have e1 : V1 = V ++ [u] := by have := HV.out; rw [hb] at this; simpa using this
          have hg5 : w.grownBy (w2.alloc (.cells #[.int .u64 u.1, .string u.2] 36)) none := (hg.out.trans HG2.out).trans (World.grownBy_alloc w2 _ none)
          have ho5 : Own (w2.alloc (.cells #[.int .u64 u.1, .string u.2] 36)) w.heap.size a' c' V := hown.out.keep (HG2.out.trans (World.grownBy_alloc w2 _ none)) (by simp)
          have R3 : Hid (w.grownBy w3 none) := ho5.grown hg5 (by rw [← hm.out]; exact hg4)
          obtain ⟨a2, c2, hv⟩ := shape hown3
          have R1 : Hid (m + 1 = (votes mem old (k + 1)).length) := by rw [HV1.out, e1]; show m + 1 = _; have := hm.out; simp; omega
          have R2 : Hid (Own w3 w.heap.size a2 c2 (votes mem old (k + 1))) := by
            rw [HV1.out, e1]
            show w3.ownsRow w.heap.size 36 2 (.slice a2 (V ++ [u]).length c2) (V ++ [u]).length ((V ++ [u]).flatMap encM)
            rw [flat_snoc, show (V ++ [u]).length = m + 1 from by have := hm.out; simp; omega, ← hv]
            exact hown3
          clear hg4 hg5 ho5 e1 hown3
          go_roundw
          case rel => exact ⟨k + 1, m + 1, a2, c2, by omega, by go_num, hv, R1, R2, R3⟩
          case measure => simp [intOf]; omega
    · have hkn : k = n := by omega
      subst hkn
      have hltz : ¬ (k : Int) < (k : Int) := by omega
      have hs := sortM_calls w.heap.size a' c' (votes mem old k) wr hown.out (by have := hm.out; omega)
      have HF : Hid (∀ W S, S.Perm (votes mem old k) → S.Pairwise (fun x y => x.1 ≤ y.1) → Own W w.heap.size a' c' S → wr.grownBy W ((Value.slice a' m c').ownBlock) →
          ∃ a'' c'' S', Ending.returned (.slice a' m c') = .returned (.slice a'' S'.length c'') ∧ S'.Perm (votes mem old k) ∧ S'.Pairwise (fun x y => x.1 ≤ y.1) ∧ Own W w.heap.size a'' c'' S' ∧ w.grownBy W none) := by
        intro W S hp hw ho hgr
        refine ⟨a', c', S, ?_, hp, hw, ho, hown.out.grown hg.out (by rw [← hm.out]; exact hgr)⟩
        rw [hp.length_eq, ← hm.out]
      rw [← hm.out] at hs
      go_wp2_with (go_at_call 45; refine hs.mono ?_; rintro e w4 ⟨rfl, S, hp, hw, ho4, hg4⟩)
      go_ret
      exact HF.out w4 S hp hw ho4 hg4
end Go.Proofs.Qxb6612844a
