/-
  slices.SortFunc at Member by id, out of the library's contract.
-/
import Derived.Test.Qxb6612844aPeersC
namespace Go.Proofs.Qxb6612844a
open Go.RowKit Go.Sort

def cmpI (a b : Int) : Int := if a < b then -1 else if b < a then 1 else 0

theorem cmp47 (a b : Int) (w : World) : Calls Try.prog 47 #[.int .u64 a, .int .u64 b] w fun e w' => e = .returned (.int .i64 (cmpI a b)) ∧ w = w' := by
  unfold cmpI
  by_cases h1 : a < b
  · go_enter Try.func47, Try.ntmps47
    go_wp2
    go_ret
    exact ⟨by simp, rfl⟩
  · by_cases h2 : b < a
    · go_enter Try.func47, Try.ntmps47
      go_wp2
      go_ret
      exact ⟨by simp, rfl⟩
    · go_enter Try.func47, Try.ntmps47
      go_wp2
      go_ret
      exact ⟨by simp, rfl⟩

theorem closure46 (x y : M) (W : World) : Calls Try.prog 46 #[.agg #[.int .u64 x.1, .string x.2], .agg #[.int .u64 y.1, .string y.2]] W fun e w' => e = .returned (.int .i64 (cmpI x.1 y.1)) ∧ ∃ q os', w' = grow (W.drewN q) os' := by
  go_enter Try.func46, Try.ntmps46
  go_wp2_with (go_at_call 47; refine (cmp47 _ _ _).mono ?_; rintro e w' ⟨rfl, rfl⟩)
  go_ret
  exact ⟨rfl, 0, _, by rw [alloc_eq_grow, alloc_eq_grow, grow_grow]; rfl⟩

theorem enters46 : ∀ args w, (callFunc 46 args).run Try.prog w = .ok (.enter 46 args) w := enters_of Try.func46 (by kernel_rfl) rfl

theorem lt46 (x y : M) : ltOf (fun x y : M => cmpI x.1 y.1) x y = decide (x.1 < y.1) := by
  unfold ltOf cmpI
  by_cases h1 : x.1 < y.1
  · simp [h1]
  · by_cases h2 : y.1 < x.1 <;> simp [h1, h2]

theorem swo46 : SWO (ltOf fun x y : M => cmpI x.1 y.1) where
  irrefl x := by rw [lt46]; simp
  trans x y z h1 h2 := by rw [lt46] at *; simp at *; omega
  ntrans x y z h1 h2 := by rw [lt46] at *; simp at *; omega

theorem holds_of_own {w : World} {base g c : Nat} {l : List M} (h : Own w base (some ⟨g, 0, none⟩) c l) : HoldsK encM 2 w g 0 l.toArray := by
  intro t ht
  have ht' : t < l.length * 2 := by simpa using ht
  have hj : t / 2 < l.length := by omega
  obtain ⟨c0, c1⟩ := h.rd.2 (t / 2) hj
  have hown : w.ownsRow base 36 2 (.slice (some ⟨g, 0, none⟩) l.length c) l.length (l.flatMap encM) := h
  refine ⟨?_, by rw [Nat.zero_add]; exact hown.frozenAt t⟩
  rw [get_flatK _ _ _ _ (by simpa using ht'), Nat.zero_add]
  have e : l.toArray[t / 2]! = l[t / 2]! := by simp
  rw [e]
  have hm : t % 2 = 0 ∨ t % 2 = 1 := by omega
  rcases hm with hm | hm
  · rw [hm, show t = t / 2 * 2 from by omega]
    rw [show t / 2 * 2 / 2 = t / 2 from by omega, c0]
    rfl
  · rw [hm, show t = t / 2 * 2 + 1 from by omega]
    rw [show (t / 2 * 2 + 1) / 2 = t / 2 from by omega, c1]
    rfl

theorem rd_of_holds {w : World} {g : Nat} {d : Array M} (hg : g < w.heap.size) (h : HoldsK encM 2 w g 0 d) : Rd w g d.toList := by
  refine ⟨hg, fun j hj => ?_⟩
  have hj' : j < d.size := by simpa using hj
  have h0 := (h.cell (i := j) (c := 0) hj' (by omega)).1
  have h1 := (h.cell (i := j) (c := 1) hj' (by omega)).1
  have e : d.toList[j]! = d[j]! := by rw [getElem!_pos d j hj', getElem!_pos d.toList j hj]; simp
  rw [e]
  rw [Nat.zero_add, Nat.add_zero] at h0
  rw [Nat.zero_add] at h1
  exact ⟨h0, h1⟩

theorem heap_sortK {w : World} {g n : Nat} {os : Array Obj} {cur : Array Value} (d : Array M) (hb : w.heap[g]? = some (.cells cur 36 (0, 0))) :
    (sortWorldK encM 2 w g 0 n d os).heap[g]? = some (.cells (putCells id 0 (flatK encM 2 d) cur) 36 (0, 0)) := by
  have hg : g < w.heap.size := (Array.getElem?_eq_some_iff.1 hb).1
  unfold sortWorldK putRowK
  rw [heap_grow_old _ _ (by simpa using hg)]
  simp [putRow, mapBlock, Sort.ahead, Array.getElem?_modify, hb, onCells]

theorem grown_sortK {w : World} {g n : Nat} {os : Array Obj} (d : Array M) : w.grownBy (sortWorldK encM 2 w g 0 n d os) (some g) := by
  refine ⟨rfl, rfl, rfl, by simp [sortWorldK, putRowK], fun k hk hne => ?_⟩
  unfold sortWorldK putRowK
  rw [heap_grow_old _ _ (by simpa using hk)]
  have : g ≠ k := fun e => hne (by rw [e])
  simp [putRow, mapBlock, Sort.ahead, Array.getElem?_modify, this]

theorem sortM_some (base g c : Nat) (l : List M) (w : World) (ho : Own w base (some ⟨g, 0, none⟩) c l) (hn : l.length ≤ 65536) :
    Calls Try.prog 45 #[.slice (some ⟨g, 0, none⟩) l.length c, .func (.func 46) #[] #[]] w fun e w' => e = .returned (.tuple #[]) ∧ ∃ l' : List M, l'.Perm l ∧ l'.Pairwise (fun x y => x.1 ≤ y.1) ∧ Own w' base (some ⟨g, 0, none⟩) c l' ∧ w.grownBy w' (some g) := by
  have hH := holds_of_own ho
  have hcon := AnyQ.slices_SortFunc (P := Try.prog) Try.sortM 2 Try.isAgg36 Try.sizeOf36 encM (fun _ => rfl) (fun x v hv => by simp [encM] at hv; rcases hv with rfl | rfl <;> rfl) (fun x y : M => cmpI x.1 y.1) swo46 46 #[] g 0 c l.toArray w enters46
    (fun _ _ _ _ x y => closure46 x y _) hH ho.rd.1 (by simp; omega)
  have hcon2 : Calls Try.prog 45 #[.slice (some ⟨g, 0, none⟩) l.length c, .func (.func 46) #[] #[]] w _ := hcon
  refine hcon2.mono fun e w' ⟨he, d', n, os, hp, hs, hw⟩ => ⟨he, d'.toList, ?_, ?_, ?_, ?_⟩
  · have := hp.2.2
    have hsz : d'.size = l.length := by simpa using hp.1
    simpa [hsz, Array.extract_eq_self_of_le] using this
  · have hsz : d'.size = l.length := by simpa using hp.1
    rw [List.pairwise_iff_getElem]
    intro i j hi hj hij
    have h := hs i j (Nat.zero_le _) hij (by simp at hj ⊢; omega)
    rw [lt46] at h
    have hi' : i < d'.size := by simpa using hi
    have hj' : j < d'.size := by simpa using hj
    rw [getElem!_pos d' i hi', getElem!_pos d' j hj'] at h
    simp at h
    simpa using h
  · subst hw
    have hsz : d'.size = l.length := by simpa using hp.1
    rcases ho.cases with ⟨h, -⟩ | ⟨g', h, hb, hlc, hr, cur, hh, hcs, hcm⟩
    · cases h
    · cases h
      have hg : g < (sortWorldK encM 2 w g 0 n d' os).heap.size := Nat.lt_of_lt_of_le hr.1 (grown_sortK d').size
      refine own_of hb (heap_sortK d' hh) (by simp [putCells, hcs]) hcm (by simp; omega) (rd_of_holds hg ?_)
      exact holdsK_grow encM 2 _ _ _ _ _ (by simpa [putRowK] using hr.1) (holdsK_putRowK encM 2 _ _ _ l.toArray _ hH (by simpa using hsz))
  · subst hw
    exact grown_sortK d'

theorem sortM_calls (base : Nat) (a : Option Addr) (c : Nat) (l : List M) (w : World) (ho : Own w base a c l) (hn : l.length ≤ 65536) :
    Calls Try.prog 45 #[.slice a l.length c, .func (.func 46) #[] #[]] w fun e w' => e = .returned (.tuple #[]) ∧ ∃ l' : List M, l'.Perm l ∧ l'.Pairwise (fun x y => x.1 ≤ y.1) ∧ Own w' base a c l' ∧ w.grownBy w' ((Value.slice a l.length c).ownBlock) := by
  rcases ho.cases with ⟨rfl, rfl, rfl⟩ | ⟨g, rfl, -⟩
  · have h : Calls Try.prog 45 #[.slice none 0 0, .func (.func 46) #[] #[]] w _ := AnyF.slices_SortFunc_none (P := Try.prog) Try.sortM none 0 (.func (.func 46) #[] #[]) w
    exact h.mono fun e w' ⟨h1, h2⟩ => by subst h2; exact ⟨h1, [], List.Perm.refl _, List.Pairwise.nil, Own.nil _ _, World.grownBy.refl _ _⟩
  · exact sortM_some base g c l w ho hn
end Go.Proofs.Qxb6612844a
