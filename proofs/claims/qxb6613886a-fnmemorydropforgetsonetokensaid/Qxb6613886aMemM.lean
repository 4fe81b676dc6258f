/-
  What the law asks of the memory when token v has been dropped. No Go in sight.
-/
import Derived.Test.Qxb6613886aMemL
namespace Go.Proofs.Qxb6613886a
open Go.RowKit Go.ChangeMaps Go.MapKept

/-- The first token from i on that is not v; the last before i. -/
def cf (NP : Nat → Option Nat) (n v i : Nat) : Option Nat := if i = v then (if i + 1 < n then NP (i + 1) else none) else (if i < n then NP i else none)
def pf (NP : Nat → Option Nat) (v i : Nat) : Option Nat := if i = 0 then none else if i - 1 = v then nwA NP v else NP (i - 1)

theorem cf_skip (NP : Nat → Option Nat) (n v : Nat) : cf NP n v (v + 1) = cf NP n v v := by
  unfold cf; rw [if_pos rfl, if_neg (by omega)]
theorem pf_skip (NP : Nat → Option Nat) (v : Nat) : pf NP v (v + 1) = pf NP v v := by
  unfold pf
  rw [if_neg (by omega), if_pos (by omega)]
  unfold nwA
  by_cases e : v = 0
  · rw [if_pos e, if_pos e]
  · rw [if_neg e, if_neg e, if_neg (by omega)]
theorem cf_here {NP : Nat → Option Nat} {n v i : Nat} (hi : i < n) (hv : i ≠ v) : cf NP n v i = NP i := by
  unfold cf; rw [if_neg hv, if_pos hi]
theorem pf_here {NP : Nat → Option Nat} {v i : Nat} : nwB NP v i = pf NP v i := by
  unfold nwB pf
  by_cases c : i = v + 1
  · rw [if_pos c, if_neg (by omega), if_pos (by omega)]
  · rw [if_neg c]
    unfold nwA
    by_cases e : i = 0
    · rw [if_pos e, if_pos e]
    · rw [if_neg e, if_neg e, if_neg (by omega)]
theorem cf_next {NP : Nat → Option Nat} {n v i : Nat} : olB NP n v i = cf NP n v (i + 1) := by
  unfold olB cf
  by_cases c : i + 1 = v
  · rw [if_pos c, if_pos c]; unfold olA; rw [c]
  · rw [if_neg c, if_neg c]; rfl
theorem pf_next {NP : Nat → Option Nat} {v i : Nat} (hv : i ≠ v) : pf NP v (i + 1) = NP i := by
  unfold pf; rw [if_neg (by omega), if_neg (by omega)]; rfl
theorem cf_end {NP : Nat → Option Nat} {n v : Nat} (hv : v < n) : cf NP n v n = none := by
  unfold cf; rw [if_neg (by omega), if_neg (by omega)]

section
variable {w0 w : World} {L : List Int} {K : List ByteArray} {n h v g eb kb rn rh rc rm : Nat} {HP NP : Nat → Option Nat} {mp : Nat → Bool} {DE DH : Dt}

theorem Final.made (F : Final w0 w L K n h v g eb kb rn rh rc rm HP NP mp DE DH) {x : Nat} (hx : x < n) : ∃ b, NP x = some b := by
  obtain ⟨-, b, h1, -⟩ := F.einv.hit x hx; exact ⟨b, h1⟩

theorem Final.newest (F : Final w0 w L K n h v g eb kb rn rh rc rm HP NP mp DE DH) (hv : v < n) : (if nwA NP v = none then olA NP n v else NP 0) = cf NP n v 0 := by
  by_cases e : v = 0
  · subst e
    have : nwA NP 0 = none := rfl
    rw [if_pos this]; rfl
  · obtain ⟨b, hb⟩ := F.made (x := v - 1) (by omega)
    have : nwA NP v = some b := by unfold nwA; rw [if_neg e]; exact hb
    rw [if_neg (by rw [this]; simp), cf_here (by omega) (fun h => e h.symm)]

theorem Final.oldest (F : Final w0 w L K n h v g eb kb rn rh rc rm HP NP mp DE DH) (hv : v < n) : (if olA NP n v = none then nwA NP v else NP (n - 1)) = pf NP v n := by
  by_cases e : v + 1 < n
  · obtain ⟨b, hb⟩ := F.made (x := v + 1) e
    have : olA NP n v = some b := by unfold olA; rw [if_pos e]; exact hb
    rw [if_neg (by rw [this]; simp)]
    unfold pf
    rw [if_neg (by omega), if_neg (by omega)]
  · have : olA NP n v = none := by unfold olA; rw [if_neg e]
    rw [if_pos this]
    unfold pf
    rw [if_neg (by omega), if_pos (by omega)]

/-- What entries[digest i] says. -/
theorem Final.look (F : Final w0 w L K n h v g eb kb rn rh rc rm HP NP mp DE DH) (ln : n ≤ 65536) (hv : v < n) {i : Nat} (hi : i < n) :
    Maps.has (DE.del (kd v)) (kd i) = (if i = v then none else NP i).isSome ∧ ∀ x, (if i = v then none else NP i) = some x → (DE.del (kd v)).atKey (kd i) .nil = .lit (.int .i64 (x : Nat)) := by
  by_cases e : i = v
  · subst e
    rw [if_pos rfl]
    exact ⟨Maps.has_del_same, fun x hx => by cases hx⟩
  · rw [if_neg e]
    have hne : kd i ≠ kd v := fun h => e (kd_inj (by omega) (by omega) h)
    obtain ⟨h1, b, h2, h3⟩ := F.einv.hit i hi
    rw [Maps.has_del_other hne, Maps.atKey_del_other hne, h1, h2]
    exact ⟨rfl, fun x hx => by cases hx; exact h3⟩

theorem Final.sizeE (F : Final w0 w L K n h v g eb kb rn rh rc rm HP NP mp DE DH) (hv : v < n) : Maps.size (DE.del (kd v)) = n - 1 := by
  have h1 := Maps.size_del (k := kd v) F.tE
  rw [(F.einv.hit v hv).1, F.einv.size] at h1
  simp at h1
  omega

/-- The holders' map at the end. -/
def DF (L : List Int) (K : List ByteArray) (vh : Nat) (mp : Nat → Bool) (DH : Dt) : Dt := if cnt L vh = 1 ∧ mp vh = true then DH.del (sk K[vh]!) else DH

theorem Final.mF (F : Final w0 w L K n h v g eb kb rn rh rc rm HP NP mp DE DH) {vh : Nat} (hvh : L[v]! = (vh : Int)) : mapH w kb h (DF L K vh mp DH) := by
  have e : L[v]!.toNat = vh := by rw [hvh]; rfl
  have := F.mH
  rw [e] at this
  exact this

theorem left_other {L : List Int} {v vh x : Nat} (hvh : L[v]! = (vh : Int)) (h : x ≠ vh) : left L v x = cnt L x := by
  unfold left; rw [if_neg (by rw [hvh]; omega)]; rfl
theorem left_same {L : List Int} {v vh : Nat} (hvh : L[v]! = (vh : Int)) : left L v vh = cnt L vh - 1 := by
  unfold left; rw [if_pos hvh]

/-- What holders[key j] says, for a holder j that was in the map. -/
theorem Final.lookH (F : Final w0 w L K n h v g eb kb rn rh rc rm HP NP mp DE DH) {vh j : Nat} (hvh : L[v]! = (vh : Int)) (hvhh : vh < h) (hj : j < h) (hm : mp j = true) :
    Maps.has (DF L K vh mp DH) (sk K[j]!) = (if 0 < left L v j then HP j else none).isSome ∧ ∀ x, (if 0 < left L v j then HP j else none) = some x → (DF L K vh mp DH).atKey (sk K[j]!) .nil = .lit (.int .i64 (x : Nat)) := by
  obtain ⟨h1, b, h2, h3⟩ := F.hinv.hit j hj hm
  have hp := F.hinv.pos j hj hm
  unfold DF
  by_cases hl : 0 < left L v j
  · rw [if_pos hl]
    by_cases c : cnt L vh = 1 ∧ mp vh = true
    · rw [if_pos c]
      have hne : sk K[j]! ≠ sk K[vh]! := fun e => by
        have := F.hinv.uniq j vh hj hvhh hm c.2 (sk_inj e)
        subst this
        rw [left_same hvh] at hl
        omega
      rw [Maps.has_del_other hne, Maps.atKey_del_other hne, h1, h2]
      exact ⟨rfl, fun x hx => by cases hx; exact h3⟩
    · rw [if_neg c, h1, h2]
      exact ⟨rfl, fun x hx => by cases hx; exact h3⟩
  · rw [if_neg hl]
    have e : j = vh := by
      by_cases e : j = vh
      · exact e
      · rw [left_other hvh e] at hl; omega
    subst e
    rw [left_same hvh] at hl
    rw [if_pos ⟨by omega, hm⟩]
    exact ⟨Maps.has_del_same, fun x hx => by cases hx⟩

/-- How many holders stay in the map, among the first j. -/
def wl (L : List Int) (v : Nat) (mp : Nat → Bool) (j : Nat) : Nat := ((List.range j).filter (fun x => mp x && decide (0 < left L v x))).length

theorem wl_succ (L : List Int) (v : Nat) (mp : Nat → Bool) (j : Nat) : wl L v mp (j + 1) = wl L v mp j + (if mp j = true ∧ 0 < left L v j then 1 else 0) := by
  unfold wl
  rw [filter_range_succ (fun x => mp x && decide (0 < left L v x)) _ j (fun _ _ => rfl)]
  congr 1
  by_cases h1 : mp j = true
  · by_cases h2 : 0 < left L v j <;> simp [h1, h2]
  · simp [h1]

theorem wl_le (L : List Int) (v : Nat) (mp : Nat → Bool) (j : Nat) : wl L v mp j ≤ j := by
  unfold wl; exact Nat.le_trans (List.length_filter_le _ _) (by simp)

theorem wl_count (L : List Int) (v vh : Nat) (mp : Nat → Bool) (hvh : L[v]! = (vh : Int)) : ∀ j, (∀ x, x < j → mp x = true → 0 < cnt L x) →
    wl L v mp j + (if (cnt L vh = 1 ∧ mp vh = true) ∧ vh < j then 1 else 0) = ((List.range j).filter mp).length
  | 0, _ => by simp [wl]
  | j + 1, hp => by
    have ih := wl_count L v vh mp hvh j (fun x hx => hp x (by omega))
    rw [wl_succ, filter_range_succ mp mp j (fun _ _ => rfl), ← ih]
    by_cases e : j = vh
    · subst e
      rw [left_same hvh]
      have n0 : ¬ ((cnt L j = 1 ∧ mp j = true) ∧ j < j) := fun h => Nat.lt_irrefl _ h.2
      rw [if_neg n0]
      by_cases hm : mp j = true
      · have := hp j (by omega) hm
        by_cases h1 : cnt L j = 1
        · rw [if_neg (by omega), if_pos ⟨⟨h1, hm⟩, by omega⟩]; simp [hm]
        · rw [if_pos ⟨hm, by omega⟩, if_neg (fun h => h1 h.1.1)]; simp [hm]
      · rw [if_neg (fun h => hm h.1), if_neg (fun h => hm h.1.2)]; simp [hm]
    · rw [left_other hvh e]
      have e1 : ((cnt L vh = 1 ∧ mp vh = true) ∧ vh < j + 1) ↔ ((cnt L vh = 1 ∧ mp vh = true) ∧ vh < j) := by
        constructor
        · rintro ⟨h1, h2⟩; exact ⟨h1, by omega⟩
        · rintro ⟨h1, h2⟩; exact ⟨h1, by omega⟩
      simp only [e1]
      by_cases hm : mp j = true
      · have := hp j (by omega) hm
        rw [if_pos ⟨hm, this⟩]; simp [hm]; omega
      · rw [if_neg (fun h => hm h.1)]; simp [hm]

theorem Final.sizeH (F : Final w0 w L K n h v g eb kb rn rh rc rm HP NP mp DE DH) {vh : Nat} (hvh : L[v]! = (vh : Int)) (hvhh : vh < h) : Maps.size (DF L K vh mp DH) = wl L v mp h := by
  have h1 := wl_count L v vh mp hvh h F.hinv.pos
  rw [← F.hinv.size] at h1
  unfold DF
  by_cases c : cnt L vh = 1 ∧ mp vh = true
  · rw [if_pos c]
    rw [if_pos ⟨c, hvhh⟩] at h1
    have h2 := Maps.size_del (k := sk K[vh]!) F.tH
    rw [(F.hinv.hit vh hvhh c.2).1, if_pos rfl] at h2
    omega
  · rw [if_neg c]
    rw [if_neg (fun h => c h.1)] at h1
    omega
end
end Go.Proofs.Qxb6613886a
