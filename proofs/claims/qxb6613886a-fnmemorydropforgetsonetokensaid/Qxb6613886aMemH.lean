/-
  zzBuild: what it lays.
-/
import Derived.Test.Qxb6613886aMemG
namespace Go.Proofs.Qxb6613886a
open Go.RowKit Go.ChangeMaps Go.MapKept

theorem newMemoryA (n : Int) (w : World) :
    Calls Try.prog 19 #[.int .i64 n] w fun e w' => ∃ g eb kb, e = .returned (.pointer (some ⟨g, 0, none⟩)) ∧ eb ≠ kb ∧ w.heap.size ≤ g ∧ w.heap.size ≤ eb ∧ w.heap.size ≤ kb ∧ At w' g (memC n eb kb none none) 63 ∧ mapE w' eb 0 (.map []) ∧ mapH w' kb 0 (.map []) ∧ w.grownBy w' none := by
  refine (newMemory_calls n w).mono fun e w' ⟨h1, h2⟩ => ?_
  subst h2
  refine ⟨w.heap.size + 2, w.heap.size, w.heap.size + 1, h1, by omega, by omega, by omega, by omega, ?_, ?_, ?_, ?_⟩
  · have := heap_alloc_new ((w.alloc (.map #[] 0)).alloc (.map #[] 0)) (.cells (memC n w.heap.size (w.heap.size + 1) none none) 63)
    have e : ((w.alloc (.map #[] 0)).alloc (.map #[] 0)).heap.size = w.heap.size + 2 := by simp
    rw [e] at this
    exact this
  · exact ((World.ownsMap_made w Try.prog 37 ptrElem).alloc _).alloc _
  · have := (World.ownsMap_made (w.alloc (.map #[] 0)) Try.prog 9 ptrElem).alloc (.cells (memC n w.heap.size (w.heap.size + 1) none none) 63)
    have e : (w.alloc (.map #[] 0)).heap.size = w.heap.size + 1 := by simp
    rw [e] at this
    exact this
  · exact ((World.grownBy_alloc w _ none).trans (World.grownBy_alloc _ _ none)).trans (World.grownBy_alloc _ _ none)

theorem info3 : (Try.prog.info? 3).map (fun i => (i.zero, i.size, i.bytes)) = some (some (.int .i64 0), 1, 8) := by kernel_rfl
theorem info4 : (Try.prog.info? 4).map (fun i => (i.zero, i.size, i.bytes)) = some (some (.bool false), 1, 1) := by kernel_rfl
theorem info42 : (Try.prog.info? 42).map (fun i => (i.zero, i.size, i.bytes)) = some (some (.pointer none), 1, 8) := by kernel_rfl
theorem info32 : (Try.prog.info? 32).map (fun i => (i.zero, i.size, i.bytes)) = some (some (.pointer none), 1, 8) := by kernel_rfl

/-- The holders' part of what zzBuild lays, j holders made. -/
structure HPart (w0 w : World) (L : List Int) (K : List ByteArray) (h kb rh rc rm j : Nat) (HP : Nat → Option Nat) (mp : Nat → Bool) (DH : Dt) : Prop where
  rowC : At w rc (rowOf h (fun x => .int .i64 (cnt L x))) 3
  rowH : At w rh (rowOf h (fun x => .pointer ((HP x).map pt))) 42
  rowM : At w rm (rowOf h (fun x => .bool (decide (x < j) && mp x))) 4
  hold : ∀ x, x < j → ∃ b, HP x = some b ∧ w0.heap.size ≤ b ∧ At w b (holdC K[x]! (cnt L x)) 77
  hinj : ∀ x y, x < j → y < j → HP x = HP y → x = y
  mH : mapH w kb j DH
  hinv : HInv K (cnt L) HP mp j DH

theorem HPart.turn {w0 w w' : World} {L : List Int} {K : List ByteArray} {h kb rh rc rm j : Nat} {HP : Nat → Option Nat} {mp : Nat → Bool} {DH : Dt} {ex : Nat → Prop} (p : HPart w0 w L K h kb rh rc rm j HP mp DH) (t : Turn w w' ex)
    (hx : ∀ k, ex k → (∃ cs, At w k cs 66) ∨ (∃ cs, At w k cs 32) ∨ (∃ cs, At w k cs 63) ∨ k ≠ kb ∧ ∀ cs t, ¬ At w k cs t) : HPart w0 w' L K h kb rh rc rm j HP mp DH := by
  have key : ∀ {b : Nat} {cs : Array Value} {t : TypeId}, At w b cs t → t ≠ 66 → t ≠ 32 → t ≠ 63 → ¬ ex b := fun {b cs t} ha h1 h2 h3 he => by
    rcases hx b he with ⟨c, h⟩ | ⟨c, h⟩ | ⟨c, h⟩ | ⟨-, h⟩
    · exact ha.ne h h1 rfl
    · exact ha.ne h h2 rfl
    · exact ha.ne h h3 rfl
    · exact h cs t ha
  have hkb : ¬ ex kb := fun he => by
    rcases hx kb he with ⟨c, h⟩ | ⟨c, h⟩ | ⟨c, h⟩ | ⟨h, -⟩
    · exact h.ne_map p.mH rfl
    · exact h.ne_map p.mH rfl
    · exact h.ne_map p.mH rfl
    · exact h rfl
  refine ⟨t.at p.rowC (key p.rowC (by decide) (by decide) (by decide)), t.at p.rowH (key p.rowH (by decide) (by decide) (by decide)), t.at p.rowM (key p.rowM (by decide) (by decide) (by decide)), fun x hx' => ?_, p.hinj, t.map p.mH hkb, p.hinv⟩
  obtain ⟨b, h1, h2, h3⟩ := p.hold x hx'
  exact ⟨b, h1, h2, t.at h3 (key h3 (by decide) (by decide) (by decide))⟩

theorem map_not_at {w : World} {k b n : Nat} {D : Dt} (h : w.ownsMap Try.prog k ptrElem b n D) : ∀ cs t, ¬ At w b cs t := fun _ _ ha => ha.ne_map h rfl

def nwA (NP : Nat → Option Nat) (x : Nat) : Option Nat := if x = 0 then none else NP (x - 1)
def olA (NP : Nat → Option Nat) (n x : Nat) : Option Nat := if x + 1 < n then NP (x + 1) else none

/-- The tokens' part, i tokens made. -/
structure NPart (w0 w : World) (L : List Int) (n eb rn i : Nat) (HP NP : Nat → Option Nat) (DE : Dt) : Prop where
  rowN : At w rn (rowOf n (fun x => .pointer ((NP x).map pt))) 32
  node : ∀ x, x < i → ∃ b hb, NP x = some b ∧ w0.heap.size ≤ b ∧ HP (L[x]!.toNat) = some hb ∧ At w b (nodeC x ((nwA NP x).map pt) ((olA NP i x).map pt) hb) 66
  mE : mapE w eb i DE
  einv : EInv NP i DE

theorem nodeC_inj {x y h1 h2 : Nat} {n1 o1 n2 o2 : Option Addr} (hx : x < 65536) (hy : y < 65536) (h : nodeC x n1 o1 h1 = nodeC y n2 o2 h2) : x = y := by
  have e0 : (nodeC x n1 o1 h1)[0]? = (nodeC y n2 o2 h2)[0]? := by rw [h]
  have e1 : (nodeC x n1 o1 h1)[1]? = (nodeC y n2 o2 h2)[1]? := by rw [h]
  have f0 : bt x 0 = bt y 0 := by
    have : (some (bt x 0) : Option Value) = some (bt y 0) := e0
    exact Option.some.inj this
  have f1 : bt x 1 = bt y 1 := by
    have : (some (bt x 1) : Option Value) = some (bt y 1) := e1
    exact Option.some.inj this
  unfold bt at f0 f1
  injection f0 with _ f0
  injection f1 with _ f1
  have g0 : x / 256 ^ 0 % 256 = y / 256 ^ 0 % 256 := by omega
  have g1 : x / 256 ^ 1 % 256 = y / 256 ^ 1 % 256 := by omega
  simp at g0 g1
  omega

theorem NPart.inj {w0 w : World} {L : List Int} {n eb rn i : Nat} {HP NP : Nat → Option Nat} {DE : Dt} (p : NPart w0 w L n eb rn i HP NP DE) (hi : i ≤ 65536) {x y : Nat} (hx : x < i) (hy : y < i) (h : NP x = NP y) : x = y := by
  obtain ⟨b, h1, e1, -, -, a1⟩ := p.node x hx
  obtain ⟨b', h2, e2, -, -, a2⟩ := p.node y hy
  rw [e1, e2] at h
  cases h
  have e := a1.symm.trans a2
  simp at e
  exact nodeC_inj (by omega) (by omega) e
end Go.Proofs.Qxb6613886a
