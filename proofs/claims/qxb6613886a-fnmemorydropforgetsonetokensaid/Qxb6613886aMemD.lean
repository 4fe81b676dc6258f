/-
  The readers of the two maps; unlink.
-/
import Derived.Test.Qxb6613886aMemC
namespace Go.Proofs.Qxb6613886a
open Go.RowKit Go.ChangeMaps Go.MapKept

theorem entriesLen_calls (g eb kb n : Nat) (cap : Int) (nw ol : Option Addr) (D : Dt) (w : World) (hg : At w g (memC cap eb kb nw ol) 63) (hm : mapE w eb n D) :
    Calls Try.prog 9 #[.pointer (some ⟨g, 0, none⟩)] w fun e w' => e = .returned (.int .i64 (Maps.size D)) ∧ w = w' := by
  have c1 : w.cell? ⟨g, 3, none⟩ = some (.map (some eb)) := hg.cell 3 rfl
  have hl := World.ownsMap.len (t := 59) (e := 32) hm Try.underlying59 3
  clear hg hm
  go_enter Try.func9, Try.ntmps9
  go_wp2
  go_ret
  exact ⟨rfl, rfl⟩

theorem holdersLen_calls (g eb kb n : Nat) (cap : Int) (nw ol : Option Addr) (D : Dt) (w : World) (hg : At w g (memC cap eb kb nw ol) 63) (hm : mapH w kb n D) :
    Calls Try.prog 18 #[.pointer (some ⟨g, 0, none⟩)] w fun e w' => e = .returned (.int .i64 (Maps.size D)) ∧ w = w' := by
  have c1 : w.cell? ⟨g, 6, none⟩ = some (.map (some kb)) := hg.cell 6 rfl
  have hl := World.ownsMap.len (t := 60) (e := 42) hm Try.underlying60 3
  clear hg hm
  go_enter Try.func18, Try.ntmps18
  go_wp2
  go_ret
  exact ⟨rfl, rfl⟩

/-- A pointer to the head of a block. -/
abbrev pt (x : Nat) : Addr := ⟨x, 0, none⟩

theorem holderByKey_calls (g eb kb n : Nat) (cap : Int) (nw ol : Option Addr) (D : Dt) (s : ByteArray) (hs : s.size ≤ maxLen) (p : Option Nat) (hh : Maps.has D (sk s) = p.isSome) (ha : ∀ x, p = some x → D.atKey (sk s) .nil = .lit (.int .i64 (x : Nat))) (w : World) (hg : At w g (memC cap eb kb nw ol) 63) (hm : mapH w kb n D) :
    Calls Try.prog 17 #[.pointer (some ⟨g, 0, none⟩), .string s] w fun e w' => e = .returned (.tuple #[.pointer (p.map pt), .bool p.isSome]) ∧ w = w' := by
  have c1 : w.cell? ⟨g, 6, none⟩ = some (.map (some kb)) := hg.cell 6 rfl
  have hl := lookH kb n D s hs p hh ha w hm
  clear hg hm ha hh
  go_enter Try.func17, Try.ntmps17
  go_wp2
  go_ret2
  exact ⟨rfl, rfl⟩

set_option maxHeartbeats 800000 in
theorem entry_calls (g eb kb n i : Nat) (cap : Int) (nw ol : Option Addr) (D : Dt) (p : Option Nat) (hh : Maps.has D (kd i) = p.isSome) (ha : ∀ x, p = some x → D.atKey (kd i) .nil = .lit (.int .i64 (x : Nat))) (w : World) (hg : At w g (memC cap eb kb nw ol) 63) (hm : mapE w eb n D) :
    Calls Try.prog 10 #[.pointer (some ⟨g, 0, none⟩), .agg (dg i)] w fun e w' => e = .returned (.tuple #[.pointer (p.map pt), .bool p.isSome]) ∧ w.grownBy w' none := by
  have hg1 : At (w.alloc (.cells (dg i) 37)) g (memC cap eb kb nw ol) 63 := hg.keep (World.grownBy_alloc w _ none) (by simp)
  have c1 : (w.alloc (.cells (dg i) 37)).cell? ⟨g, 3, none⟩ = some (.map (some eb)) := hg1.cell 3 rfl
  have c2 : (w.alloc (.cells (dg i) 37)).rangeAt w.heap.size 0 (dg i).toList := fun j v hv => by
    rw [Nat.zero_add]
    refine At.cell (cs := dg i) (t := 37) (heap_alloc_new w _) j ?_
    simpa using hv
  have hl := lookE eb n D i p hh ha (w.alloc (.cells (dg i) 37)).drew (World.ownsMap.alloc hm _)
  obtain ⟨cs, hcs⟩ : ∃ cs, cs = (dg i).toList := ⟨_, rfl⟩
  have hu := Try.underlying37
  have hsz : (Try.prog.info? 37).map (·.size) = some cs.length := by rw [hcs, Array.length_toList]; exact info37
  have hcs' : dg i = cs.toArray := by rw [hcs]
  rw [hcs'] at c1 c2 hl ⊢
  simp only at c2
  clear hg hm ha hh hg1 hcs hcs'
  go_enter Try.func10, Try.ntmps10
  go_wp2_with fail
  go_region_held3 (fun w' => w'.cell? ⟨g, 3, none⟩ = some (.map (some eb)) ∧ w'.rangeAt w.heap.size 0 cs) (simp [*, go_sem]) (fail)
  go_wp2_with fail
  go_ret2
  exact ⟨rfl, below_grown (((Below.refl _ _).alloc (Nat.le_refl _) _).drew)⟩

/-- What unlink writes. -/
def unl (g b : Nat) (nw ol : Option Nat) (w : World) : World :=
  let w1 := match nw with | some a => w.setCell ⟨a, 33, none⟩ (.pointer (ol.map pt)) | none => w.setCell ⟨g, 4, none⟩ (.pointer (ol.map pt))
  let w2 := match ol with | some c => w1.setCell ⟨c, 32, none⟩ (.pointer (nw.map pt)) | none => w1.setCell ⟨g, 5, none⟩ (.pointer (nw.map pt))
  (w2.setCell ⟨b, 32, none⟩ (.pointer none)).setCell ⟨b, 33, none⟩ (.pointer none)

/-- One memory (but for how often the tape was asked). -/
structure Like (w w' : World) : Prop where
  heap : w'.heap = w.heap
  os : w'.os = w.os
  tape : w'.tape = w.tape
  output : w'.output = w.output

set_option maxHeartbeats 800000 in
theorem unlink_calls (g eb kb b i hb : Nat) (cap : Int) (nst ost : Option Addr) (nw ol : Option Nat) (w : World) (hg : At w g (memC cap eb kb nst ost) 63) (hr : At w b (nodeC i (nw.map pt) (ol.map pt) hb) 66)
    (hN : ∀ a, nw = some a → a ≠ b ∧ ∃ ia na oa ha, At w a (nodeC ia na oa ha) 66) (hO : ∀ c, ol = some c → c ≠ b ∧ ∃ ia na oa ha, At w c (nodeC ia na oa ha) 66) (hNO : ∀ a c, nw = some a → ol = some c → a ≠ c) :
    Calls Try.prog 27 #[.pointer (some ⟨g, 0, none⟩), .pointer (some ⟨b, 0, none⟩)] w fun e w' => e = .returned (.tuple #[]) ∧ Like (unl g b nw ol w) w' := by
  have g4 : w.cell? ⟨g, 4, none⟩ = some (.pointer nst) := hg.cell 4 rfl
  have g5 : w.cell? ⟨g, 5, none⟩ = some (.pointer ost) := hg.cell 5 rfl
  have y4 := hg.frz 4
  have y5 := hg.frz 5
  have b32 : w.cell? ⟨b, 32, none⟩ = some (.pointer (nw.map pt)) := hr.cell 32 rfl
  have b33 : w.cell? ⟨b, 33, none⟩ = some (.pointer (ol.map pt)) := hr.cell 33 rfl
  have x32 := hr.frz 32
  have x33 := hr.frz 33
  have gb : g ≠ b := hg.ne hr (by decide)
  have bg : b ≠ g := Ne.symm gb
  cases nw with
  | none =>
    cases ol with
    | none =>
      clear hg hr hN hO hNO
      simp only [Option.map] at b32 b33
      go_enter Try.func27, Try.ntmps27
      go_wp2
      go_end0
      exact ⟨rfl, ⟨rfl, rfl, rfl, rfl⟩⟩
    | some c =>
      obtain ⟨cb, ic, nc, oc, hc, hcc⟩ := hO c rfl
      have c32 : w.cell? ⟨c, 32, none⟩ = some (.pointer nc) := hcc.cell 32 rfl
      have z32 := hcc.frz 32
      have cg : c ≠ g := hcc.ne hg (by decide)
      have gc : g ≠ c := Ne.symm cg
      have bc : b ≠ c := Ne.symm cb
      clear hg hr hN hO hNO hcc
      simp only [Option.map, pt] at b32 b33
      go_enter Try.func27, Try.ntmps27
      go_wp2_with fail
      go_region
      go_wp2
      go_end0
      exact ⟨rfl, ⟨rfl, rfl, rfl, rfl⟩⟩
  | some a =>
    obtain ⟨ab, ia, na, oa, ha, haa⟩ := hN a rfl
    have a33 : w.cell? ⟨a, 33, none⟩ = some (.pointer oa) := haa.cell 33 rfl
    have v33 := haa.frz 33
    have ag : a ≠ g := haa.ne hg (by decide)
    have ga : g ≠ a := Ne.symm ag
    have ba : b ≠ a := Ne.symm ab
    cases ol with
    | none =>
      clear hg hr hN hO hNO haa
      simp only [Option.map, pt] at b32 b33
      go_enter Try.func27, Try.ntmps27
      go_wp2_with fail
      go_region
      go_wp2
      go_end0
      exact ⟨rfl, ⟨rfl, rfl, rfl, rfl⟩⟩
    | some c =>
      obtain ⟨cb, ic, nc, oc, hc, hcc⟩ := hO c rfl
      have c32 : w.cell? ⟨c, 32, none⟩ = some (.pointer nc) := hcc.cell 32 rfl
      have z32 := hcc.frz 32
      have cg : c ≠ g := hcc.ne hg (by decide)
      have gc : g ≠ c := Ne.symm cg
      have bc : b ≠ c := Ne.symm cb
      have ac : a ≠ c := hNO a c rfl rfl
      have ca : c ≠ a := Ne.symm ac
      clear hg hr hN hO hNO hcc haa
      simp only [Option.map, pt] at b32 b33
      go_enter Try.func27, Try.ntmps27
      go_wp2_with fail
      go_region
      go_wp2_with fail
      go_region
      go_wp2
      go_end0
      exact ⟨rfl, ⟨rfl, rfl, rfl, rfl⟩⟩
end Go.Proofs.Qxb6613886a
