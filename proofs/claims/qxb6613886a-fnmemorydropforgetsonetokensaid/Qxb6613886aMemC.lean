/-
  The two maps.
-/
import Derived.Test.Qxb6613886aMemB
import Derived.DeepKeys4
import Derived.Deep.WholeRow
import Derived.Deep.MidRow
namespace Go.Proofs.Qxb6613886a
open Go.RowKit Go.ChangeMaps Go.MapKept

abbrev Dt := DataW Unit

/-- How a pointer reads among a map's elements: the number of its block. -/
def ptrElem (v : Value) : Option (Dt × List MemPlace) :=
  match v with
  | .pointer none => some (.nil, [])
  | .pointer (some ⟨b, 0, none⟩) => some (.lit (.int .i64 b), [])
  | _ => none

theorem ptrElem_mk (b : Nat) : ptrElem (.pointer (some ⟨b, 0, none⟩)) = some (.lit (.int .i64 b), []) := rfl
theorem ptrElem_nil : ptrElem (.pointer none) = some (.nil, []) := rfl

theorem ptrElem_inv {v : Value} {b : Nat} {ps : List MemPlace} (h : ptrElem v = some (.lit (.int .i64 b), ps)) : v = .pointer (some ⟨b, 0, none⟩) := by
  unfold ptrElem at h
  split at h
  · simp at h
  · simp at h
    obtain ⟨h, -⟩ := h
    congr 3
    omega
  · cases h

theorem ptrElem_inv_nil {v : Value} {ps : List MemPlace} (h : ptrElem v = some (.nil, ps)) : v = .pointer none := by
  unfold ptrElem at h
  split at h
  · rfl
  · simp at h
  · cases h

theorem laidOut : laidOutB Try.prog = true := by kernel_rfl
theorem key9 : Maps.Keyed Try.prog 9 := Maps.string_keyed Try.underlying9
theorem row37 : 37 < Try.prog.types.size := of_decide_eq_true (by kernel_rfl)
theorem wide37 : (match Try.prog.underlying 37 with | some (.array _ _) | some (.struct _) => true | _ => false) = true := by kernel_rfl
theorem key37 : Maps.Keyed Try.prog 37 := Maps.Keyed.of_law (deep_law_laid laidOut (m := 2) (by omega) row37 (by kernel_rfl) wide37)

def mapE (w : World) (b n : Nat) (D : Dt) : Prop := w.ownsMap Try.prog 37 ptrElem b n D
def mapH (w : World) (b n : Nat) (D : Dt) : Prop := w.ownsMap Try.prog 9 ptrElem b n D

def sk (s : ByteArray) : Lit := .string s.data.toList
theorem keyS {s : ByteArray} (h : s.size ≤ maxLen) : keyOf Try.prog 9 (.string s) = some (sk s) := WideMaps.keyOf_string_mk Try.underlying9 h

theorem undrew {w w' : World} {row : Option Nat} (h : w.drew.grownBy w' row) : w.grownBy w' row := ⟨h.os, h.tape, h.output, h.size, h.block⟩

theorem At.ne_map {w : World} {b eb n k : Nat} {cs : Array Value} {t : TypeId} {D : Dt} (h : At w b cs t) (hm : w.ownsMap Try.prog k ptrElem eb n D) : b ≠ eb := by
  rintro rfl
  obtain ⟨es, clock, hb, -⟩ := hm
  have e := h.symm.trans hb
  simp at e

theorem sk_inj {s t : ByteArray} (h : sk s = sk t) : s = t := by
  unfold sk at h
  injection h with h
  cases s with
  | mk a => cases t with
    | mk b => simp at h; rw [h]

theorem mapM_some {α β : Type} (f : α → Option β) : ∀ l : List α, (∀ x ∈ l, ∃ y, f x = some y) → ∃ ys, l.mapM f = some ys
  | [], _ => ⟨[], rfl⟩
  | x :: r, h => by
    obtain ⟨y, hy⟩ := h x (by simp)
    obtain ⟨ys, hys⟩ := mapM_some f r (fun z hz => h z (by simp [hz]))
    exact ⟨y :: ys, by simp [List.mapM_cons, hy, hys]⟩

theorem lits37 (d : Nat) (cs : List Value) (hl : cs.length = 32) (hc : ∀ j, j < 32 → ∃ n : Nat, cs[j]? = some (.int .u8 n) ∧ n < 256) : ∃ ls, Try.prog.keyLits (d + 2) 37 cs = some ls := by
  have hcells : Try.prog.cellsOf 37 = 32 := by kernel_rfl
  have hcell5 : Try.prog.cellsOf 5 = 1 := by kernel_rfl
  have hone : ∀ i ∈ List.range 32, ∃ y, Try.prog.keyLits (d + 1) 5 ((cs.drop (i * Try.prog.cellsOf 5)).take (Try.prog.cellsOf 5)) = some y := by
    intro i hi
    obtain ⟨n, hn, hlt⟩ := hc i (by simpa using hi)
    have hil : i < cs.length := by rw [hl]; simpa using hi
    have e : (cs.drop (i * Try.prog.cellsOf 5)).take (Try.prog.cellsOf 5) = [.int .u8 n] := by
      rw [hcell5, Nat.mul_one, List.drop_eq_getElem_cons hil]
      have : cs[i] = .int .u8 n := by
        have := List.getElem?_eq_getElem hil
        rw [hn] at this
        exact (Option.some.inj this).symm
      rw [this]; rfl
    rw [e]
    refine ⟨[.int .u8 n], ?_⟩
    have hw : (Lit.int .u8 n).wf = true := by simp [Lit.wf, IntKind.min, IntKind.max, IntKind.bits, IntKind.signed]; omega
    unfold Program.keyLits
    rw [Try.underlying5]
    simp [hw]
  obtain ⟨ys, hys⟩ := mapM_some _ _ hone
  refine ⟨ys.flatten, ?_⟩
  unfold Program.keyLits
  rw [Try.underlying37]
  simp only [hcells, hl, if_true]
  rw [hys]
  rfl

theorem dg_get (i j : Nat) (hj : j < 32) : ∃ n : Nat, (dg i).toList[j]? = some (.int .u8 n) ∧ n < 256 := by
  have h := dgTo_get i 8 j hj
  rw [dgTo_all] at h
  by_cases h8 : j < 8
  · rw [if_pos h8] at h
    exact ⟨i / 256 ^ j % 256, by simpa [bt] using h, Nat.mod_lt _ (by omega)⟩
  · rw [if_neg h8] at h
    exact ⟨0, by simpa [z8] using h, by omega⟩

theorem keyD' (i : Nat) : ∃ l, keyOf Try.prog 37 (.agg (dg i)) = some l := by
  obtain ⟨m, hm⟩ : ∃ m, Try.prog.types.size = m + 1 := by
    have := row37
    exact ⟨Try.prog.types.size - 1, by omega⟩
  obtain ⟨ls, hls⟩ := lits37 m (dg i).toList rfl (dg_get i)
  have hkt : Try.prog.keyType 37 = true := by kernel_rfl
  have hf : (Value.agg (dg i)).formed Try.prog 37 = true := by
    unfold Value.formed
    rw [Try.underlying37]
    have hcells : Try.prog.cellsOf 37 = 32 := by kernel_rfl
    simp only [hcells, dg_size]
    rfl
  refine ⟨.string (keyBytes ls), ?_⟩
  · unfold keyOf
    rw [Try.underlying37]
    simp only [hkt, hf, Bool.and_self, if_true, hm]
    have : (Value.agg (dg i)).cells.toList = (dg i).toList := rfl
    rw [this, hls]
    rfl

/-- zzDigest(i) as a key. -/
noncomputable def kd (i : Nat) : Lit := Classical.choose (keyD' i)
theorem keyD (i : Nat) : keyOf Try.prog 37 (.agg (dg i)) = some (kd i) := Classical.choose_spec (keyD' i)

theorem kd_inj {i j : Nat} (hi : i < 65536) (hj : j < 65536) (h : kd i = kd j) : i = j := by
  have e := key37.inj (keyD i) (h ▸ keyD j)
  injection e with e
  have e0 : (dg i)[0]? = (dg j)[0]? := by rw [e]
  have e1 : (dg i)[1]? = (dg j)[1]? := by rw [e]
  have f0 : bt i 0 = bt j 0 := by
    have : (some (bt i 0) : Option Value) = some (bt j 0) := e0
    exact Option.some.inj this
  have f1 : bt i 1 = bt j 1 := by
    have : (some (bt i 1) : Option Value) = some (bt j 1) := e1
    exact Option.some.inj this
  unfold bt at f0 f1
  injection f0 with _ f0
  injection f1 with _ f1
  have g0 : i / 256 ^ 0 % 256 = j / 256 ^ 0 % 256 := by omega
  have g1 : i / 256 ^ 1 % 256 = j / 256 ^ 1 % 256 := by omega
  simp at g0 g1
  omega

theorem nodeC_dg (i : Nat) (n1 o1 : Option Addr) (hb j : Nat) (hj : j < 32) : (nodeC i n1 o1 hb)[j]? = (dg i).toList[j]? := by
  have e : nodeC i n1 o1 hb = dg i ++ #[.pointer n1, .pointer o1, .pointer (some ⟨hb, 0, none⟩), .string ⟨#[]⟩, .int .i64 0, .int .i64 0, .int .i64 0] := rfl
  rw [e, Array.getElem?_append_left (by rw [dg_size]; exact hj), Array.getElem?_toList]

theorem zero42 (w : World) : (zeroValue 42).run Try.prog w = .ok (.pointer none) w := by
  exact (zero_of_info (P := Try.prog) (t := 42) (v := .pointer none) (n := 1) (by kernel_rfl)).1 w
theorem zero32 (w : World) : (zeroValue 32).run Try.prog w = .ok (.pointer none) w := by
  exact (zero_of_info (P := Try.prog) (t := 32) (v := .pointer none) (n := 1) (by kernel_rfl)).1 w

/-- 'v, ok := holders[key]'. -/
theorem lookH (b n : Nat) (D : Dt) (s : ByteArray) (hs : s.size ≤ maxLen) (p : Option Nat) (hh : Maps.has D (sk s) = p.isSome) (ha : ∀ x, p = some x → D.atKey (sk s) .nil = .lit (.int .i64 (x : Nat))) (w : World) (hm : mapH w b n D) :
    (Instr.lookup 60 (.map (some b)) (.string s) true).run Try.prog w = .ok (.tuple #[.pointer (p.map fun x => ⟨x, 0, none⟩), .bool p.isSome]) w := by
  obtain ⟨v, ps, hrun, hv⟩ := World.ownsMap.look_ok (t := 60) (e := 42) hm key9 Try.underlying60 (zero42 w) ptrElem_nil (keyS hs)
  rw [hrun, hh]
  cases p with
  | none =>
    rw [Maps.atKey_of_not_has hh] at hv
    rw [ptrElem_inv_nil hv]; rfl
  | some x =>
    rw [ha x rfl] at hv
    rw [ptrElem_inv hv]; rfl

theorem lookH1 (b n : Nat) (D : Dt) (s : ByteArray) (hs : s.size ≤ maxLen) (p : Option Nat) (hh : Maps.has D (sk s) = p.isSome) (ha : ∀ x, p = some x → D.atKey (sk s) .nil = .lit (.int .i64 (x : Nat))) (w : World) (hm : mapH w b n D) :
    (Instr.lookup 60 (.map (some b)) (.string s) false).run Try.prog w = .ok (.pointer (p.map fun x => ⟨x, 0, none⟩)) w := by
  obtain ⟨v, ps, hrun, hv⟩ := World.ownsMap.lookup (t := 60) (e := 42) hm key9 Try.underlying60 (zero42 w) ptrElem_nil (keyS hs)
  rw [hrun]
  cases p with
  | none =>
    rw [Maps.atKey_of_not_has hh] at hv
    rw [ptrElem_inv_nil hv]; rfl
  | some x =>
    rw [ha x rfl] at hv
    rw [ptrElem_inv hv]; rfl

/-- 'v, ok := entries[digest]'. -/
theorem lookE (b n : Nat) (D : Dt) (i : Nat) (p : Option Nat) (hh : Maps.has D (kd i) = p.isSome) (ha : ∀ x, p = some x → D.atKey (kd i) .nil = .lit (.int .i64 (x : Nat))) (w : World) (hm : mapE w b n D) :
    (Instr.lookup 59 (.map (some b)) (.agg (dg i)) true).run Try.prog w = .ok (.tuple #[.pointer (p.map fun x => ⟨x, 0, none⟩), .bool p.isSome]) w := by
  obtain ⟨v, ps, hrun, hv⟩ := World.ownsMap.look_ok (t := 59) (e := 32) hm key37 Try.underlying59 (zero32 w) ptrElem_nil (keyD i)
  rw [hrun, hh]
  cases p with
  | none =>
    rw [Maps.atKey_of_not_has hh] at hv
    rw [ptrElem_inv_nil hv]; rfl
  | some x =>
    rw [ha x rfl] at hv
    rw [ptrElem_inv hv]; rfl

theorem putHolder_calls (g eb kb hb n : Nat) (cap tk : Int) (nw ol : Option Addr) (s : ByteArray) (D : Dt) (w : World) (hg : At w g (memC cap eb kb nw ol) 63) (hh : At w hb (holdC s tk) 77) (hm : mapH w kb n D) (hn : n < 65536) (hs : s.size ≤ maxLen) :
    Calls Try.prog 21 #[.pointer (some ⟨g, 0, none⟩), .pointer (some ⟨hb, 0, none⟩)] w fun e w' => e = .returned (.tuple #[]) ∧ mapH w' kb (n + 1) (D.put (sk s) (.lit (.int .i64 hb))) ∧ w.grownBy w' (some kb) := by
  have c1 : w.cell? ⟨g, 6, none⟩ = some (.map (some kb)) := hg.cell 6 rfl
  have c2 : w.cell? ⟨hb, 0, none⟩ = some (.string s) := hh.cell 0 rfl
  have HM : Hid (mapH w kb n D) := hm
  clear hg hh hm
  go_enter Try.func21, Try.ntmps21
  go_wp2_with fail
  obtain ⟨w2, hrun, ho2, ht2⟩ := World.ownsMap.store (t := 60) (e := 42) (w := w.drew) HM.out key9 Try.underlying60 (by unfold maxLen; omega) (keyS hs) (ptrElem_mk hb)
  go_region
  go_end0
  exact ⟨rfl, ho2, undrew ht2.grown⟩

set_option maxHeartbeats 800000 in
theorem putEntry_calls (g eb kb nb hb n i : Nat) (cap : Int) (nw ol n1 o1 : Option Addr) (D : Dt) (w : World) (hg : At w g (memC cap eb kb nw ol) 63) (hh : At w nb (nodeC i n1 o1 hb) 66) (hm : mapE w eb n D) (hn : n < 65536) :
    Calls Try.prog 23 #[.pointer (some ⟨g, 0, none⟩), .pointer (some ⟨nb, 0, none⟩)] w fun e w' => e = .returned (.tuple #[]) ∧ mapE w' eb (n + 1) (D.put (kd i) (.lit (.int .i64 nb))) ∧ w.grownBy w' (some eb) := by
  have c1 : w.cell? ⟨g, 3, none⟩ = some (.map (some eb)) := hg.cell 3 rfl
  have c2 : w.rangeAt nb 0 (dg i).toList := fun j v hv => by
    rw [Nat.zero_add]
    refine hh.cell j ?_
    have hj : j < 32 := by
      have := (List.getElem?_eq_some_iff.1 hv).1
      simpa [dg] using this
    have e : (nodeC i n1 o1 hb)[j]? = (dg i).toList[j]? := nodeC_dg i n1 o1 hb j hj
    rw [e]; exact hv
  obtain ⟨cs, hcs⟩ : ∃ cs, cs = (dg i).toList := ⟨_, rfl⟩
  have hk : keyOf Try.prog 37 (.agg cs.toArray) = some (kd i) := by rw [hcs]; simpa using keyD i
  have hu := Try.underlying37
  have hsz : (Try.prog.info? 37).map (·.size) = some cs.length := by rw [hcs, Array.length_toList]; exact info37
  rw [← hcs] at c2
  have ng := hg.ne_map hm
  have nn := hh.ne_map hm
  have HM : Hid (mapE w eb n D) := hm
  clear hg hh hm hcs
  go_enter Try.func23, Try.ntmps23
  go_wp2_with fail
  obtain ⟨w2, hrun, ho2, ht2⟩ := World.ownsMap.store (t := 59) (e := 32) (w := w.drew) HM.out key37 Try.underlying59 (by unfold maxLen; omega) hk (ptrElem_mk nb)
  have hw2a : w2.cell? ⟨g, 3, none⟩ = some (.map (some eb)) := ht2.grown.cell (w := w.drew) c1 (by simpa using ng)
  have hw2b : w2.rangeAt nb 0 cs := fun j v hv => ht2.grown.cell (w := w.drew) (c2 j v hv) (by simpa using nn)
  go_region_held3 (fun w' => w'.cell? ⟨g, 3, none⟩ = some (.map (some eb)) ∧ w'.rangeAt nb 0 cs) (simp [*, go_sem]) (fail)
  go_end0
  exact ⟨rfl, ho2, undrew ht2.grown⟩
end Go.Proofs.Qxb6613886a
