/-
  Objects in memory; the small functions that lay them.
-/
import Derived.Test.Qxb6613886aRows
import Derived.WalkKit
import Derived.WalkSpells
import Derived.WalkSmall
import Derived.Below
import Derived.Outline
import Derived.LoopN
import Derived.StillTactics
import Derived.Laws.Pointers
import Derived.RegionTactic
import Derived.Deep.QuietTactic
import Derived.BigQuiet
import Derived.Deep.RegionHeld3
import Derived.Laws.OwnMore
import Derived.Laws.Rows
import Derived.Maps.OwnSet
namespace Go.Proofs.Qxb6613886a
open Go.RowKit

theorem hidI {p : Prop} (h : p) : Hid p := h

theorem below_grown {w w' : World} (h : Below w.heap.size w w') : w.grownBy w' none := ⟨h.os, h.tape, h.output, h.size, fun k hk _ => h.block k hk⟩
theorem grown_below {w w' : World} (h : w.grownBy w' none) : Below w.heap.size w w' := ⟨h.os, h.tape, h.output, h.size, fun k hk => h.block k hk (by simp)⟩

/-- Block b holds the cells cs. -/
def At (w : World) (b : Nat) (cs : Array Value) (t : TypeId) : Prop := w.heap[b]? = some (.cells cs t (0, 0))

theorem At.lt {w : World} {b : Nat} {cs : Array Value} {t : TypeId} (h : At w b cs t) : b < w.heap.size := (Array.getElem?_eq_some_iff.1 h).1

theorem At.cell {w : World} {b : Nat} {cs : Array Value} {t : TypeId} (h : At w b cs t) (o : Nat) {v : Value} (hv : cs[o]? = some v) : w.cell? ⟨b, o, none⟩ = some v := by
  rw [cell_of_row w b o cs t (0, 0) h]; exact hv

theorem At.frz {w : World} {b : Nat} {cs : Array Value} {t : TypeId} (h : At w b cs t) (o : Nat) : w.frozen? ⟨b, o, none⟩ = false := by
  have h' : w.heap[b]? = some (.cells cs t (0, 0)) := h
  simp [World.frozen?, h']

theorem At.set {w : World} {b : Nat} {cs : Array Value} {t : TypeId} (h : At w b cs t) (o : Nat) (v : Value) : At (w.setCell ⟨b, o, none⟩ v) b (cs.setIfInBounds o v) t :=
  heap_setCell_same w b o cs t v h

theorem At.other {w : World} {b : Nat} {cs : Array Value} {t : TypeId} (h : At w b cs t) {a : Addr} (hne : b ≠ a.block) (v : Value) : At (w.setCell a v) b cs t :=
  (heap_setCell_other w a b v hne).trans h

theorem At.keep {w w' : World} {b : Nat} {cs : Array Value} {t : TypeId} {row : Option Nat} (h : At w b cs t) (hg : w.grownBy w' row) (hne : some b ≠ row) : At w' b cs t :=
  (hg.block b h.lt hne).trans h

theorem At.ne {w : World} {b b' : Nat} {cs cs' : Array Value} {t t' : TypeId} (h : At w b cs t) (h' : At w b' cs' t') (ht : t ≠ t') : b ≠ b' := by
  rintro rfl
  have e : some (Obj.cells cs t (0, 0)) = some (Obj.cells cs' t' (0, 0)) := h.symm.trans h'
  simp at e
  exact ht e.2

theorem grown_set (w : World) (a : Addr) (v : Value) : w.grownBy (w.setCell a v) (some a.block) :=
  ⟨rfl, rfl, rfl, by simp [World.setCell], fun i _ hi => heap_setCell_other w a i v (fun e => hi (by rw [e]))⟩

/-- A holder's cells. -/
def holdC (s : ByteArray) (n : Int) : Array Value :=
  #[.string s, .string ⟨#[]⟩, .string ⟨#[]⟩, .slice none 0 0, .pointer none, .pointer none, .pointer none, .string ⟨#[]⟩, .string ⟨#[]⟩, .slice none 0 0, .string ⟨#[]⟩, .nilIface, .int .i64 n]

theorem newHolder_calls (s : ByteArray) (n : Int) (w : World) :
    Calls Try.prog 20 #[.string s, .int .i64 n] w fun e w' => e = .returned (.pointer (some ⟨w.heap.size, 0, none⟩)) ∧ w.alloc (.cells (holdC s n) 77) = w' := by
  go_enter Try.func20, Try.ntmps20
  go_wp2
  go_ret
  exact ⟨rfl, rfl⟩

theorem grown_row (w : World) (g : Nat) (c : Array Value) : w.grownBy (w.setRow g c) (some g) :=
  ⟨rfl, rfl, rfl, by simp, fun i _ hi => setRow_other w g i c (fun e => hi (by rw [e]))⟩

/-- The memory's cells. -/
def memC (n : Int) (eb kb : Nat) (nw ol : Option Addr) : Array Value :=
  #[.int .i64 n, .int .i32 0, .int .u32 0, .map (some eb), .pointer nw, .pointer ol, .map (some kb), .int .u64 0, .int .u64 0]

theorem newMemory_calls (n : Int) (w : World) :
    Calls Try.prog 19 #[.int .i64 n] w fun e w' => e = .returned (.pointer (some ⟨w.heap.size + 2, 0, none⟩)) ∧ ((w.alloc (.map #[] 0)).alloc (.map #[] 0)).alloc (.cells (memC n w.heap.size (w.heap.size + 1) none none) 63) = w' := by
  have h1 := fun w' => run_makeMap (P := Try.prog) 59 w'
  have h2 := fun w' => run_makeMap (P := Try.prog) 60 w'
  go_enter Try.func19, Try.ntmps19
  go_wp2
  go_ret
  exact ⟨rfl, rfl⟩

/-- The k-th byte of i. -/
def bt (i k : Nat) : Value := .int .u8 ((i / 256 ^ k % 256 : Nat) : Int)
def z8 : Value := .int .u8 0
/-- zzDigest(i). -/
def dg (i : Nat) : Array Value := #[bt i 0, bt i 1, bt i 2, bt i 3, bt i 4, bt i 5, bt i 6, bt i 7, z8, z8, z8, z8, z8, z8, z8, z8, z8, z8, z8, z8, z8, z8, z8, z8, z8, z8, z8, z8, z8, z8, z8, z8]

/-- The digest, k bytes laid. -/
def dgTo (i k : Nat) : Array Value := ((List.range 32).map fun j => if j < k then bt i j else z8).toArray

theorem dgTo_all (i : Nat) : dgTo i 8 = dg i := rfl

theorem dgTo_size (i k : Nat) : (dgTo i k).size = 32 := by simp [dgTo]

theorem dgTo_get (i k j : Nat) (hj : j < 32) : (dgTo i k)[j]? = some (if j < k then bt i j else z8) := by
  simp [dgTo, hj]

theorem dgTo_succ (i k : Nat) (hk : k < 8) : (dgTo i k).setIfInBounds k (bt i k) = dgTo i (k + 1) := by
  apply Array.ext_getElem?
  intro j
  rw [Array.getElem?_setIfInBounds]
  by_cases hj : j < 32
  · rw [dgTo_get i (k + 1) j hj, dgTo_get i k j hj, dgTo_size]
    by_cases e : k = j
    · subst e; simp; omega
    · rw [if_neg e]
      by_cases h1 : j < k
      · rw [if_pos h1, if_pos (by omega)]
      · rw [if_neg h1, if_neg (by omega)]
  · rw [Array.getElem?_eq_none (by rw [dgTo_size]; omega), Array.getElem?_eq_none (by rw [dgTo_size]; omega), dgTo_size]
    by_cases e : k = j
    · omega
    · rw [if_neg e]

theorem wrap_u64_id (x : Int) (h0 : 0 ≤ x) (h1 : x < 18446744073709551616) : IntKind.u64.wrap x = x := by
  rw [IntKind.wrap_u64]; omega

theorem dg_size (i : Nat) : (dg i).size = 32 := rfl
theorem info37 {i : Nat} : (Try.prog.info? 37).map (·.size) = some (dg i).size := by rw [dg_size]; kernel_rfl
theorem dg_size0 {i : Nat} : (dgTo i 0).size = (dg i).size := by rw [dgTo_size, dg_size]
theorem dg_one (i : Nat) : (dg i).all (·.oneCell') = true := by simp [dg, bt, z8, Value.oneCell']

theorem bt_eq (i k : Nat) : Value.int IntKind.u8 ((i : Int) / 2 ^ (8 * k) % 256) = bt i k := by
  unfold bt
  congr 1
  have h : (2 : Int) ^ (8 * k) = ((256 ^ k : Nat) : Int) := by
    rw [Int.pow_mul]; simp
  rw [h]
  simp

section
variable {P : Program}
theorem wp_store_row {o : Oper} {a : Act} {w : World} {K : Act → World → Prop} {Q : Exit → Act → World → Prop} (ty : TypeId) (x y : Operand) (ho : o.op = .store ty x y)
    (g : Nat) (hx : a.eval x = .pointer (some ⟨g, 0, none⟩)) (t : TypeId) (c c' : Array Value) (hy : a.eval y = .agg c') (hg : w.heap[g]? = some (.cells c t (0, 0)))
    (hi : (P.info? ty).map (·.size) = some c'.size) (hs : c.size = c'.size) (h1 : c'.all (·.oneCell') = true)
    (h : K (a.put o.dst undef) (w.setRow g c')) : o.wp P a w K Q := by
  unfold Oper.wp execOp
  simp only [ho, hx, hy, Instr.storeAt, Instr.sureAddr, Sem.run_bind, Sem.run_pure, Result.andThen_ok, run_storeVar_row w g t ty c c' hg hi hs h1]
  exact h
theorem wpList_store_row {ops : Array Oper} {rest : List Oper} {o : Oper} {a : Act} {w : World} {Q : Exit → Act → World → Prop} (hgd : o.guard = none) (ty : TypeId) (x y : Operand) (ho : o.op = .store ty x y)
    (g : Nat) (hx : a.eval x = .pointer (some ⟨g, 0, none⟩)) (t : TypeId) (c c' : Array Value) (hy : a.eval y = .agg c') (hg : w.heap[g]? = some (.cells c t (0, 0)))
    (hi : (P.info? ty).map (·.size) = some c'.size) (hs : c.size = c'.size) (h1 : c'.all (·.oneCell') = true)
    (h : wpList P ops Q rest (a.put o.dst undef) (w.setRow g c')) : wpList P ops Q (o :: rest) a w :=
  wpList_plain hgd fun _ hK => wp_store_row ty x y ho g hx t c c' hy hg hi hs h1 (hK _ _ h)
end

set_option maxHeartbeats 1600000 in
theorem digest_calls (i : Nat) (w : World) (hi : i < 65536) :
    Calls Try.prog 11 #[.int .i64 i] w fun e w' => e = .returned (.agg (dg i)) ∧ w.grownBy w' none := by
  go_enter Try.func11, Try.ntmps11
  go_wp2
  obtain ⟨sz, hsz⟩ : ∃ n, n = w.heap.size := ⟨_, rfl⟩
  go_loopw [5] (fun s5 wr => ∃ k : Nat, k ≤ 8 ∧ s5 = .int .i64 k ∧ Hid (At wr (w.heap.size + 1) (dgTo i k) 37) ∧ Hid (At wr w.heap.size (dgTo i 0) 37) ∧ Hid (w.grownBy wr none)) (fun s5 _ => 8 - (intOf s5).toNat)
  case atStart =>
    refine ⟨0, Nat.zero_le _, rfl, ?_, ?_, (World.grownBy_alloc w _ none).trans (World.grownBy_alloc _ _ none)⟩
    · exact heap_alloc2_new w _ _
    · exact heap_alloc2_old w _ _
  case round =>
    obtain ⟨k, hk, rfl, h1, h2, hg⟩ := hrel
    by_cases hlt : k < 8
    · have c1 := h1.out.cell k (dgTo_get i k k (by omega))
      rw [if_neg (Nat.lt_irrefl k)] at c1
      have z1 := h1.out.frz k
      go_wp2
      go_roundw
      case rel =>
        rw [bt_eq]
        refine ⟨k + 1, by omega, by go_num, ?_, h2.out.other (by simp) _, ?_⟩
        · rw [← dgTo_succ i k hlt]; exact h1.out.set k _
        · exact hg.out.andThen (grown_set wr _ _) (fun j hj => by cases hj; exact .inl (by simp))
      case measure => simp [intOf]; omega
    · have hk8 : k = 8 := by omega
      subst hk8
      rw [dgTo_all] at h1
      go_wp2_with (first | refine wpList_load_row rfl 37 (.tmp 3) rfl (w.heap.size + 1) rfl 37 (dg i) (0, 0) _ h1.out Try.underlying37 rfl (by kernel_rfl) ?_ | refine wpList_store_row rfl 37 (.tmp 2) (.tmp 20) rfl w.heap.size rfl 37 (dgTo i 0) (dg i) rfl h2.out info37 dg_size0 (dg_one i) ?_)
      refine bodyPost_ret (results_cell_row rfl _ _ w.heap.size 37 (dg i) (0, 0) _ rfl (setRow_heap wr _ _ _ 37 (0, 0) h2.out) Try.underlying37 rfl info37) rfl ?_
      exact ⟨rfl, hg.out.andThen (grown_row wr _ _) (fun j hj => by cases hj; exact .inl (Nat.le_refl _))⟩

/-- A token's cells. -/
def nodeC (i : Nat) (nw ol : Option Addr) (hb : Nat) : Array Value := #[bt i 0, bt i 1, bt i 2, bt i 3, bt i 4, bt i 5, bt i 6, bt i 7, z8, z8, z8, z8, z8, z8, z8, z8, z8, z8, z8, z8, z8, z8, z8, z8, z8, z8, z8, z8, z8, z8, z8, z8, .pointer nw, .pointer ol, .pointer (some ⟨hb, 0, none⟩), .string ⟨#[]⟩, .int .i64 0, .int .i64 0, .int .i64 0]

end Go.Proofs.Qxb6613886a
