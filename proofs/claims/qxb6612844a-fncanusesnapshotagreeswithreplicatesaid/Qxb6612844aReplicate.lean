/-
  slices.Clone at Entry, and Replicate.
-/
import Derived.Test.Qxb6612844aReplWalks
import Derived.Laws.OwnMore
namespace Go.Proofs.Qxb6612844a
open Go.RowKit

set_option maxHeartbeats 800000 in
theorem cloneE_calls (b o n c : Nat) (news : List Value) (w : World) (hl : news.length = n * 4) (hnews : ∀ j u, news[j]? = some u → w.cell? ⟨b, o + j, none⟩ = some u) (h1 : ∀ u ∈ news, u.oneCell' = true) (hn : n ≤ 65536) :
    Calls Try.prog 41 #[.slice (some ⟨b, o, none⟩) n c] w fun e w' => (∃ a' c', e = .returned (.slice a' n c')) ∧ Below w.heap.size w w' := by
  obtain ⟨i0, hi, hz0, hz1, hz2⟩ := info_parts info61
  have heq := fun w' => Lib.run_eql_slice_nil (P := Try.prog) w' 42 61 (some ⟨b, o, none⟩) n c 0 0 Try.underlying42
  have hnw : ∀ j u, news[j]? = some u → (w.alloc (.cells #[] 61)).cell? ((⟨b, o, none⟩ : Addr).add j) = some u := by
    intro j u hj
    have h := hnews j u hj
    have hlt : b < w.heap.size := World.block_lt_of_cell? _ _ h
    have e : ((⟨b, o, none⟩ : Addr).add j) = ⟨b, o + j, none⟩ := by simp [Addr.add]
    rw [e, World.cell?_alloc_lt _ _ _ hlt]
    exact h
  have hown : (w.alloc (.cells #[] 61)).ownsRow w.heap.size 61 4 (.slice (some ⟨w.heap.size, 0, none⟩) 0 0) 0 (#[] : Array Value).toList := World.ownsRow_lit w #[] 0 (Nat.le_refl _) (Nat.zero_le _) rfl
  clear hnews
  have HN : Hid (∀ j u, news[j]? = some u → (w.alloc (.cells #[] 61)).cell? ((⟨b, o, none⟩ : Addr).add j) = some u) := hnw
  clear hnw
  go_enter Try.func41, Try.ntmps41
  go_wp2_with (at_builtin; refine wpList_append_own _ rfl _ _ 42 rfl w.heap.size 61 i0 _ 4 48 Try.underlying42 hi hz0 hz1 hz2 rfl (by decide) _ 0 [] rfl (by exact hown) ⟨b, o, none⟩ n c news rfl hl (by exact HN.out) h1 (by unfold maxLen; omega) (by omega) (by simp) ?_; intro v' w1 hown1 hg1 hnil1)
  have hg2 : (w.alloc (.cells #[] 61)).grownBy w1 (some w.heap.size) := hg1
  have hb : Below w.heap.size w w1 := ((Below.refl _ _).alloc (Nat.le_refl _) _).grown hg2 (by simp) (fun k h => by cases h; exact Nat.le_refl _)
  have hv : ∃ a' c', v' = .slice a' n c' := by
    rcases hown1.2 with ⟨hv, h0⟩ | ⟨g, cap, cur, hv, -⟩
    · obtain rfl : n = 0 := by omega
      exact ⟨none, 0, hv⟩
    · rw [Nat.zero_add] at hv
      exact ⟨_, cap, hv⟩
  clear hg1 hg2 hnil1 hown1 hown
  go_ret
  obtain ⟨a', c', rfl⟩ := hv
  exact ⟨⟨a', c', rfl⟩, hb⟩

/-- The six cells of an AppendEntries. -/
def req6 (a b c d : Int) (ra : Option Addr) (rn rc : Nat) (f : Int) : Value := .agg #[.int .u64 a, .int .u64 b, .int .u64 c, .int .u64 d, .slice ra rn rc, .int .u64 f]

/-- next is not past the snapshot: no request. -/
theorem replicate_no (g lg len mb : Nat) (s st : Int) (zs : List Int) (to nxt mx : Int) (w : World) (hC : Core w g lg len s st zs) (c19 : w.cell? ⟨g, 19, none⟩ = some (.map (some mb)))
    (hlook : ∀ O, (Instr.lookup 47 (.map (some mb)) (.int .u64 to) true).run Try.prog (w.alloc O) = .ok (.tuple #[.int .u64 nxt, .bool true]) (w.alloc O)) (hn : nxt ≤ s) :
    Calls Try.prog 26 #[.pointer (some ⟨g, 0, none⟩), .int .u64 to, .int .i64 mx] w fun e w' => (∃ a b c d ra rn rc f, e = .returned (.tuple #[req6 a b c d ra rn rc f, .bool false])) ∧ Below w.heap.size w w' := by
  have c3 := hC.c3
  have c12 := hC.c12
  have glt := hC.glt
  clear hC
  go_enter Try.func26, Try.ntmps26
  go_wp2
  refine bodyPost_ret (v := .tuple #[req6 0 0 0 0 none 0 0 0, .bool false]) (by simp [results, Try.results26, go_sem, req6]) rfl ⟨⟨0, 0, 0, 0, none, 0, 0, 0, rfl⟩, ?_⟩
  exact (Below.refl _ _).alloc (Nat.le_refl _) _

/-- The result's block as it was made. -/
structure Res (W : World) (B : Nat) : Prop where
  lt : B < W.heap.size
  c : ∀ i, i < 6 → ∃ v, W.cell? ⟨B, i, none⟩ = some v
  f : ∀ i, W.frozen? ⟨B, i, none⟩ = false

theorem res_made (w : World) : Res (w.alloc (.cells #[.int .u64 0, .int .u64 0, .int .u64 0, .int .u64 0, .slice none 0 0, .int .u64 0] 49)) w.heap.size :=
  ⟨by simp, fun i hi => by
    match i, hi with
    | 0, _ => exact ⟨_, by simp; rfl⟩
    | 1, _ => exact ⟨_, by simp; rfl⟩
    | 2, _ => exact ⟨_, by simp; rfl⟩
    | 3, _ => exact ⟨_, by simp; rfl⟩
    | 4, _ => exact ⟨_, by simp; rfl⟩
    | 5, _ => exact ⟨_, by simp; rfl⟩, fun i => by simp⟩

theorem Res.later {w w' : World} {B : Nat} (h : Res w B) (hb : Below w.heap.size w w') : Res w' B :=
  ⟨Nat.lt_of_lt_of_le h.lt hb.size, fun i hi => by obtain ⟨v, hv⟩ := h.c i hi; exact ⟨v, (hb.cell (p := ⟨B, i, none⟩) h.lt).trans hv⟩, fun i => (hb.frozen (p := ⟨B, i, none⟩) h.lt).trans (h.f i)⟩

theorem Res.cells {w : World} {B : Nat} (h : Res w B) : ∃ r0 r1 r2 r3 r4 r5, w.cell? ⟨B, 0, none⟩ = some r0 ∧ w.cell? ⟨B, 1, none⟩ = some r1 ∧ w.cell? ⟨B, 2, none⟩ = some r2 ∧ w.cell? ⟨B, 3, none⟩ = some r3 ∧ w.cell? ⟨B, 4, none⟩ = some r4 ∧ w.cell? ⟨B, 5, none⟩ = some r5 := by
  obtain ⟨r0, k0⟩ := h.c 0 (by omega)
  obtain ⟨r1, k1⟩ := h.c 1 (by omega)
  obtain ⟨r2, k2⟩ := h.c 2 (by omega)
  obtain ⟨r3, k3⟩ := h.c 3 (by omega)
  obtain ⟨r4, k4⟩ := h.c 4 (by omega)
  obtain ⟨r5, k5⟩ := h.c 5 (by omega)
  exact ⟨r0, r1, r2, r3, r4, r5, k0, k1, k2, k3, k4, k5⟩

/-- One cell of a row of entries. -/
def cellOf (zs : List Int) (p : Nat) : Value := if p % 4 = 0 then .int .u64 (zs.getD (p / 4) 0) else if p % 4 = 1 then .slice none 0 0 else if p % 4 = 2 then .int .u8 0 else .pointer none

theorem LogRow.cellOf {w : World} {lg len : Nat} {zs : List Int} (h : LogRow w lg len len zs) (p : Nat) (hp : p < len * 4) : w.cell? ⟨lg, p, none⟩ = some (cellOf zs p) := by
  obtain ⟨⟨c0, c1, c2, c3⟩, -⟩ := h (p / 4) (by omega)
  rw [if_pos (by omega)] at c0
  unfold Qxb6612844a.cellOf
  by_cases h0 : p % 4 = 0
  · rw [if_pos h0]; rw [show p / 4 * 4 = p from by omega] at c0; exact c0
  · rw [if_neg h0]
    by_cases h1 : p % 4 = 1
    · rw [if_pos h1]; rw [show p / 4 * 4 + 1 = p from by omega] at c1; exact c1
    · rw [if_neg h1]
      by_cases h2 : p % 4 = 2
      · rw [if_pos h2]; rw [show p / 4 * 4 + 2 = p from by omega] at c2; exact c2
      · rw [if_neg h2]; rw [show p / 4 * 4 + 3 = p from by omega] at c3; exact c3

theorem cellOf_one (zs : List Int) (p : Nat) : (cellOf zs p).oneCell' = true := by
  unfold cellOf; split
  · rfl
  · split
    · rfl
    · split <;> rfl

/-- The cells that slices.Clone reads: n entries from cell o on. -/
theorem news_of {w : World} {lg len : Nat} {zs : List Int} (h : LogRow w lg len len zs) (n o : Nat) (hno : o + n * 4 ≤ len * 4) :
    ∃ news : List Value, news.length = n * 4 ∧ (∀ j u, news[j]? = some u → w.cell? ⟨lg, o + j, none⟩ = some u) ∧ ∀ u ∈ news, u.oneCell' = true := by
  refine ⟨(List.range (n * 4)).map (fun i => cellOf zs (o + i)), by simp, ?_, ?_⟩
  · intro j u hj
    have hlt : j < n * 4 := by
      have := (List.getElem?_eq_some_iff.1 hj).1
      simpa using this
    simp [hlt] at hj
    rw [← hj]
    exact h.cellOf (o + j) (by omega)
  · intro u hu
    simp at hu
    obtain ⟨a, -, rfl⟩ := hu
    exact cellOf_one _ _

theorem below_step {W wr w2 : World} {q : Nat} (h : Below W.heap.size W wr) (h2 : Below (wr.drewN q).heap.size (wr.drewN q) w2) : Below W.heap.size W w2 :=
  (below_drewN h q).trans (h2.mono h.size)

set_option maxHeartbeats 6400000 in
theorem replicate_yes (g lg len mb l : Nat) (s st : Int) (zs : List Int) (to mx : Int) (w : World) (hC : Core w g lg len s st zs) (c19 : w.cell? ⟨g, 19, none⟩ = some (.map (some mb)))
    (hlook : ∀ O, (Instr.lookup 47 (.map (some mb)) (.int .u64 to) true).run Try.prog (w.alloc O) = .ok (.tuple #[.int .u64 (s + 1 + l), .bool true]) (w.alloc O))
    (h0 : 0 ≤ s) (h1 : s + len ≤ 18446744073709551614) (hl : l ≤ len) (hlen : len ≤ 65536) :
    Calls Try.prog 26 #[.pointer (some ⟨g, 0, none⟩), .int .u64 to, .int .i64 mx] w fun e w' => (∃ a b c d ra rn rc f, e = .returned (.tuple #[req6 a b c d ra rn rc f, .bool true])) ∧ Below w.heap.size w w' := by
  have c3 := hC.c3
  have c12 := hC.c12
  have glt := hC.glt
  have lglt := hC.lglt
  have H : Hid (Core w g lg len s st zs) := hC
  clear hC
  have hns : ¬ s + 1 + (l : Int) ≤ s := by omega
  go_enter Try.func26, Try.ntmps26
  go_wp2
  have hC0 := H.out.later ((Below.refl w.heap.size w).alloc (Nat.le_refl _) (.cells #[.int .u64 0, .int .u64 0, .int .u64 0, .int .u64 0, .slice none 0 0, .int .u64 0] 49))
  have hR := res_made w
  have hB0 := (Below.refl w.heap.size w).alloc (Nat.le_refl _) (.cells #[.int .u64 0, .int .u64 0, .int .u64 0, .int .u64 0, .slice none 0 0, .int .u64 0] 49)
  generalize w.alloc (.cells #[.int .u64 0, .int .u64 0, .int .u64 0, .int .u64 0, .slice none 0 0, .int .u64 0] 49) = W at *
  clear H c3 c12 c19 hlook
  have HC0 : Hid (Core W g lg len s st zs) := hC0
  have HR : Hid (Res W w.heap.size) := hR
  have HB0 : Hid (Below w.heap.size w W) := hB0
  clear hC0 hR hB0
  have el : s + 1 + (l : Int) - (s + 1) = (l : Int) := by omega
  have il : IntKind.u64.wrap (s + 1 + (l : Int) - (s + 1)) = (l : Int) := by rw [el]; exact wrap_u64_id _ (by omega) (by omega)
  have il1 : IntKind.u64.wrap (s + 1 + (l : Int) - 1) = s + 1 + (l : Int) - 1 := wrap_u64_id _ (by omega) (by omega)
  have il0 : IntKind.u64.wrap (l : Int) = (l : Int) := wrap_u64_id _ (by omega) (by omega)
  clear el
  go_loopw [9, 10] (fun e z wr => ∃ m : Nat, l ≤ m ∧ m ≤ len ∧ e = .int .u64 (s + 1 + m) ∧ z = .int .i64 (32 * ((m : Int) - l)) ∧ Below W.heap.size W wr) (fun e _ _ => (s + 1 + len - intOf e).toNat)
  case atStart => exact ⟨l, Nat.le_refl _, hl, rfl, by simp, Below.refl _ _⟩
  case round =>
    obtain ⟨m, hm1, hm2, rfl, rfl, hbel⟩ := hrel
    have HB : Hid (Below W.heap.size W wr) := hbel
    have HC : Hid (Core wr g lg len s st zs) := HC0.out.later hbel
    clear hbel
    have em : s + 1 + (m : Int) - (s + 1) = (m : Int) := by omega
    have im : IntKind.u64.wrap (s + 1 + (m : Int) - (s + 1)) = (m : Int) := by rw [em]; exact wrap_u64_id _ (by omega) (by omega)
    have im0 : IntKind.u64.wrap (m : Int) = (m : Int) := wrap_u64_id _ (by omega) (by omega)
    clear em
    have b1 : (0 : Int) ≤ (l : Int) := by omega
    have b2 : (l : Int) ≤ (m : Int) := by omega
    have b3 : (m : Int) ≤ (len : Int) := by omega
    by_cases hlt : m < len
    · have t1 : s + 1 + (m : Int) ≤ s + len := by omega
      have hne : ¬ len = l := by omega
      by_cases hgt : l < m
      · have t2 : s + 1 + (l : Int) < s + 1 + m := by omega
        by_cases hbig : mx < 32 * ((m : Int) - l) + 32
        · go_wp2_with (first
            | (go_at_call 23; refine (last_calls g s (some ⟨lg, 0, none⟩) len len _ (by exact HC.out.c12) (by exact HC.out.c16) (by omega) (by omega)).mono ?_; rintro e w1 ⟨rfl, q, rfl⟩)
            | (go_at_call 38; refine (entry_calls g lg len s st zs _ _ (by exact HC.out.later (below_drewN (Below.refl _ _) _)) (by omega) (by omega) (by omega) (by omega)).mono ?_; rintro e w2 ⟨⟨t, rfl⟩, hb2⟩)
            | (go_at_call 39; refine (size_calls _ _).mono ?_; rintro e w3 ⟨rfl, rfl⟩))
          have hbx : Below W.heap.size W (w2.alloc (.cells #[.int .u64 t, .slice none 0 0, .int .u8 0, .pointer none] 61)) := (below_step HB.out hb2).alloc (Nat.le_trans HB.out.size hb2.size) _
          generalize w2.alloc (.cells #[.int .u64 t, .slice none 0 0, .int .u8 0, .pointer none] 61) = X at *
          have HCx : Hid (Core X g lg len s st zs) := HC0.out.later hbx
          have HRx : Hid (Res X w.heap.size) := HR.out.later hbx
          have HBx : Hid (Below w.heap.size w X) := HB0.out.trans (hbx.mono (Nat.le_of_lt HR.out.lt))
          clear hbx
          have x12 := HCx.out.c12
          have x16 := HCx.out.c16
          have xlt := HCx.out.glt
          obtain ⟨news, hnl, hnc, hn1⟩ := news_of HCx.out.row (m - l) (l * 4) (by omega)
          have HN : Hid (∀ j u, news[j]? = some u → X.cell? ⟨lg, l * 4 + j, none⟩ = some u) := hnc
          clear hnc
          go_region_held3 (fun w' => w'.cell? ⟨g, 12, none⟩ = some (.int .u64 s) ∧ w'.cell? ⟨g, 16, none⟩ = some (.slice (some ⟨lg, 0, none⟩) len len)) (simp [*, go_sem])
            (first
              | (go_at_call 22; refine (first_calls g s _ (by simp [*]) (by omega) (by omega)).mono ?_; rintro e w' ⟨rfl, rfl⟩)
              | (go_at_call 41; refine (cloneE_calls lg (l * 4) (m - l) (len - l) news _ hnl (by exact HN.out) hn1 (by omega)).mono ?_; rintro e w4 ⟨⟨a', c', rfl⟩, hb4⟩; have y12 := ((HCx.out.later (Below.refl _ _).drew).later hb4).c12; have y16 := ((HCx.out.later (Below.refl _ _).drew).later hb4).c16)
              | (go_at_call 40; refine (appendEntries_calls g lg len s st zs _ _ _ _ _ (by exact ((HCx.out.later (Below.refl _ _).drew).later hb4)) (by omega) (by omega) (by omega) (by omega)).mono ?_; rintro e w5 ⟨⟨t5, rfl⟩, hb5⟩; have v12 := (((HCx.out.later (Below.refl _ _).drew).later hb4).later hb5).c12; have v16 := (((HCx.out.later (Below.refl _ _).drew).later hb4).later hb5).c16; obtain ⟨r0, r1, r2, r3, r4, r5, k0, k1, k2, k3, k4, k5⟩ := (((HRx.out.later (Below.refl _ _).drew).later hb4).later hb5).cells; have ff := (((HRx.out.later (Below.refl _ _).drew).later hb4).later hb5).f))
          go_wp2
          have hlt4 : w.heap.size ≤ X.drew.heap.size := Nat.le_of_lt HRx.out.lt
          have hbw : Below w.heap.size w w5 := (HBx.out.drew.trans (hb4.mono hlt4)).trans (hb5.mono (Nat.le_trans hlt4 hb4.size))
          refine bodyPost_ret (v := .tuple #[req6 1 1 (s + 1 + (l : Int) - 1) t5 a' (m - l) c' s, .bool true]) (by simp [results, Try.results26, go_sem, req6, k0, k1, k2, k3, k4, k5]) rfl ⟨⟨_, _, _, _, _, _, _, _, rfl⟩, ?_⟩
          exact (((((hbw.setCell (Nat.le_refl _) _).setCell (Nat.le_refl _) _).setCell (Nat.le_refl _) _).setCell (Nat.le_refl _) _).setCell (Nat.le_refl _) _).setCell (Nat.le_refl _) _
        · go_wp2_with (first
            | (go_at_call 23; refine (last_calls g s (some ⟨lg, 0, none⟩) len len _ (by exact HC.out.c12) (by exact HC.out.c16) (by omega) (by omega)).mono ?_; rintro e w1 ⟨rfl, q, rfl⟩)
            | (go_at_call 38; refine (entry_calls g lg len s st zs _ _ (by exact HC.out.later (below_drewN (Below.refl _ _) _)) (by omega) (by omega) (by omega) (by omega)).mono ?_; rintro e w2 ⟨⟨t, rfl⟩, hb2⟩)
            | (go_at_call 39; refine (size_calls _ _).mono ?_; rintro e w3 ⟨rfl, rfl⟩))
          have hbx : Below W.heap.size W (w2.alloc (.cells #[.int .u64 t, .slice none 0 0, .int .u8 0, .pointer none] 61)) := (below_step HB.out hb2).alloc (Nat.le_trans HB.out.size hb2.size) _
          go_roundw
          case rel => exact ⟨m + 1, by omega, by omega, by go_num, by go_num, hbx⟩
          case measure => simp [intOf]; omega
      · have t2 : ¬ s + 1 + (l : Int) < s + 1 + m := by omega
        go_wp2_with (first
          | (go_at_call 23; refine (last_calls g s (some ⟨lg, 0, none⟩) len len _ (by exact HC.out.c12) (by exact HC.out.c16) (by omega) (by omega)).mono ?_; rintro e w1 ⟨rfl, q, rfl⟩)
          | (go_at_call 38; refine (entry_calls g lg len s st zs _ _ (by exact HC.out.later (below_drewN (Below.refl _ _) _)) (by omega) (by omega) (by omega) (by omega)).mono ?_; rintro e w2 ⟨⟨t, rfl⟩, hb2⟩)
          | (go_at_call 39; refine (size_calls _ _).mono ?_; rintro e w3 ⟨rfl, rfl⟩))
        have hbx : Below W.heap.size W (w2.alloc (.cells #[.int .u64 t, .slice none 0 0, .int .u8 0, .pointer none] 61)) := (below_step HB.out hb2).alloc (Nat.le_trans HB.out.size hb2.size) _
        go_roundw
        case rel => exact ⟨m + 1, by omega, by omega, by go_num, by go_num, hbx⟩
        case measure => simp [intOf]; omega
    · have t1 : ¬ s + 1 + (m : Int) ≤ s + len := by omega
      by_cases hne : len = l
      · obtain rfl : l = len := by omega
        obtain rfl : m = l := by omega
        clear hne
        go_wp2_with (first
          | (go_at_call 23; refine (last_calls g s (some ⟨lg, 0, none⟩) m m _ (by exact HC.out.c12) (by exact HC.out.c16) (by omega) (by omega)).mono ?_; rintro e w1 ⟨rfl, q, rfl⟩)
          | (go_at_call 38; refine (entry_calls g lg m s st zs _ _ (by exact HC.out.later (below_drewN (Below.refl _ _) _)) (by omega) (by omega) (by omega) (by omega)).mono ?_; rintro e w2 ⟨⟨t, rfl⟩, hb2⟩)
          | (go_at_call 39; refine (size_calls _ _).mono ?_; rintro e w3 ⟨rfl, rfl⟩))
        have hbx : Below W.heap.size W (wr.drewN q) := below_drewN HB.out q
        generalize wr.drewN q = X at *
        have HCx : Hid (Core X g lg m s st zs) := HC0.out.later hbx
        have HRx : Hid (Res X w.heap.size) := HR.out.later hbx
        have HBx : Hid (Below w.heap.size w X) := HB0.out.trans (hbx.mono (Nat.le_of_lt HR.out.lt))
        clear hbx
        have x12 := HCx.out.c12
        have x16 := HCx.out.c16
        have xlt := HCx.out.glt
        obtain ⟨news, hnl, hnc, hn1⟩ := news_of HCx.out.row 0 (0) (by omega)
        have HN : Hid (∀ j u, news[j]? = some u → X.cell? ⟨lg, 0 + j, none⟩ = some u) := hnc
        clear hnc
        go_region_held3 (fun w' => w'.cell? ⟨g, 12, none⟩ = some (.int .u64 s) ∧ w'.cell? ⟨g, 16, none⟩ = some (.slice (some ⟨lg, 0, none⟩) m m)) (simp [*, go_sem])
          (first
            | (go_at_call 22; refine (first_calls g s _ (by simp [*]) (by omega) (by omega)).mono ?_; rintro e w' ⟨rfl, rfl⟩)
            | (go_at_call 41; refine (cloneE_calls lg (0) 0 0 news _ hnl (by exact HN.out) hn1 (by omega)).mono ?_; rintro e w4 ⟨⟨a', c', rfl⟩, hb4⟩; have y12 := ((HCx.out.later (Below.refl _ _).drew).later hb4).c12; have y16 := ((HCx.out.later (Below.refl _ _).drew).later hb4).c16)
            | (go_at_call 40; refine (appendEntries_calls g lg m s st zs _ _ _ _ _ (by exact ((HCx.out.later (Below.refl _ _).drew).later hb4)) (by omega) (by omega) (by omega) (by omega)).mono ?_; rintro e w5 ⟨⟨t5, rfl⟩, hb5⟩; have v12 := (((HCx.out.later (Below.refl _ _).drew).later hb4).later hb5).c12; have v16 := (((HCx.out.later (Below.refl _ _).drew).later hb4).later hb5).c16; obtain ⟨r0, r1, r2, r3, r4, r5, k0, k1, k2, k3, k4, k5⟩ := (((HRx.out.later (Below.refl _ _).drew).later hb4).later hb5).cells; have ff := (((HRx.out.later (Below.refl _ _).drew).later hb4).later hb5).f))
        go_wp2
        have hlt4 : w.heap.size ≤ X.drew.heap.size := Nat.le_of_lt HRx.out.lt
        have hbw : Below w.heap.size w w5 := (HBx.out.drew.trans (hb4.mono hlt4)).trans (hb5.mono (Nat.le_trans hlt4 hb4.size))
        refine bodyPost_ret (v := .tuple #[req6 1 1 (s + 1 + (m : Int) - 1) t5 a' 0 c' s, .bool true]) (by simp [results, Try.results26, go_sem, req6, k0, k1, k2, k3, k4, k5]) rfl ⟨⟨_, _, _, _, _, _, _, _, rfl⟩, ?_⟩
        exact (((((hbw.setCell (Nat.le_refl _) _).setCell (Nat.le_refl _) _).setCell (Nat.le_refl _) _).setCell (Nat.le_refl _) _).setCell (Nat.le_refl _) _).setCell (Nat.le_refl _) _
      · go_wp2_with (first
          | (go_at_call 23; refine (last_calls g s (some ⟨lg, 0, none⟩) len len _ (by exact HC.out.c12) (by exact HC.out.c16) (by omega) (by omega)).mono ?_; rintro e w1 ⟨rfl, q, rfl⟩)
          | (go_at_call 38; refine (entry_calls g lg len s st zs _ _ (by exact HC.out.later (below_drewN (Below.refl _ _) _)) (by omega) (by omega) (by omega) (by omega)).mono ?_; rintro e w2 ⟨⟨t, rfl⟩, hb2⟩)
          | (go_at_call 39; refine (size_calls _ _).mono ?_; rintro e w3 ⟨rfl, rfl⟩))
        have hbx : Below W.heap.size W (wr.drewN q) := below_drewN HB.out q
        generalize wr.drewN q = X at *
        have HCx : Hid (Core X g lg len s st zs) := HC0.out.later hbx
        have HRx : Hid (Res X w.heap.size) := HR.out.later hbx
        have HBx : Hid (Below w.heap.size w X) := HB0.out.trans (hbx.mono (Nat.le_of_lt HR.out.lt))
        clear hbx
        have x12 := HCx.out.c12
        have x16 := HCx.out.c16
        have xlt := HCx.out.glt
        obtain ⟨news, hnl, hnc, hn1⟩ := news_of HCx.out.row (m - l) (l * 4) (by omega)
        have HN : Hid (∀ j u, news[j]? = some u → X.cell? ⟨lg, l * 4 + j, none⟩ = some u) := hnc
        clear hnc
        go_region_held3 (fun w' => w'.cell? ⟨g, 12, none⟩ = some (.int .u64 s) ∧ w'.cell? ⟨g, 16, none⟩ = some (.slice (some ⟨lg, 0, none⟩) len len)) (simp [*, go_sem])
          (first
            | (go_at_call 22; refine (first_calls g s _ (by simp [*]) (by omega) (by omega)).mono ?_; rintro e w' ⟨rfl, rfl⟩)
            | (go_at_call 41; refine (cloneE_calls lg (l * 4) (m - l) (len - l) news _ hnl (by exact HN.out) hn1 (by omega)).mono ?_; rintro e w4 ⟨⟨a', c', rfl⟩, hb4⟩; have y12 := ((HCx.out.later (Below.refl _ _).drew).later hb4).c12; have y16 := ((HCx.out.later (Below.refl _ _).drew).later hb4).c16)
            | (go_at_call 40; refine (appendEntries_calls g lg len s st zs _ _ _ _ _ (by exact ((HCx.out.later (Below.refl _ _).drew).later hb4)) (by omega) (by omega) (by omega) (by omega)).mono ?_; rintro e w5 ⟨⟨t5, rfl⟩, hb5⟩; have v12 := (((HCx.out.later (Below.refl _ _).drew).later hb4).later hb5).c12; have v16 := (((HCx.out.later (Below.refl _ _).drew).later hb4).later hb5).c16; obtain ⟨r0, r1, r2, r3, r4, r5, k0, k1, k2, k3, k4, k5⟩ := (((HRx.out.later (Below.refl _ _).drew).later hb4).later hb5).cells; have ff := (((HRx.out.later (Below.refl _ _).drew).later hb4).later hb5).f))
        go_wp2
        have hlt4 : w.heap.size ≤ X.drew.heap.size := Nat.le_of_lt HRx.out.lt
        have hbw : Below w.heap.size w w5 := (HBx.out.drew.trans (hb4.mono hlt4)).trans (hb5.mono (Nat.le_trans hlt4 hb4.size))
        refine bodyPost_ret (v := .tuple #[req6 1 1 (s + 1 + (l : Int) - 1) t5 a' (m - l) c' s, .bool true]) (by simp [results, Try.results26, go_sem, req6, k0, k1, k2, k3, k4, k5]) rfl ⟨⟨_, _, _, _, _, _, _, _, rfl⟩, ?_⟩
        exact (((((hbw.setCell (Nat.le_refl _) _).setCell (Nat.le_refl _) _).setCell (Nat.le_refl _) _).setCell (Nat.le_refl _) _).setCell (Nat.le_refl _) _).setCell (Nat.le_refl _) _
end Go.Proofs.Qxb6612844a
