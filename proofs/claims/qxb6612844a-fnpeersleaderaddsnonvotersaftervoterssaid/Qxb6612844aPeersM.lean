/-
  zzTailIsNonVoters.
-/
import Derived.Test.Qxb6612844aPeersL
namespace Go.Proofs.Qxb6612844a
open Go.RowKit

/-- The target members that are not among Members and are not self. -/
def tailM (self : Int) (Lm Lt : List Int) (At : List ByteArray) : List M := (mkM Lt At).filter (fun x => notSelfNotIn self Lm x.1)

theorem filter_at (p : M → Bool) : ∀ (l : List M) (j : Nat), j < l.length → p l[j]! = true → ((l.take j).filter p).length < (l.filter p).length ∧ (l.filter p)[((l.take j).filter p).length]! = l[j]!
  | [], j, h, _ => absurd h (Nat.not_lt_zero _)
  | x :: r, 0, _, hp => by
    have hp' : p x = true := hp
    simp [hp']
  | x :: r, j + 1, h, hp => by
    have ih := filter_at p r j (by simpa using h) (by simpa using hp)
    have e : (x :: r)[j + 1]! = r[j]! := by simp
    rw [e]
    cases hx : p x with
    | true =>
      have e1 : (x :: r).filter p = x :: r.filter p := by simp [hx]
      have e2 : ((x :: r).take (j + 1)).filter p = x :: (r.take j).filter p := by simp [hx]
      rw [e1, e2]
      refine ⟨by simpa using ih.1, ?_⟩
      have : (x :: r.filter p)[(x :: (r.take j).filter p).length]! = (r.filter p)[((r.take j).filter p).length]! := by simp
      rw [this]; exact ih.2
    | false =>
      have e1 : (x :: r).filter p = r.filter p := by simp [hx]
      have e2 : ((x :: r).take (j + 1)).filter p = (r.take j).filter p := by simp [hx]
      rw [e1, e2]; exact ih

theorem filter_take_len (q : Int → Bool) : ∀ (L : List Int) (A : List ByteArray) (k : Nat), L.length = A.length → (((mkM L A).take k).filter (fun x => q x.1)).length = cnt q L k
  | [], _, k, _ => by simp [mkM, cnt]
  | x :: r, [], k, h => by simp at h
  | x :: r, y :: s, 0, _ => by simp [cnt]
  | x :: r, y :: s, k + 1, h => by
    have ih := filter_take_len q r s k (by simpa using h)
    unfold cnt at ih ⊢
    have e : mkM (x :: r) (y :: s) = (x, y) :: mkM r s := rfl
    rw [e, List.take_succ_cons, List.take_succ_cons]
    cases hx : q x with
    | true => simp [hx]; exact ih
    | false => simp [hx]; exact ih

theorem tail_len {self : Int} {Lm Lt : List Int} {At : List ByteArray} (h : Lt.length = At.length) : (tailM self Lm Lt At).length = cnt (notSelfNotIn self Lm) Lt Lt.length := by
  rw [← filter_take_len _ Lt At Lt.length h]
  unfold tailM
  rw [List.take_of_length_le (by rw [mkM_len h]; exact Nat.le_refl _)]

theorem tail_at {self : Int} {Lm Lt : List Int} {At : List ByteArray} {G : List M} {k j : Nat} (h : Lt.length = At.length) (hG : G.drop k = tailM self Lm Lt At) (hj : j < Lt.length) (hp : notSelfNotIn self Lm Lt[j]! = true) :
    k + cnt (notSelfNotIn self Lm) Lt j < G.length ∧ G[k + cnt (notSelfNotIn self Lm) Lt j]! = (Lt[j]!, At[j]!) := by
  have hjm : j < (mkM Lt At).length := by rw [mkM_len h]; exact hj
  have hf := filter_at (fun x : M => notSelfNotIn self Lm x.1) (mkM Lt At) j hjm (by rw [mkM_get h j hj]; exact hp)
  rw [filter_take_len _ Lt At j h, mkM_get h j hj] at hf
  obtain ⟨f1, f2⟩ := hf
  have f1' : cnt (notSelfNotIn self Lm) Lt j < (G.drop k).length := by rw [hG]; exact f1
  have hlt : k + cnt (notSelfNotIn self Lm) Lt j < G.length := by simp at f1'; omega
  refine ⟨hlt, ?_⟩
  have f2' : (G.drop k)[cnt (notSelfNotIn self Lm) Lt j]! = (Lt[j]!, At[j]!) := by rw [hG]; exact f2
  rw [getElem!_pos (G.drop k) _ f1'] at f2'
  rw [getElem!_pos G _ hlt]
  simpa using f2'

set_option maxHeartbeats 1600000 in
theorem tail_lead (self : Int) (ag a1 a2 a3 : Option Addr) (cg c1 c2 c3 k : Nat) (G : List M) (Lm Lt : List Int) (At : List ByteArray) (w : World) (hg : In w ag cg G) (s1 : SrcI w a1 Lm) (s2 : SrcI w a2 Lt) (s3 : SrcS w a3 At) (hl : Lt.length = At.length)
    (l1 : Lm.length ≤ 1024) (l2 : Lt.length ≤ 1024) (lG : G.length ≤ 65536) (hkG : k ≤ G.length) (hG : G.drop k = tailM self Lm Lt At) :
    Calls Try.prog 17 #[.slice ag G.length cg, .int .i64 k, .int .u64 self, .slice a1 Lm.length c1, .slice a2 Lt.length c2, .slice a3 At.length c3, .bool true] w fun e w' => e = .returned (.bool true) ∧ w.grownBy w' none := by
  have HI0 : Hid (∀ W, w.grownBy W none → ∀ x, inL Lm x = false → _) := fun W hW x hx => indexOf_miss a1 c1 Lm x W (s1.later (grown_below hW)) (by omega) (inL_false hx)
  have HI1 : Hid (∀ W, w.grownBy W none → ∀ x m, m < Lm.length → Lm[m]! = x → (∀ j, j < m → Lm[j]! ≠ x) → _) := fun W hW x m h1 h2 h3 => indexOf_hit a1 c1 Lm x m W (s1.later (grown_below hW)) (by omega) h1 h2 h3
  have HG : Hid (In w ag cg G) := hg
  have HS2 : Hid (SrcI w a2 Lt) := s2
  have HS3 : Hid (SrcS w a3 At) := s3
  have HT : Hid (∀ j, j < Lt.length → notSelfNotIn self Lm Lt[j]! = true → _) := fun j h1 h2 => tail_at hl hG h1 h2
  have HE : Hid (k + cnt (notSelfNotIn self Lm) Lt Lt.length = G.length) := by
    have h1 := tail_len (self := self) (Lm := Lm) hl
    rw [← hG] at h1
    show _ = _
    rw [← h1]; simp; omega
  have HA : Hid (Lt.length = At.length) := hl
  rw [← hl]
  obtain ⟨n1, h1⟩ : ∃ n, n = Lm.length := ⟨_, rfl⟩
  obtain ⟨n2, h2⟩ : ∃ n, n = Lt.length := ⟨_, rfl⟩
  obtain ⟨ng, h3⟩ : ∃ n, n = G.length := ⟨_, rfl⟩
  have HN1 : Hid (n1 = Lm.length) := h1
  have HN2 : Hid (n2 = Lt.length) := h2
  have HNG : Hid (ng = G.length) := h3
  rw [← h1] at l1 HI0 HI1 ⊢
  rw [← h2] at l2 ⊢
  rw [← h3] at lG hkG ⊢
  clear s1 s2 s3 hg h1 h2 h3 hl hG
  go_enter Try.func17, Try.ntmps17
  go_wp2
  go_loopw [15, 16, 17] (fun s15 s16 _ wr => ∃ (j p : Nat), j ≤ n2 ∧ p ≤ k + j ∧ s16 = .int .i64 j ∧ s15 = .int .i64 p ∧ Hid (p = k + cnt (notSelfNotIn self Lm) Lt j) ∧ Hid (w.grownBy wr none)) (fun _ s16 _ _ => n2 - (intOf s16).toNat)
  case atStart => exact ⟨0, k, Nat.zero_le _, by omega, rfl, rfl, rfl, World.grownBy.refl _ _⟩
  case round =>
    obtain ⟨j, p, hj, hpj, rfl, rfl, hp, hgr⟩ := hrel
    by_cases hlt : j < n2
    · have hjl : j < Lt.length := by have := HN2.out; omega
      have hja : j < At.length := by have := HA.out; omega
      have HTj : Hid _ := HT.out j hjl
      rcases HS2.out with h | ⟨b, off, rfl, hbw, hc⟩
      · rw [h] at hjl; simp at hjl
      · rcases HS3.out with h | ⟨b3, off3, rfl, hbw3, hc3⟩
        · rw [h] at hja; simp at hja
        · have hck := hgr.out.cell (hc j hjl) (by simp)
          have hck3 := hgr.out.cell (hc3 j hja) (by simp)
          have HC : Hid (cnt (notSelfNotIn self Lm) Lt (j + 1) = cnt (notSelfNotIn self Lm) Lt j + (if notSelfNotIn self Lm Lt[j]! then 1 else 0)) := cnt_succ _ _ _ hjl
          clear hc hc3 hjl hja
          generalize Lt[j]! = x at hck HC HTj
          generalize At[j]! = y at hck3 HTj
          by_cases hx : x = self
          · subst hx
            have R : Hid (p = k + cnt (notSelfNotIn x Lm) Lt (j + 1)) := by show p = _; rw [HC.out, hp.out]; simp [notSelfNotIn]
            clear HC HTj
            go_wp2
            go_roundw
            case rel => exact ⟨j + 1, p, by omega, by omega, by go_num, rfl, R, hgr⟩
            case measure => simp [intOf]; omega
          · have hx2 : (x == self) = false := beq_eq_false_iff_ne.2 hx
            cases hin : inL Lm x with
            | true =>
              have R : Hid (p = k + cnt (notSelfNotIn self Lm) Lt (j + 1)) := by show p = _; rw [HC.out, hp.out]; simp [notSelfNotIn, hin]
              obtain ⟨f, g1, g2, g3⟩ := inL_true hin
              have hcall := HI1.out wr hgr.out x f (by have := HN1.out; omega) g2 g3
              clear HC g1 g2 g3 HTj
              go_wp2_with (go_at_call 16; refine hcall.mono ?_; rintro e w' ⟨rfl, rfl⟩)
              go_roundw
              case rel => exact ⟨j + 1, p, by omega, by omega, by go_num, rfl, R, hgr⟩
              case measure => simp [intOf]; omega
            | false =>
              have R : Hid (p + 1 = k + cnt (notSelfNotIn self Lm) Lt (j + 1)) := by show p + 1 = _; rw [HC.out, hp.out]; simp [notSelfNotIn, hin, hx]; omega
              have hcall := HI0.out wr hgr.out x hin
              obtain ⟨t1, t2⟩ := HTj.out (by simp [notSelfNotIn, hin, hx])
              rw [← hp.out] at t1 t2
              have t1' : p < ng := by have := HNG.out; omega
              rcases HG.out with ⟨-, -, h⟩ | ⟨gg, rfl, hrd⟩
              · rw [h] at t1; simp at t1
              · obtain ⟨q0, q1⟩ := (hrd.keep hgr.out (by simp)).2 p t1
                rw [t2] at q0 q1
                simp only at q0 q1
                clear HC HTj t1 t2 hrd
                have y0 : (0 : Int) ≤ (p : Int) := by omega
                have y1 : (p : Int) < (ng : Int) := by omega
                have y2 : decide ((ng : Int) ≤ (p : Int)) = false := decide_eq_false (by omega)
                have y3 : (0 : Int) ≤ (j : Int) := by omega
                have y4 : (j : Int) < (n2 : Int) := by omega
                go_wp2_with (go_at_call 16; refine hcall.mono ?_; rintro e w' ⟨rfl, rfl⟩)
                go_quiet (fail)
                go_wp2
                go_roundw
                case rel => exact ⟨j + 1, p + 1, by omega, by omega, by go_num, by go_num, R, hgr.out.trans (grown_drewN _ _)⟩
                case measure => simp [intOf]; omega
    · have hjn : j = n2 := by omega
      subst hjn
      have hltz : ¬ (j : Int) < (j : Int) := by omega
      have hpg : p = ng := by
        have h1 := HE.out
        rw [← HN2.out, ← HNG.out, ← hp.out] at h1
        exact h1
      subst hpg
      go_wp2
      go_ret
      exact ⟨rfl, hgr.out⟩

theorem tail_not (self : Int) (ag a1 a2 a3 : Option Addr) (cg c1 c2 c3 k n1 n2 n3 : Nat) (w : World) :
    Calls Try.prog 17 #[.slice ag k cg, .int .i64 k, .int .u64 self, .slice a1 n1 c1, .slice a2 n2 c2, .slice a3 n3 c3, .bool false] w fun e w' => e = .returned (.bool true) ∧ w = w' := by
  go_enter Try.func17, Try.ntmps17
  go_wp2
  go_ret
  exact ⟨rfl, rfl⟩

theorem tail_calls (self : Int) (ld : Bool) (ag a1 a2 a3 : Option Addr) (cg c1 c2 c3 k : Nat) (G : List M) (Lm Lt : List Int) (At : List ByteArray) (w : World) (hg : In w ag cg G) (s1 : SrcI w a1 Lm) (s2 : SrcI w a2 Lt) (s3 : SrcS w a3 At) (hl : Lt.length = At.length)
    (l1 : Lm.length ≤ 1024) (l2 : Lt.length ≤ 1024) (lG : G.length ≤ 65536) (hkG : k ≤ G.length) (hG : G.drop k = if ld = true then tailM self Lm Lt At else []) :
    Calls Try.prog 17 #[.slice ag G.length cg, .int .i64 k, .int .u64 self, .slice a1 Lm.length c1, .slice a2 Lt.length c2, .slice a3 At.length c3, .bool ld] w fun e w' => e = .returned (.bool true) ∧ w.grownBy w' none := by
  cases ld with
  | true => exact tail_lead self ag a1 a2 a3 cg c1 c2 c3 k G Lm Lt At w hg s1 s2 s3 hl l1 l2 lG hkG (by simpa using hG)
  | false =>
    have h0 : (G.drop k).length = 0 := by rw [hG]; rfl
    have hk : k = G.length := by simp at h0; omega
    rw [← hk]
    exact (tail_not self ag a1 a2 a3 cg c1 c2 c3 k _ _ _ w).mono fun e w' ⟨h1, h2⟩ => by subst h2; exact ⟨h1, World.grownBy.refl _ _⟩
end Go.Proofs.Qxb6612844a
