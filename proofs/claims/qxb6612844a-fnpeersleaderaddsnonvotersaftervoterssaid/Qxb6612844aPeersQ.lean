/-
  The walk of FnPeersExact (3).
-/
import Derived.Test.Qxb6612844aPeersP
import Derived.Test.Qxb6612844aPeersN
namespace Go.Proofs.Qxb6612844a
open Go.RowKit

/-- The six slices that a Peers law is handed. -/
structure Six (w : World) (a1 a2 a3 a4 a5 a6 : Option Addr) (c1 c3 c5 : Nat) (L1 L2 L3 : List Int) (A1 A2 A3 : List ByteArray) : Prop where
  s1 : SrcI w a1 L1
  s2 : SrcS w a2 A1
  s3 : SrcI w a3 L2
  s4 : SrcS w a4 A2
  s5 : SrcI w a5 L3
  s6 : SrcS w a6 A3
  n1 : a1 = none → L1 = [] ∧ c1 = 0
  n3 : a3 = none → L2 = [] ∧ c3 = 0
  n5 : a5 = none → L3 = [] ∧ c5 = 0
  m1 : L1.length ≤ maxLen
  m2 : A1.length ≤ maxLen
  m3 : L2.length ≤ maxLen
  m4 : A2.length ≤ maxLen
  m5 : L3.length ≤ maxLen
  m6 : A3.length ≤ maxLen

theorem Six.later {w w' : World} {a1 a2 a3 a4 a5 a6 : Option Addr} {c1 c3 c5 : Nat} {L1 L2 L3 : List Int} {A1 A2 A3 : List ByteArray} (h : Six w a1 a2 a3 a4 a5 a6 c1 c3 c5 L1 L2 L3 A1 A2 A3) (hg : w.grownBy w' none) : Six w' a1 a2 a3 a4 a5 a6 c1 c3 c5 L1 L2 L3 A1 A2 A3 :=
  have hb := grown_below hg
  ⟨h.s1.later hb, h.s2.later hb, h.s3.later hb, h.s4.later hb, h.s5.later hb, h.s6.later hb, h.n1, h.n3, h.n5, h.m1, h.m2, h.m3, h.m4, h.m5, h.m6⟩

theorem wp_world {P : Program} {c : Code} {Q : Exit → Act → World → Prop} {a : Act} {W : World} (R : World → Prop) (h : R W) (k : ∀ W', R W' → Code.wp P c Q a W') : Code.wp P c Q a W := k W h

theorem hidI {p : Prop} (h : p) : Hid p := h

/-- What is known of Peers' answer G. -/
structure GoodG (self : Int) (ld : Bool) (L1 L2 L3 : List Int) (A1 A2 A3 : List ByteArray) (k : Nat) (G : List M) : Prop where
  front : Front self L1 L2 A1 A2 k G
  tail : G.drop k = if ld = true then tailM self L1 L3 A3 else []
  len : G.length ≤ 65536

theorem goodG_of {self role : Int} {at' : Option Addr} {L1 L2 L3 : List Int} {A1 A2 A3 : List ByteArray} {S : List M} (f1 : L1.length = A1.length) (f2 : L2.length = A2.length) (f3 : L3.length = A3.length) (d1 : Nod L1) (d2 : Nod L2) (l1 : L1.length ≤ 1024) (l3 : L2.length ≤ 1024) (l5 : L3.length ≤ 1024)
    (hp : S.Perm (votes (mkM L1 A1) (mkM L2 A2) (mkM L2 A2).length)) (hs : S.Pairwise (fun x y => x.1 ≤ y.1)) :
    GoodG self ((role == 2) && at'.isSome) L1 L2 L3 A1 A2 A3 (vcount self L1 L2) (peersOf self role at' (mkM L3 A3) (mkM L1 A1) S) := by
  have hlen : S.length ≤ 2048 := by
    have h1 := hp.length_eq
    have h2 := votes_len (mkM L1 A1) (mkM L2 A2) (mkM L2 A2).length
    rw [mkM_len f1, mkM_len f2] at h2
    rw [mkM_len f2] at h1
    omega
  rw [votes_all f1 f2 d2] at hp
  have hf := front_of (self := self) (R := (nonv role at' (mkM L3 A3) (mkM L1 A1)).filter (fun x => !(x.1 == self))) f1 f2 d1 d2 hp hs
  rw [← peers_split] at hf
  refine ⟨hf.1, by rw [hf.2.1, nonv_tail f1], ?_⟩
  unfold peersOf
  have h3 := List.length_filter_le (fun x : M => !(x.1 == self)) (S ++ nonv role at' (mkM L3 A3) (mkM L1 A1))
  have h4 := nonv_len role at' (mkM L3 A3) (mkM L1 A1)
  rw [mkM_len f3] at h4
  rw [List.length_append] at h3
  omega

/-- Peers, as the laws use it. -/
theorem peersG (self role : Int) (a5 am ao at' : Option Addr) (n1 n3 n5 cm co ct : Nat) (L1 L2 L3 : List Int) (A1 A2 A3 : List ByteArray) (e1 : n1 = L1.length) (e3 : n3 = L2.length) (e5 : n5 = L3.length) (f1 : L1.length = A1.length) (f2 : L2.length = A2.length) (f3 : L3.length = A3.length) (d1 : Nod L1) (d2 : Nod L2) (l1 : L1.length ≤ 1024) (l3 : L2.length ≤ 1024) (l5 : L3.length ≤ 1024)
    (W : World) (hi : at'.isSome = a5.isSome) (im : In W am cm (mkM L1 A1)) (io : In W ao co (mkM L2 A2)) (it : In W at' ct (mkM L3 A3)) :
    Calls Try.prog 14 #[.pointer (some ⟨W.heap.size, 0, none⟩)] (W.alloc (.cells (peerCells self role (.slice am n1 cm) (.slice ao n3 co) (.slice at' n5 ct)) 74)) fun e w' =>
      ∃ a' c' G, e = .returned (.slice a' G.length c') ∧ In w' a' c' G ∧ GoodG self ((role == 2) && a5.isSome) L1 L2 L3 A1 A2 A3 (vcount self L1 L2) G ∧ (W.alloc (.cells (peerCells self role (.slice am n1 cm) (.slice ao n3 co) (.slice at' n5 ct)) 74)).grownBy w' none := by
  have hP := pc_made (id := self) (role := role) im io it (by rw [mkM_len f1]; exact l1) (by rw [mkM_len f2]; exact l3) (by rw [mkM_len f3]; exact l5)
  rw [mkM_len f1, mkM_len f2, mkM_len f3, ← e1, ← e3, ← e5] at hP
  refine (peers_calls _ _ _ _ _ _ _ _ _ _ _ _ _ hP).mono fun e w' ⟨a', c', S, h1, h2, h3, h4, h5⟩ => ?_
  refine ⟨a', c', _, h1, h4.read, ?_, h5⟩
  have hg := goodG_of (self := self) (role := role) (at' := at') (A3 := A3) f1 f2 f3 d1 d2 l1 l3 l5 h2 h3
  rw [hi] at hg
  exact hg

theorem members12 (a1 a2 : Option Addr) (c1 c2 n1 n2 : Nat) (L1 : List Int) (A1 : List ByteArray) (w : World) (e1 : n1 = L1.length) (e2 : n2 = A1.length) (f1 : L1.length = A1.length) (l1 : L1.length ≤ 1024) (s1 : SrcI w a1 L1) (s2 : SrcS w a2 A1) (hn : a1 = none → L1 = [] ∧ c1 = 0) (W : World) (hW : w.grownBy W none) :
    Calls Try.prog 12 #[.slice a1 n1 c1, .slice a2 n2 c2] W fun e w' => ∃ a' c', e = .returned (.slice a' n1 c') ∧ (a'.isSome = a1.isSome) ∧ In w' a' c' (mkM L1 A1) ∧ W.grownBy w' none := by
  have h := members_calls a1 a2 c1 c2 L1 A1 W (s1.later (grown_below hW)) hn (s2.later (grown_below hW)) f1 l1
  rw [mkM_len f1, ← e1, ← e2] at h
  exact h

set_option maxRecDepth 20000 in
set_option maxHeartbeats 6400000 in
theorem law3_core (self role : Int) (a1 a2 a3 a4 a5 a6 : Option Addr) (c1 c2 c3 c4 c5 c6 : Nat) (L1 L2 L3 : List Int) (A1 A2 A3 : List ByteArray) (w : World) (hX : Six w a1 a2 a3 a4 a5 a6 c1 c3 c5 L1 L2 L3 A1 A2 A3)
    (l1 : L1.length ≤ 1024) (l2 : A1.length ≤ 1024) (l3 : L2.length ≤ 1024) (l4 : A2.length ≤ 1024) (l5 : L3.length ≤ 1024) (l6 : A3.length ≤ 1024) :
    Calls Try.prog 3 #[.int .u64 self, .int .i64 role, .slice a1 L1.length c1, .slice a2 A1.length c2, .slice a3 L2.length c3, .slice a4 A2.length c4, .slice a5 L3.length c5, .slice a6 A3.length c6] w fun e w' => e = .returned (.bool true) ∧ w.grownBy w' none := by
  have HX : Hid (Six w a1 a2 a3 a4 a5 a6 c1 c3 c5 L1 L2 L3 A1 A2 A3) := hX
  have H9 := hidI (bytes9 self role a1 a2 a3 a4 a5 a6 c1 c2 c3 c4 c5 c6 L1.length L2.length L3.length A1 A2 A3 w hX.s2 hX.s4 hX.s6 hX.m1 hX.m3 hX.m5 hX.m2 hX.m4 hX.m6)
  have H10 := hidI (peersBytes_calls a1 a2 a3 a4 a5 a6 c1 c2 c3 c4 c5 c6 L1.length L2.length L3.length A1 A2 A3 w hX.s2 hX.s4 hX.s6 (by omega) (by omega) (by omega) (by omega) (by omega) (by omega))
  have H11 := hidI (premise_calls a1 a2 a3 a4 a5 a6 c1 c2 c3 c4 c5 c6 A1.length A2.length A3.length L1 L2 L3 w hX.s1 hX.s3 hX.s5 (by omega) (by omega) (by omega))
  obtain ⟨n1, e1⟩ : ∃ n, n = L1.length := ⟨_, rfl⟩
  obtain ⟨n2, e2⟩ : ∃ n, n = A1.length := ⟨_, rfl⟩
  obtain ⟨n3, e3⟩ : ∃ n, n = L2.length := ⟨_, rfl⟩
  obtain ⟨n4, e4⟩ : ∃ n, n = A2.length := ⟨_, rfl⟩
  obtain ⟨n5, e5⟩ : ∃ n, n = L3.length := ⟨_, rfl⟩
  obtain ⟨n6, e6⟩ : ∃ n, n = A3.length := ⟨_, rfl⟩
  have E : Hid (n1 = L1.length ∧ n2 = A1.length ∧ n3 = L2.length ∧ n4 = A2.length ∧ n5 = L3.length ∧ n6 = A3.length) := ⟨e1, e2, e3, e4, e5, e6⟩
  rw [← e1] at l1; rw [← e2] at l2; rw [← e3] at l3; rw [← e4] at l4; rw [← e5] at l5; rw [← e6] at l6
  rw [← e1, ← e2, ← e3, ← e4, ← e5, ← e6] at H9 H10 H11 ⊢
  clear hX e1 e2 e3 e4 e5 e6
  go_enter Try.func3, Try.ntmps3
  go_wp2_with fail
  refine H9.out.mono ?_
  rintro e w' ⟨⟨r9, rfl, -⟩, rfl⟩
  cases r9 with
  | false =>
    go_wp2_with fail
    go_ret
    exact ⟨rfl, World.grownBy.refl _ _⟩
  | true =>
    go_wp2_with fail
    refine H10.out.mono ?_
    rintro e w' ⟨⟨r10, rfl⟩, rfl⟩
    by_cases hbig : 1048576 < r10
    · go_wp2_with fail
      go_ret
      exact ⟨rfl, World.grownBy.refl _ _⟩
    · go_wp2_with fail
      refine H11.out.mono ?_
      rintro e w1 ⟨⟨r11, rfl, hprem⟩, g1⟩
      cases r11 with
      | false =>
        go_wp2_with fail
        go_ret
        exact ⟨rfl, g1⟩
      | true =>
        obtain ⟨⟨f1, f2, f3⟩, d1, d2, -⟩ := hprem rfl
        clear hprem H9 H10 H11
        subst f1; subst f2; subst f3
        obtain ⟨e1, e2, e3, e4, e5, e6⟩ := E.out
        have k1 : L1.length = A1.length := by omega
        have k2 : L2.length = A2.length := by omega
        have k3 : L3.length = A3.length := by omega
        have HM1 := hidI (members12 a1 a2 c1 c2 n1 n1 L1 A1 w e1 e2 k1 (by omega) HX.out.s1 HX.out.s2 HX.out.n1)
        have HM2 := hidI (members12 a3 a4 c3 c4 n3 n3 L2 A2 w e3 e4 k2 (by omega) HX.out.s3 HX.out.s4 HX.out.n3)
        have HM3 := hidI (members12 a5 a6 c5 c6 n5 n5 L3 A3 w e5 e6 k3 (by omega) HX.out.s5 HX.out.s6 HX.out.n5)
        have HPG := hidI (fun am ao at' cm co ct W => peersG self role a5 am ao at' n1 n3 n5 cm co ct L1 L2 L3 A1 A2 A3 e1 e3 e5 k1 k2 k3 d1 d2 (by omega) (by omega) (by omega) W)
        have HVC := hidI (fun (W : World) (hW : w.grownBy W none) => voterCount_calls self a1 a3 c1 c3 L1 L2 W (HX.out.later hW).s1 (HX.out.later hW).s3 (by omega) (by omega))
        have HK : Hid (L1.length = A1.length ∧ L2.length = A2.length ∧ L3.length = A3.length) := ⟨k1, k2, k3⟩
        rw [← e1, ← e3] at HVC
        generalize vcount self L1 L2 = kk at HPG HVC
        clear e1 e2 e3 e4 e5 e6 k1 k2 k3 d1 d2
        go_wp2_with fail
        refine (HM1.out w1 g1).mono ?_
        rintro e w2 ⟨am, cm, rfl, -, im, g2⟩
        have HI2 : Hid (In w2 am cm (mkM L1 A1)) := im
        have HG2 : Hid (w.grownBy w2 none) := g1.trans g2
        clear im g1 g2
        go_wp2_with fail
        refine (HM2.out w2 HG2.out).mono ?_
        rintro e w3 ⟨ao, co, rfl, -, io, g3⟩
        have HI3 : Hid (In w3 am cm (mkM L1 A1) ∧ In w3 ao co (mkM L2 A2)) := ⟨HI2.out.keep g3, io⟩
        have HG3 : Hid (w.grownBy w3 none) := HG2.out.trans g3
        clear io g3 HI2 HG2
        go_wp2_with fail
        refine (HM3.out w3 HG3.out).mono ?_
        rintro e w4 ⟨at', ct, rfl, hat, it, g4⟩
        have HI4 : Hid (In w4 am cm (mkM L1 A1) ∧ In w4 ao co (mkM L2 A2) ∧ In w4 at' ct (mkM L3 A3) ∧ at'.isSome = a5.isSome) := ⟨HI3.out.1.keep g4, HI3.out.2.keep g4, it, hat⟩
        have HG4 : Hid (w.grownBy w4 none) := HG3.out.trans g4
        clear it g4 hat HI3 HG3
        go_wp2_with fail
        refine (newPeers_calls _ _ _ _ _ _ _ _ _ _ _ _).mono ?_
        rintro e w5 ⟨rfl, rfl⟩
        go_wp2_with fail
        refine (HPG.out am ao at' cm co ct w4 HI4.out.2.2.2 HI4.out.1 HI4.out.2.1 HI4.out.2.2.1).mono ?_
        rintro e w6 ⟨ag, cg, G, rfl, hin, hgood, g6⟩
        have HIG : Hid (In w6 ag cg G) := hin
        have HGG : Hid (GoodG self ((role == 2) && a5.isSome) L1 L2 L3 A1 A2 A3 kk G) := hgood
        have HG6 : Hid (w.grownBy w6 none) := (HG4.out.trans (World.grownBy_alloc w4 _ none)).trans g6
        clear hin g6 HI4 HG4
        obtain ⟨ng, hng⟩ : ∃ n, n = G.length := ⟨_, rfl⟩
        have HNG : Hid (ng = G.length) := hng
        rw [← hng]
        obtain ⟨hfr, htl, hln⟩ := hgood
        have hkg : kk ≤ ng := by obtain ⟨h, -, -, -⟩ := hfr; omega
        have hnb : ng ≤ 65536 := by omega
        have HFR : Hid (Front self L1 L2 A1 A2 kk G) := hfr
        clear hng hfr htl hln
        obtain ⟨e1, -, e3, -, -, -⟩ := E.out
        have HI0 : Hid (∀ W, w.grownBy W none → ∀ x, inL L1 x = false → _) := fun W hW x hx => indexOf_miss a1 c1 L1 x W (HX.out.later hW).s1 (by omega) (inL_false hx)
        have HI1 : Hid (∀ W, w.grownBy W none → ∀ x m, m < L1.length → L1[m]! = x → (∀ j, j < m → L1[j]! ≠ x) → _) := fun W hW x m h1 h2 h3 => indexOf_hit a1 c1 L1 x m W (HX.out.later hW).s1 (by omega) h1 h2 h3
        have HI2 : Hid (∀ W, w.grownBy W none → ∀ x m, m < L2.length → L2[m]! = x → (∀ j, j < m → L2[j]! ≠ x) → _) := fun W hW x m h1 h2 h3 => indexOf_hit a3 c3 L2 x m W (HX.out.later hW).s3 (by omega) h1 h2 h3
        rw [← e1] at HI0 HI1
        rw [← e3] at HI2
        clear e1 e3
        go_wp2_with fail
        refine (HVC.out w6 HG6.out).mono ?_
        rintro e w' ⟨rfl, rfl⟩
        have hkz : ¬ (ng : Int) < (kk : Int) := by omega
        go_wp2_with fail
        clear HM1 HM2 HM3 HPG HVC
        have hkd : decide (ng < kk) = false := decide_eq_false (by omega)
        rw [hkd]
        clear hkd hkz
        go_loopw [23, 24, 25] (fun s23 _ _ wr => ∃ (i : Nat), i ≤ kk ∧ s23 = .int .i64 i ∧ Hid (w6.grownBy wr none)) (fun s23 _ _ _ => kk - (intOf s23).toNat)
        case atStart => exact ⟨0, Nat.zero_le _, rfl, World.grownBy.refl _ _⟩
        case round =>
          obtain ⟨i, hik, rfl, hgr⟩ := hrel
          by_cases hlt : i < kk
          · have hig : i < G.length := by have := HNG.out; omega
            rcases HIG.out with ⟨-, -, h⟩ | ⟨gg, rfl, hrd⟩
            · rw [h] at hig; simp at hig
            · obtain ⟨q0, q1⟩ := (hrd.keep hgr.out (by simp)).2 i hig
              obtain ⟨-, hns, hup, hcf⟩ := HFR.out
              have HCF : Hid (FromConf L1 L2 A1 A2 G[i]!) := hcf i hlt
              have hne : (G[i]!.1 == self) = false := beq_eq_false_iff_ne.2 (hns i hlt)
              have y0 : (0 : Int) ≤ (i : Int) := by omega
              have y1 : (i : Int) < (ng : Int) := by omega
              have HW : Hid (w.grownBy wr none) := HG6.out.trans hgr.out
              by_cases hi0 : i = 0
              · subst hi0
                clear hcf hns hup hrd hig
                generalize G[0]! = x at q0 q1 HCF hne
                have z9 : decide ((0 : Int) < ((0 : Nat) : Int)) = false := rfl
                go_wp2_with fail
                refine wp_world (fun W => wr.grownBy W none ∧ W.cell? ⟨wr.heap.size, 0, none⟩ = some (.int .u64 x.1) ∧ W.cell? ⟨wr.heap.size, 1, none⟩ = some (.string x.2)) ⟨World.grownBy_alloc wr _ none, World.cell?_alloc_new _ _ _ _, World.cell?_alloc_new _ _ _ _⟩ ?_
                rintro W5 ⟨hW5, m0, m1⟩
                generalize wr.heap.size = mb at m0 m1
                have HR5 : Hid (w6.grownBy W5 none) := hgr.out.trans hW5
                have HW5 : ∀ {n : Nat}, Hid (w.grownBy (W5.drewN n) none) := HG6.out.trans (HR5.out.trans (grown_drewN _ _))
                clear hW5 HW hgr q0 q1
                go_quiet (fail)
                go_wp2_with fail
                rcases HCF.out with ⟨j, hj, e1, e2, e3⟩ | ⟨hin, j, hj, e1, e2, e3⟩
                · have hcall := HI1.out (W5.drewN nq) HW5.out x.1 j (by have := E.out.1; omega) e1 e2
                  have hj1 : j < n1 := by have := E.out.1; omega
                  have hja : j < A1.length := by have := E.out.2.1; omega
                  rcases HX.out.s2 with h | ⟨b, off, rfl, hbw, hc⟩
                  · rw [h] at hja; simp at hja
                  · have hcj := (HG6.out.trans HR5.out).cell (hc j hja) (by simp)
                    rw [e3] at hcj
                    have z0 : (0 : Int) ≤ (j : Int) := by omega
                    have z1 : (j : Int) < (n1 : Int) := by omega
                    clear hc e1 e2 e3 hj hja HCF
                    go_wp2_with fail
                    refine hcall.mono ?_
                    rintro e w' ⟨rfl, rfl⟩
                    go_wp2_with fail
                    go_quiet (fail)
                    go_wp2_with fail
                    go_roundw
                    case rel => exact ⟨_, Nat.succ_le_of_lt hlt, by go_num, HR5.out.trans (grown_drewN _ _)⟩
                    case measure => simp [intOf]; omega
                · have hcall := HI0.out (W5.drewN nq) HW5.out x.1 hin
                  have hcall2 := HI2.out (W5.drewN nq) HW5.out x.1 j (by have := E.out.2.2.1; omega) e1 e2
                  have hj1 : j < n3 := by have := E.out.2.2.1; omega
                  have hja : j < A2.length := by have := E.out.2.2.2.1; omega
                  rcases HX.out.s4 with h | ⟨b, off, rfl, hbw, hc⟩
                  · rw [h] at hja; simp at hja
                  · have hcj := (HG6.out.trans HR5.out).cell (hc j hja) (by simp)
                    rw [e3] at hcj
                    have z0 : (0 : Int) ≤ (j : Int) := by omega
                    have z1 : (j : Int) < (n3 : Int) := by omega
                    have z2 : decide ((j : Int) < 0) = false := decide_eq_false (by omega)
                    clear hc e1 e2 e3 hj hja HCF hin
                    go_wp2_with fail
                    refine hcall.mono ?_
                    rintro e w' ⟨rfl, rfl⟩
                    go_wp2_with fail
                    refine hcall2.mono ?_
                    rintro e w' ⟨rfl, rfl⟩
                    go_wp2_with fail
                    go_quiet (fail)
                    go_wp2_with fail
                    go_roundw
                    case rel => exact ⟨_, Nat.succ_le_of_lt hlt, by go_num, HR5.out.trans (grown_drewN _ _)⟩
                    case measure => simp [intOf]; omega
              · have hlt2 := hup i (by omega) hlt
                obtain ⟨p0, -⟩ := (hrd.keep hgr.out (by simp)).2 (i - 1) (by omega)
                obtain ⟨ip, hip⟩ : ∃ n, n = i - 1 := ⟨_, rfl⟩
                rw [← hip] at hlt2 p0
                clear hcf hns hup hrd hig
                generalize G[i]! = x at q0 q1 HCF hne hlt2
                generalize G[ip]! = y at p0 hlt2
                have z9 : (0 : Int) < (i : Int) := by omega
                have z8 : IntKind.i64.wrap ((i : Int) - 1) = (ip : Int) := by rw [show ((i : Int) - 1) = (ip : Int) by omega]; exact wrap_small _ (by omega) (by omega)
                have z7 : (0 : Int) ≤ (ip : Int) := by omega
                have z6 : (ip : Int) < (ng : Int) := by omega
                have z5 : decide (x.1 ≤ y.1) = false := decide_eq_false (by omega)
                go_wp2_with fail
                refine wp_world (fun W => wr.grownBy W none ∧ W.cell? ⟨wr.heap.size, 0, none⟩ = some (.int .u64 x.1) ∧ W.cell? ⟨wr.heap.size, 1, none⟩ = some (.string x.2)) ⟨World.grownBy_alloc wr _ none, World.cell?_alloc_new _ _ _ _, World.cell?_alloc_new _ _ _ _⟩ ?_
                rintro W5 ⟨hW5, m0, m1⟩
                have p1 := hW5.cell p0 (by simp)
                generalize wr.heap.size = mb at m0 m1
                have HR5 : Hid (w6.grownBy W5 none) := hgr.out.trans hW5
                have HW5 : ∀ {n : Nat}, Hid (w.grownBy (W5.drewN n) none) := HG6.out.trans (HR5.out.trans (grown_drewN _ _))
                clear hW5 HW hgr q0 q1 p0
                have z9d : 0 < i := by omega
                have p2 := p1
                rw [hip] at p2
                clear z8 z7 z6
                go_quiet (fail)
                go_wp2_with fail
                rcases HCF.out with ⟨j, hj, e1, e2, e3⟩ | ⟨hin, j, hj, e1, e2, e3⟩
                · have hcall := HI1.out (W5.drewN nq) HW5.out x.1 j (by have := E.out.1; omega) e1 e2
                  have hj1 : j < n1 := by have := E.out.1; omega
                  have hja : j < A1.length := by have := E.out.2.1; omega
                  rcases HX.out.s2 with h | ⟨b, off, rfl, hbw, hc⟩
                  · rw [h] at hja; simp at hja
                  · have hcj := (HG6.out.trans HR5.out).cell (hc j hja) (by simp)
                    rw [e3] at hcj
                    have z0 : (0 : Int) ≤ (j : Int) := by omega
                    have z1 : (j : Int) < (n1 : Int) := by omega
                    clear hc e1 e2 e3 hj hja HCF
                    go_wp2_with fail
                    refine hcall.mono ?_
                    rintro e w' ⟨rfl, rfl⟩
                    go_wp2_with fail
                    go_quiet (fail)
                    go_wp2_with fail
                    go_roundw
                    case rel => exact ⟨_, Nat.succ_le_of_lt hlt, by go_num, HR5.out.trans (grown_drewN _ _)⟩
                    case measure => simp [intOf]; omega
                · have hcall := HI0.out (W5.drewN nq) HW5.out x.1 hin
                  have hcall2 := HI2.out (W5.drewN nq) HW5.out x.1 j (by have := E.out.2.2.1; omega) e1 e2
                  have hj1 : j < n3 := by have := E.out.2.2.1; omega
                  have hja : j < A2.length := by have := E.out.2.2.2.1; omega
                  rcases HX.out.s4 with h | ⟨b, off, rfl, hbw, hc⟩
                  · rw [h] at hja; simp at hja
                  · have hcj := (HG6.out.trans HR5.out).cell (hc j hja) (by simp)
                    rw [e3] at hcj
                    have z0 : (0 : Int) ≤ (j : Int) := by omega
                    have z1 : (j : Int) < (n3 : Int) := by omega
                    have z2 : decide ((j : Int) < 0) = false := decide_eq_false (by omega)
                    clear hc e1 e2 e3 hj hja HCF hin
                    go_wp2_with fail
                    refine hcall.mono ?_
                    rintro e w' ⟨rfl, rfl⟩
                    go_wp2_with fail
                    refine hcall2.mono ?_
                    rintro e w' ⟨rfl, rfl⟩
                    go_wp2_with fail
                    go_quiet (fail)
                    go_wp2_with fail
                    go_roundw
                    case rel => exact ⟨_, Nat.succ_le_of_lt hlt, by go_num, HR5.out.trans (grown_drewN _ _)⟩
                    case measure => simp [intOf]; omega
          · have hik' : i = kk := by omega
            subst hik'
            have hlz : ¬ (i : Int) < (i : Int) := by omega
            have HW : Hid (w.grownBy wr none) := HG6.out.trans hgr.out
            have hT17 : Calls Try.prog 17 #[.slice ag ng cg, .int .i64 i, .int .u64 self, .slice a1 n1 c1, .slice a5 n5 c5, .slice a6 n5 c6, .bool ((role == 2) && a5.isSome)] wr fun e w' => e = .returned (.bool true) ∧ wr.grownBy w' none := by
              obtain ⟨-, htl, hln⟩ := HGG.out
              obtain ⟨e1, e2, e3, e4, e5, e6⟩ := E.out
              have h := tail_calls self ((role == 2) && a5.isSome) ag a1 a5 a6 cg c1 c5 c6 i G L1 L3 A3 wr (HIG.out.keep hgr.out) (HX.out.later HW.out).s1 (HX.out.later HW.out).s5 (HX.out.later HW.out).s6 HK.out.2.2 (by omega) (by omega) hln (by have := HNG.out; omega) htl
              rw [← e1, ← e5, ← e6, ← HNG.out] at h
              exact h
            clear HI0 HI1 HI2
            by_cases hr : role = 2
            · subst hr
              cases a5 with
              | none =>
                have hne := fun w' => run_neq_slice_nil_any (P := Try.prog) w' 23 22 none n5 c5 0 0 Try.underlying23
                go_wp2_with (go_at_call 17; refine hT17.mono ?_; rintro e w' ⟨rfl, hg7⟩)
                go_ret
                exact ⟨rfl, HW.out.trans hg7⟩
              | some x5 =>
                have hne := fun w' => run_neq_slice_nil_any (P := Try.prog) w' 23 22 (some x5) n5 c5 0 0 Try.underlying23
                go_wp2_with (go_at_call 17; refine hT17.mono ?_; rintro e w' ⟨rfl, hg7⟩)
                go_ret
                exact ⟨rfl, HW.out.trans hg7⟩
            · have hr2 : (role == 2) = false := beq_eq_false_iff_ne.2 hr
              rw [hr2, Bool.false_and] at hT17
              go_wp2_with (go_at_call 17; refine hT17.mono ?_; rintro e w' ⟨rfl, hg7⟩)
              go_ret
              exact ⟨rfl, HW.out.trans hg7⟩
end Go.Proofs.Qxb6612844a
