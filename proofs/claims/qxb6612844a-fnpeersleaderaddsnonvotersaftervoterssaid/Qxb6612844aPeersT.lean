/-
  The walk of FnPeersLeaderAddsNonVotersAfterVoters (4).
-/
import Derived.Test.Qxb6612844aPeersS
namespace Go.Proofs.Qxb6612844a
open Go.RowKit

/-- A core as ZZnewCorePeers lays it. -/
theorem pc_laid (self role : Int) (am ao at' : Option Addr) (n1 n3 n5 cm co ct : Nat) (L1 L2 L3 : List Int) (A1 A2 A3 : List ByteArray) (e1 : n1 = L1.length) (e3 : n3 = L2.length) (e5 : n5 = L3.length) (f1 : L1.length = A1.length) (f2 : L2.length = A2.length) (f3 : L3.length = A3.length) (l1 : L1.length ≤ 1024) (l3 : L2.length ≤ 1024) (l5 : L3.length ≤ 1024)
    (W W8 : World) (im : In W am cm (mkM L1 A1)) (io : In W ao co (mkM L2 A2)) (it : In W at' ct (mkM L3 A3)) (h8 : W.alloc (.cells (peerCells self role (.slice am n1 cm) (.slice ao n3 co) (.slice at' n5 ct)) 74) = W8) :
    PC W8 W.heap.size self role am cm (mkM L1 A1) ao co (mkM L2 A2) at' ct (mkM L3 A3) ∧ W.grownBy W8 none := by
  have hP := pc_made (id := self) (role := role) im io it (by rw [mkM_len f1]; exact l1) (by rw [mkM_len f2]; exact l3) (by rw [mkM_len f3]; exact l5)
  rw [mkM_len f1, mkM_len f2, mkM_len f3, ← e1, ← e3, ← e5, h8] at hP
  exact ⟨hP, by rw [← h8]; exact World.grownBy_alloc W _ none⟩

/-- Peers of a follower. -/
theorem peers0 (self : Int) (g : Nat) (am ao at' : Option Addr) (cm co ct : Nat) (L1 L2 L3 : List Int) (A1 A2 A3 : List ByteArray) (f1 : L1.length = A1.length) (f2 : L2.length = A2.length) (d1 : Nod L1) (d2 : Nod L2)
    (W : World) (hP : PC W g self 0 am cm (mkM L1 A1) ao co (mkM L2 A2) at' ct (mkM L3 A3)) :
    Calls Try.prog 14 #[.pointer (some ⟨g, 0, none⟩)] W fun e w' =>
      ∃ a' c' V, e = .returned (.slice a' (vcount self L1 L2) c') ∧ IsV self L1 L2 A1 A2 V ∧ V.length = vcount self L1 L2 ∧ In w' a' c' V ∧ W.grownBy w' none := by
  refine (peersH self 0 g am ao at' cm co ct L1 L2 L3 A1 A2 A3 f1 f2 d2 W hP).mono fun e w' ⟨a', c', V, h1, h2, h3, h4⟩ => ?_
  have hd := (ansG_drop (ld := false) (L3 := L3) (A3 := A3) f1 f2 d1 d2 h2).1
  have hx : ((0 : Int) == 2 && at'.isSome) = false := rfl
  rw [hx] at h1 h3
  have hG : ansG self false L1 L3 A3 V = V := by simp [ansG]
  rw [hG] at h1 h3
  rw [hd] at h1
  exact ⟨a', c', V, h1, h2, hd, h3.read, h4⟩

/-- Peers of a leader. -/
theorem peers2 (self : Int) (g : Nat) (am ao at' a5 : Option Addr) (cm co ct : Nat) (L1 L2 L3 : List Int) (A1 A2 A3 : List ByteArray) (f1 : L1.length = A1.length) (f2 : L2.length = A2.length) (d1 : Nod L1) (d2 : Nod L2) (hi : at'.isSome = a5.isSome) (V : List M) (hV : IsV self L1 L2 A1 A2 V)
    (W : World) (hP : PC W g self 2 am cm (mkM L1 A1) ao co (mkM L2 A2) at' ct (mkM L3 A3)) :
    Calls Try.prog 14 #[.pointer (some ⟨g, 0, none⟩)] W fun e w' =>
      ∃ a' c', e = .returned (.slice a' (ansG self a5.isSome L1 L3 A3 V).length c') ∧ Own w' W.heap.size a' c' (ansG self a5.isSome L1 L3 A3 V) ∧ W.grownBy w' none := by
  refine (peersH self 2 g am ao at' cm co ct L1 L2 L3 A1 A2 A3 f1 f2 d2 W hP).mono fun e w' ⟨a', c', V', h1, h2, h3, h4⟩ => ?_
  have hx : ((2 : Int) == 2 && at'.isSome) = a5.isSome := by rw [hi]; rfl
  rw [hx] at h1 h3
  obtain rfl := IsV.uniq f1 f2 d1 d2 h2 hV
  exact ⟨a', c', h1, h3, h4⟩

/-- What is known of the leader's answer G over the follower's V. -/
def LeadG (self : Int) (ld : Bool) (L1 L3 : List Int) (A3 : List ByteArray) (k : Nat) (V G : List M) : Prop :=
  k ≤ G.length ∧ G.length ≤ 65536 ∧ G.drop k = (if ld = true then tailM self L1 L3 A3 else []) ∧ (∀ i, i < k → G[i]! = V[i]!) ∧ ∀ i, i < G.length → G[i]!.2.size ≤ 1048576

theorem leadG_of {self : Int} {ld : Bool} {L1 L2 L3 : List Int} {A1 A2 A3 : List ByteArray} {V : List M} (f1 : L1.length = A1.length) (f2 : L2.length = A2.length) (f3 : L3.length = A3.length) (d1 : Nod L1) (d2 : Nod L2) (l1 : L1.length ≤ 1024) (l3 : L2.length ≤ 1024) (l5 : L3.length ≤ 1024) (hs : Small A1 ∧ Small A2 ∧ Small A3) (h : IsV self L1 L2 A1 A2 V) :
    LeadG self ld L1 L3 A3 (vcount self L1 L2) V (ansG self ld L1 L3 A3 V) := by
  obtain ⟨h1, h2⟩ := ansG_drop (ld := ld) (L3 := L3) (A3 := A3) f1 f2 d1 d2 h
  have hle : V.length ≤ (ansG self ld L1 L3 A3 V).length := by unfold ansG; rw [List.length_append]; omega
  refine ⟨by omega, ansG_len f1 f2 f3 l1 l3 l5 h, h2, fun i hi => ?_, fun i hi => ?_⟩
  · rw [getElem!_pos (ansG self ld L1 L3 A3 V) i (by omega), getElem!_pos V i (by omega)]
    unfold ansG
    rw [List.getElem_append_left]
  · rw [getElem!_pos (ansG self ld L1 L3 A3 V) i hi]
    exact ansG_small f1 f2 f3 hs h (List.getElem_mem _)

set_option maxRecDepth 20000 in
set_option maxHeartbeats 6400000 in
theorem law4_core (self : Int) (a1 a2 a3 a4 a5 a6 : Option Addr) (c1 c2 c3 c4 c5 c6 : Nat) (L1 L2 L3 : List Int) (A1 A2 A3 : List ByteArray) (w : World) (hX : Six w a1 a2 a3 a4 a5 a6 c1 c3 c5 L1 L2 L3 A1 A2 A3)
    (l1 : L1.length ≤ 1024) (l2 : A1.length ≤ 1024) (l3 : L2.length ≤ 1024) (l4 : A2.length ≤ 1024) (l5 : L3.length ≤ 1024) (l6 : A3.length ≤ 1024) :
    Calls Try.prog 4 #[.int .u64 self, .slice a1 L1.length c1, .slice a2 A1.length c2, .slice a3 L2.length c3, .slice a4 A2.length c4, .slice a5 L3.length c5, .slice a6 A3.length c6] w fun e w' => e = .returned (.bool true) ∧ w.grownBy w' none := by
  have HX : Hid (Six w a1 a2 a3 a4 a5 a6 c1 c3 c5 L1 L2 L3 A1 A2 A3) := hX
  have H9 := hidI (bytes18 self a1 a2 a3 a4 a5 a6 c1 c2 c3 c4 c5 c6 L1.length L2.length L3.length A1 A2 A3 w hX.s2 hX.s4 hX.s6 hX.m1 hX.m3 hX.m5 hX.m2 hX.m4 hX.m6)
  have H10 := hidI (peersBytes_calls a1 a2 a3 a4 a5 a6 c1 c2 c3 c4 c5 c6 L1.length L2.length L3.length A1 A2 A3 w hX.s2 hX.s4 hX.s6 (by omega) (by omega) (by omega) (by omega) (by omega) (by omega))
  have H11 := hidI (premise_calls a1 a2 a3 a4 a5 a6 c1 c2 c3 c4 c5 c6 A1.length A2.length A3.length L1 L2 L3 w hX.s1 hX.s3 hX.s5 (by omega) (by omega) (by omega))
  obtain ⟨n1, e1⟩ : ∃ n, n = L1.length := ⟨_, rfl⟩
  obtain ⟨n2, e2⟩ : ∃ n, n = A1.length := ⟨_, rfl⟩
  obtain ⟨n3, e3⟩ : ∃ n, n = L2.length := ⟨_, rfl⟩
  obtain ⟨n4, e4⟩ : ∃ n, n = A2.length := ⟨_, rfl⟩
  obtain ⟨n5, e5⟩ : ∃ n, n = L3.length := ⟨_, rfl⟩
  obtain ⟨n6, e6⟩ : ∃ n, n = A3.length := ⟨_, rfl⟩
  have E : Hid (n1 = L1.length ∧ n2 = A1.length ∧ n3 = L2.length ∧ n4 = A2.length ∧ n5 = L3.length ∧ n6 = A3.length) := ⟨e1, e2, e3, e4, e5, e6⟩
  rw [← e1] at l1; rw [← e2] at l2; rw [← e3] at l3; rw [← e4] at l4; rw [← e5] at l5; rw [← e6] at l6
  rw [← e1, ← e2, ← e3, ← e4, ← e5, ← e6] at H9 H10 H11 ⊢
  clear hX e1 e2 e3 e4 e5 e6
  go_enter Try.func4, Try.ntmps4
  go_wp2_with fail
  refine H9.out.mono ?_
  rintro e w' ⟨⟨r9, rfl, hsm⟩, rfl⟩
  cases r9 with
  | false =>
    go_wp2_with fail
    go_ret
    exact ⟨rfl, World.grownBy.refl _ _⟩
  | true =>
    have HSM : Hid (Small A1 ∧ Small A2 ∧ Small A3) := hsm rfl
    clear hsm
    go_wp2_with fail
    refine H10.out.mono ?_
    rintro e w' ⟨⟨r10, rfl⟩, rfl⟩
    by_cases hbig : 1048576 < r10
    · go_wp2_with fail
      go_ret
      exact ⟨rfl, World.grownBy.refl _ _⟩
    · go_wp2_with fail
      refine H11.out.mono ?_
      rintro e w1 ⟨⟨r11, rfl, hprem⟩, g1⟩
      cases r11 with
      | false =>
        go_wp2_with fail
        go_ret
        exact ⟨rfl, g1⟩
      | true =>
        obtain ⟨⟨f1, f2, f3⟩, d1, d2, -⟩ := hprem rfl
        clear hprem H9 H10 H11
        subst f1; subst f2; subst f3
        obtain ⟨e1, e2, e3, e4, e5, e6⟩ := E.out
        have k1 : L1.length = A1.length := by omega
        have k2 : L2.length = A2.length := by omega
        have k3 : L3.length = A3.length := by omega
        have HM1 := hidI (members12 a1 a2 c1 c2 n1 n1 L1 A1 w e1 e2 k1 (by omega) HX.out.s1 HX.out.s2 HX.out.n1)
        have HM2 := hidI (members12 a3 a4 c3 c4 n3 n3 L2 A2 w e3 e4 k2 (by omega) HX.out.s3 HX.out.s4 HX.out.n3)
        have HM3 := hidI (members12 a5 a6 c5 c6 n5 n5 L3 A3 w e5 e6 k3 (by omega) HX.out.s5 HX.out.s6 HX.out.n5)
        have HPC := hidI (fun role am ao at' cm co ct => pc_laid self role am ao at' n1 n3 n5 cm co ct L1 L2 L3 A1 A2 A3 e1 e3 e5 k1 k2 k3 (by omega) (by omega) (by omega))
        have HP0 := hidI (fun g am ao at' cm co ct => peers0 self g am ao at' cm co ct L1 L2 L3 A1 A2 A3 k1 k2 d1 d2)
        have HP2 := hidI (fun g am ao at' cm co ct => peers2 self g am ao at' a5 cm co ct L1 L2 L3 A1 A2 A3 k1 k2 d1 d2)
        have HLG := hidI (fun V => leadG_of (self := self) (ld := a5.isSome) (V := V) k1 k2 k3 d1 d2 (by omega) (by omega) (by omega) HSM.out)
        have HVC := hidI (fun (W : World) (hW : w.grownBy W none) => voterCount_calls self a1 a3 c1 c3 L1 L2 W (HX.out.later hW).s1 (HX.out.later hW).s3 (by omega) (by omega))
        have HK : Hid (L1.length = A1.length ∧ L2.length = A2.length ∧ L3.length = A3.length) := ⟨k1, k2, k3⟩
        rw [← e1, ← e3] at HVC
        generalize vcount self L1 L2 = kk at HP0 HLG HVC
        clear e1 e2 e3 e4 e5 e6 k1 k2 k3 d1 d2
        go_wp2_with fail
        refine (HM1.out w1 g1).mono ?_
        rintro e w2 ⟨am, cm, rfl, -, im, g2⟩
        have HI2 : Hid (In w2 am cm (mkM L1 A1)) := im
        have HG2 : Hid (w.grownBy w2 none) := g1.trans g2
        clear im g1 g2
        go_wp2_with fail
        refine (HM2.out w2 HG2.out).mono ?_
        rintro e w3 ⟨ao, co, rfl, -, io, g3⟩
        have HI3 : Hid (In w3 am cm (mkM L1 A1) ∧ In w3 ao co (mkM L2 A2)) := ⟨HI2.out.keep g3, io⟩
        have HG3 : Hid (w.grownBy w3 none) := HG2.out.trans g3
        clear io g3 HI2 HG2
        go_wp2_with fail
        refine (HM3.out w3 HG3.out).mono ?_
        rintro e w4 ⟨at', ct, rfl, hat, it, g4⟩
        have HI4 : Hid (In w4 am cm (mkM L1 A1) ∧ In w4 ao co (mkM L2 A2) ∧ In w4 at' ct (mkM L3 A3)) := ⟨HI3.out.1.keep g4, HI3.out.2.keep g4, it⟩
        have HAT : Hid (at'.isSome = a5.isSome) := hat
        have HG4 : Hid (w.grownBy w4 none) := HG3.out.trans g4
        clear it g4 hat HI3 HG3 HM1 HM2 HM3
        go_wp2_with fail
        refine (newPeers_calls _ _ _ _ _ _ _ _ _ _ _ _).mono ?_
        rintro e w5 ⟨rfl, h5⟩
        obtain ⟨hpc5, g5⟩ := HPC.out 0 am ao at' cm co ct w4 w5 HI4.out.1 HI4.out.2.1 HI4.out.2.2 h5
        have HPC5 : Hid (PC w5 w4.heap.size self 0 am cm (mkM L1 A1) ao co (mkM L2 A2) at' ct (mkM L3 A3)) := hpc5
        have HG5 : Hid (w4.grownBy w5 none) := g5
        clear h5 hpc5 g5
        go_wp2_with fail
        refine (HP0.out w4.heap.size am ao at' cm co ct w5 HPC5.out).mono ?_
        rintro e w6 ⟨af, cf, V, rfl, hV, hVl, hIn, g6⟩
        have HV : Hid (IsV self L1 L2 A1 A2 V) := hV
        have HVL : Hid (V.length = kk) := hVl
        have HIF : Hid (In w6 af cf V) := hIn
        have HG46 : Hid (w4.grownBy w6 none) := HG5.out.trans g6
        have HLG2 := HLG.out V hV
        have HL2 := hidI (fun g => HP2.out g am ao at' cm co ct HAT.out V hV)
        generalize ansG self a5.isSome L1 L3 A3 V = G at HLG2 HL2
        have HLG : Hid (LeadG self a5.isSome L1 L3 A3 kk V G) := HLG2
        clear hV hVl hIn g6 HP0 HPC5 HG5 HP2 HLG2
        obtain ⟨ng, hng⟩ : ∃ n, n = G.length := ⟨_, rfl⟩
        have HNG : Hid (ng = G.length) := hng
        rw [← hng] at HL2
        have hkg : kk ≤ ng := by have := HLG.out.1; omega
        have hnb : ng ≤ 65536 := by have := HLG.out.2.1; omega
        clear hng
        go_wp2_with fail
        refine (newPeers_calls _ _ _ _ _ _ _ _ _ _ _ _).mono ?_
        rintro e w8 ⟨rfl, h8⟩
        obtain ⟨hpc8, g8⟩ := HPC.out 2 am ao at' cm co ct w6 w8 (HI4.out.1.keep HG46.out) (HI4.out.2.1.keep HG46.out) (HI4.out.2.2.keep HG46.out) h8
        generalize w6.heap.size = cb at hpc8
        have HPC8 : Hid (PC w8 cb self 2 am cm (mkM L1 A1) ao co (mkM L2 A2) at' ct (mkM L3 A3)) := hpc8
        have HG8 : Hid (w.grownBy w8 none) := (HG4.out.trans HG46.out).trans g8
        have HIF8 : Hid (In w8 af cf V) := HIF.out.keep g8
        clear h8 hpc8 g8 HIF HI4 HG4 HG46 HPC
        go_wp2_with fail
        refine (HL2.out cb w8 HPC8.out).mono ?_
        rintro e w9 ⟨al, cl, rfl, hown, g9⟩
        have HOW : Hid (Own w9 w8.heap.size al cl G) := hown
        have HIF9 : Hid (In w9 af cf V) := HIF8.out.keep g9
        have HG89 : Hid (w8.grownBy w9 none) := g9
        clear hown g9 HIF8
        go_wp2_with fail
        refine (HVC.out w9 (HG8.out.trans HG89.out)).mono ?_
        rintro e w' ⟨rfl, rfl⟩
        clear HVC
        have hkz : ¬ (ng : Int) < (kk : Int) := by omega
        go_wp2_with fail
        have hkd : decide (ng < kk) = false := decide_eq_false (by omega)
        try rw [hkd]
        clear hkd hkz
        go_loopw [22] (fun s22 wr => ∃ (i : Nat), i ≤ kk ∧ s22 = .int .i64 i ∧ Hid (w9.grownBy wr none)) (fun s22 _ => kk - (intOf s22).toNat)
        case atStart => exact ⟨0, Nat.zero_le _, rfl, World.grownBy.refl _ _⟩
        case round =>
          obtain ⟨i, hik, rfl, hgr⟩ := hrel
          by_cases hlt : i < kk
          · have hig : i < G.length := by have := HNG.out; omega
            have hiv : i < V.length := by have := HVL.out; omega
            rcases HOW.out.read with ⟨-, -, h⟩ | ⟨gl, rfl, hrd⟩
            · rw [h] at hig; simp at hig
            · rcases HIF9.out with ⟨-, -, h⟩ | ⟨gf, rfl, hrf⟩
              · rw [h] at hiv; simp at hiv
              · obtain ⟨q0, q1⟩ := (hrd.keep hgr.out (by simp)).2 i hig
                obtain ⟨p0, p1⟩ := (hrf.keep hgr.out (by simp)).2 i hiv
                rw [HLG.out.2.2.2.1 i hlt] at q0 q1
                generalize V[i]! = x at q0 q1 p0 p1
                have hnq := neqM x.1 x.2
                have hgd := guard36
                have y0 : (0 : Int) ≤ (i : Int) := by omega
                have y1 : (i : Int) < (ng : Int) := by omega
                have y2 : (i : Int) < (kk : Int) := by omega
                clear hrd hrf hig hiv
                go_wp2_with fail
                go_quiet (fail)
                go_wp2_with fail
                go_roundw
                case rel => exact ⟨i + 1, by omega, by go_num, hgr.out.trans (grown_drewN _ _)⟩
                case measure => simp [intOf]; omega
          · have hik' : i = kk := by omega
            subst hik'
            have hlz : ¬ (i : Int) < (i : Int) := by omega
            have HW : Hid (w.grownBy wr none) := (HG8.out.trans HG89.out).trans hgr.out
            have hT17 : Calls Try.prog 17 #[.slice al ng cl, .int .i64 i, .int .u64 self, .slice a1 n1 c1, .slice a5 n5 c5, .slice a6 n5 c6, .bool a5.isSome] wr fun e w' => e = .returned (.bool true) ∧ wr.grownBy w' none := by
              obtain ⟨-, hln, htl, -, -⟩ := HLG.out
              obtain ⟨e1, e2, e3, e4, e5, e6⟩ := E.out
              have h := tail_calls self a5.isSome al a1 a5 a6 cl c1 c5 c6 i G L1 L3 A3 wr (HOW.out.read.keep hgr.out) (HX.out.later HW.out).s1 (HX.out.later HW.out).s5 (HX.out.later HW.out).s6 HK.out.2.2 (by omega) (by omega) hln (by have := HNG.out; omega) htl
              rw [← e1, ← e5, ← e6, ← HNG.out] at h
              exact h
            have H17 := hidI hT17
            clear hT17
            have hne := fun w' => run_neq_slice_nil_any (P := Try.prog) w' 23 22 a5 n5 c5 0 0 Try.underlying23
            have hns : (!a5.isNone) = a5.isSome := by cases a5 <;> rfl
            rw [hns] at hne
            clear hns
            generalize a5.isSome = ld5 at H17 hne
            go_wp2_with fail
            refine H17.out.mono ?_
            rintro e w10 ⟨rfl, g10⟩
            have HO10 : Hid (Own w10 w8.heap.size al cl G) := HOW.out.keep (hgr.out.trans g10) (by simp)
            have HB10 : Hid (Below w8.heap.size w8 w10) := grown_below ((HG89.out.trans hgr.out).trans g10)
            clear g10 H17 HOW HIF9 HX HW hne hgr HSM HV HVL HK
            by_cases hz : ng = 0
            · subst hz
              go_wp2_with fail
              go_ret
              exact ⟨rfl, HG8.out.trans (below_grown HB10.out)⟩
            · have hz1 : (0 : Int) < (ng : Int) := by omega
              have hz2 : 0 < ng := by omega
              have hG0 : 0 < G.length := by have := HNG.out; omega
              rcases HO10.out.cases with ⟨-, -, h⟩ | ⟨gl, rfl, hgl, -, hrd, -⟩
              · rw [h] at hG0; simp at hG0
              · obtain ⟨q0, q1⟩ := hrd.2 0 hG0
                have hsz : G[0]!.2.size ≤ 1048576 := HLG.out.2.2.2.2 0 hG0
                have hx0 : Hid (G[0]! = G[0]!) := rfl
                have fz0 : w10.frozen? ⟨gl, 0, none⟩ = false := World.ownsRow.frozenAt HO10.out 0
                have fz1 : w10.frozen? ⟨gl, 1, none⟩ = false := World.ownsRow.frozenAt HO10.out 1
                have hgw : gl < w10.heap.size := hrd.1
                have hn1 : gl ≠ w10.heap.size := by omega
                have hn2 : w10.heap.size ≠ gl := by omega
                generalize hxG : G[0]! = x at q0 q1 hsz
                have HXG : Hid (G[0]! = x) := hxG
                have HGL : Hid (w8.heap.size ≤ gl) := hgl
                have hadd := fun w' => run_string_add_sum (P := Try.prog) (w := w') x.2 ⟨#[33]⟩ (by have : (ByteArray.mk #[33]).size = 1 := rfl; omega)
                simp only [Nat.zero_mul, Nat.zero_add] at q0 q1
                clear hrd hG0 hx0 hxG hgl
                go_wp2_with fail
                have HB13 : Hid (Below w8.heap.size w8 (((w10.setCell ⟨gl, 0, none⟩ (.int .u64 (bits .xor .u64 IntKind.u64.max x.1))).setCell ⟨gl, 1, none⟩ (.string (x.2 ++ ⟨#[33]⟩))).alloc (.cells #[.int .u64 x.1, .string x.2] 36))) := ((HB10.out.setCell HGL.out _).setCell HGL.out _).alloc (by have h1 := HB10.out.size; simp [World.setCell]; omega) _
                refine (HL2.out cb _ (HPC8.out.later HB13.out)).mono ?_
                rintro e w14 ⟨a14, c14, rfl, hown14, g14⟩
                have m0 : w14.cell? ⟨w10.heap.size, 0, none⟩ = some (.int .u64 x.1) := g14.cell (World.cell?_alloc_at _ _ _ _ (by simp [World.setCell])) (by simp)
                have m1 : w14.cell? ⟨w10.heap.size, 1, none⟩ = some (.string x.2) := g14.cell (World.cell?_alloc_at _ _ _ _ (by simp [World.setCell])) (by simp)
                have HEND : Hid (w.grownBy w14 none) := HG8.out.trans (below_grown (HB13.out.trans ((grown_below g14).mono HB13.out.size)))
                have hG1 : 0 < G.length := by have := HNG.out; omega
                rcases hown14.read with ⟨-, -, h⟩ | ⟨gh, rfl, hrd⟩
                · rw [h] at hG1; simp at hG1
                · obtain ⟨r0, r1⟩ := hrd.2 0 hG1
                  rw [HXG.out] at r0 r1
                  simp only [Nat.zero_mul, Nat.zero_add] at r0 r1
                  generalize w10.heap.size = fb at m0 m1
                  clear hrd hG1 g14 hown14 HB13 HXG HGL HB10 HO10 HPC8 HL2 hgw hn1 hn2 fz0 fz1 q0 q1 hadd hsz
                  have hnq := neqM x.1 x.2
                  have hgd := guard36
                  go_wp2_with fail
                  go_quiet (fail)
                  go_wp2_with fail
                  go_ret
                  exact ⟨rfl, HEND.out.trans (grown_drewN _ _)⟩
end Go.Proofs.Qxb6612844a
