/-
  The walk of FnMemoryDropForgetsOneToken (3).
-/
import Derived.Test.Qxb6613886aMemM
namespace Go.Proofs.Qxb6613886a
open Go.RowKit Go.ChangeMaps Go.MapKept

theorem Final.grow {w0 w w' : World} {L : List Int} {K : List ByteArray} {n h v g eb kb rn rh rc rm : Nat} {HP NP : Nat → Option Nat} {mp : Nat → Bool} {DE DH : Dt} (F : Final w0 w L K n h v g eb kb rn rh rc rm HP NP mp DE DH) (hg : w.grownBy w' none) : Final w0 w' L K n h v g eb kb rn rh rc rm HP NP mp DE DH := by
  refine ⟨F.below.trans ((grown_below hg).mono F.below.size), F.mem.keep hg (by simp), F.rowN.keep hg (by simp), F.rowH.keep hg (by simp), F.rowC.keep hg (by simp), F.rowM.keep hg (by simp), ?_, ?_, ?_, World.ownsMap.kept F.mE hg (by simp), World.ownsMap.kept F.mH hg (by simp), F.einv, F.hinv, F.tE, F.tH⟩
  · obtain ⟨b, hb, h1, h2⟩ := F.gone; exact ⟨b, hb, h1, h2.keep hg (by simp)⟩
  · intro x hx hv
    obtain ⟨b, hb, h1, h2⟩ := F.node x hx hv; exact ⟨b, hb, h1, h2.keep hg (by simp)⟩
  · intro x hx
    obtain ⟨b, h1, h2⟩ := F.hold x hx; exact ⟨b, h1, h2.keep hg (by simp)⟩

theorem Final.live {w0 w : World} {L : List Int} {K : List ByteArray} {n h v g eb kb rn rh rc rm : Nat} {HP NP : Nat → Option Nat} {mp : Nat → Bool} {DE DH : Dt} (F : Final w0 w L K n h v g eb kb rn rh rc rm HP NP mp DE DH) {x : Nat} (hx : x < n) : Live w (NP x) := fun y hy => by
  by_cases e : x = v
  · subst e
    obtain ⟨b, hb, h1, h2⟩ := F.gone
    rw [h1] at hy; cases hy; exact ⟨_, _, h2⟩
  · obtain ⟨b, hb, h1, h2⟩ := F.node x hx e
    rw [h1] at hy; cases hy; exact ⟨_, _, h2⟩

theorem rem_end {L : List Int} {v vh : Nat} (hv : v < L.length) (hvh : L[v]! = (vh : Int)) : remTo L v L.length vh = left L v vh := by
  unfold remTo left cnt
  rw [if_pos ⟨hv, hvh⟩, if_pos hvh]

theorem neq32_same (w : World) (p : Option Nat) : (binOp .neq 32 (.pointer (p.map pt)) (.pointer (p.map pt))).run Try.prog w = .ok (.bool false) w := by
  obtain ⟨j, h1, h2⟩ := info66
  have h : ∀ d : Nat, (Op.equalIn (d + 1) 32 (.pointer (p.map pt)) (.pointer (p.map pt))).run Try.prog w = .ok true w := fun d => by
    cases p with
    | none => simp [Op.equalIn, run_underlying Try.underlying32]
    | some x => simp [Op.equalIn, run_underlying Try.underlying32, sizeOf, typeInfo, h1, run_sameAddr_same]
  simp only [binOp]
  simp [Op.equal, Op.maxDepth, h 9999]
theorem neq42_same (w : World) (p : Option Nat) : (binOp .neq 42 (.pointer (p.map pt)) (.pointer (p.map pt))).run Try.prog w = .ok (.bool false) w := by
  obtain ⟨j, h1, h2⟩ := info77
  have h : ∀ d : Nat, (Op.equalIn (d + 1) 42 (.pointer (p.map pt)) (.pointer (p.map pt))).run Try.prog w = .ok true w := fun d => by
    cases p with
    | none => simp [Op.equalIn, run_underlying Try.underlying42]
    | some x => simp [Op.equalIn, run_underlying Try.underlying42, sizeOf, typeInfo, h1, run_sameAddr_same]
  simp only [binOp]
  simp [Op.equal, Op.maxDepth, h 9999]

set_option maxRecDepth 20000 in
set_option maxHeartbeats 3200000 in
theorem law_core (vic : Int) (a1 a2 a3 : Option Addr) (c1 c2 c3 : Nat) (L : List Int) (K : List ByteArray) (F : List Bool) (w : World) (s1 : SrcI w a1 L) (s2 : SrcS w a2 K) (s3 : SrcB w a3 F) (m1 : L.length ≤ maxLen) (m2 : K.length ≤ maxLen) (m3 : F.length ≤ maxLen) :
    Calls Try.prog 3 #[.slice a1 L.length c1, .slice a2 K.length c2, .slice a3 F.length c3, .int .i64 vic] w fun e w' => e = .returned (.bool true) ∧ w.grownBy w' none := by
  have H4 := hidI (bytes_calls vic a1 a2 a3 c1 c2 c3 L.length F.length K w s2 m1 m3 m2)
  have H5 := hidI (fun hsm => tooBig_calls a1 a2 a3 c1 c2 c3 L.length F.length K w s2 m1 m3 m2 hsm)
  have H6 := hidI (fun l1 l2 => premise_calls a1 a2 a3 c1 c2 c3 K.length F.length L w s1 l1 l2)
  have H7 := hidI (fun l1 l2 l3 hnm hsm => build_calls a1 a2 a3 c1 c2 c3 L K F w s1 s2 s3 l1 l2 l3 hnm hsm)
  have HS1 : Hid (SrcI w a1 L) := s1
  have HS2 : Hid (SrcS w a2 K) := s2
  obtain ⟨n, hn⟩ : ∃ n, n = L.length := ⟨_, rfl⟩
  obtain ⟨h, hh⟩ : ∃ n, n = K.length := ⟨_, rfl⟩
  obtain ⟨m, hm⟩ : ∃ n, n = F.length := ⟨_, rfl⟩
  have HN : Hid (n = L.length) := hn
  have HH : Hid (h = K.length) := hh
  rw [← hn, ← hh, ← hm] at H4 H5 H6 H7 ⊢
  clear s1 s2 s3 hn hh hm m1 m2 m3
  go_enter Try.func3, Try.ntmps3
  go_wp2_with fail
  refine H4.out.mono ?_
  rintro e w' ⟨⟨r4, rfl, hsm⟩, rfl⟩
  cases r4 with
  | false =>
    go_wp2_with fail
    go_ret
    exact ⟨rfl, World.grownBy.refl _ _⟩
  | true =>
    have HSM : Hid (Small K) := hsm rfl
    clear hsm
    go_wp2_with fail
    refine (H5.out HSM.out).mono ?_
    rintro e w' ⟨⟨r5, rfl, hsz⟩, rfl⟩
    cases r5 with
    | true =>
      go_wp2_with fail
      go_ret
      exact ⟨rfl, World.grownBy.refl _ _⟩
    | false =>
      obtain ⟨ln, lh, lm⟩ := hsz rfl
      clear hsz
      go_wp2_with fail
      refine (H6.out (by have := HN.out; omega) lh).mono ?_
      rintro e w' ⟨⟨r6, rfl, hpr⟩, rfl⟩
      cases r6 with
      | false =>
        go_wp2_with fail
        go_ret
        exact ⟨rfl, World.grownBy.refl _ _⟩
      | true =>
        obtain ⟨hmh, hnm⟩ := hpr rfl
        clear hpr
        subst hmh
        have HNM : Hid (Names L m) := hnm
        by_cases hv0 : vic < 0
        · clear hnm
          go_wp2_with fail
          go_ret
          exact ⟨rfl, World.grownBy.refl _ _⟩
        · by_cases hv1 : (n : Int) ≤ vic
          · clear hnm
            go_wp2_with fail
            go_ret
            exact ⟨rfl, World.grownBy.refl _ _⟩
          · obtain ⟨v, rfl⟩ : ∃ v : Nat, vic = (v : Int) := ⟨vic.toNat, by omega⟩
            have hv : v < n := by omega
            have H7' := hidI (H7.out ln lh rfl hnm HSM.out)
            clear hnm H4 H5 H6 H7
            go_wp2_with fail
            refine H7'.out.mono ?_
            rintro e w1 ⟨g, eb, kb, rn, rh, rc, rm, HP, NP, mp, DE, DH, rfl, hB⟩
            have HB : Hid (Built w w1 L K n m g eb kb rn rh rc rm HP NP mp DE DH) := hB
            clear hB H7'
            obtain ⟨b, hbv, hdrop⟩ := dropB w w1 L K n m v g eb kb rn rh rc rm HP NP mp DE DH HB.out HN.out HH.out ln HNM.out HSM.out hv
            have HBV : Hid (NP v = some b) := hbv
            have HDR := hidI hdrop
            have kn : w1.cell? ⟨rn, v, none⟩ = some (.pointer (some ⟨b, 0, none⟩)) := by
              have := HB.out.np.rowN.cell v (rowOf_get _ hv)
              simpa [hbv] using this
            obtain ⟨vh, hvh⟩ : ∃ vh : Nat, L[v]! = (vh : Int) := ⟨L[v]!.toNat, by have := HNM.out v (by have := HN.out; omega); omega⟩
            have HVH : Hid (L[v]! = (vh : Int) ∧ vh < m) := ⟨hvh, by have := (HNM.out v (by have := HN.out; omega)).2; omega⟩
            have hvl : v < L.length := by have := HN.out; omega
            rcases HS1.out with e | ⟨b1, off1, rfl, hbw1, hc1⟩
            · rw [e] at hvl; simp at hvl
            · have hcell : ∀ i, i < n → w1.cell? ⟨b1, off1 + i, none⟩ = some (.int .i64 L[i]!) := fun i hi => HB.out.grown.cell (hc1 i (by have := HN.out; omega)) (by simp)
              have HCL := hidI hcell
              have kv := hcell v hv
              rw [hvh] at kv
              clear hcell hc1 hdrop hbv hvh hvl
              have y0 : (0 : Int) ≤ (v : Int) := by omega
              have y1 : (v : Int) < (n : Int) := by omega
              go_wp2_with fail
              clear kn kv
              go_loop [17, 18] (fun s17 s18 => ∃ i : Nat, i ≤ n ∧ s18 = .int .i64 i ∧ s17 = .int .i64 (remTo L v i vh)) (fun _ s18 => n - (intOf s18).toNat)
              case atStart => exact ⟨0, Nat.zero_le _, rfl, by simp [remTo, cntTo]⟩
              case round =>
                obtain ⟨i, hin, rfl, rfl⟩ := hrel
                by_cases hlt : i < n
                · have ki := HCL.out i hlt
                  have HRS : Hid (remTo L v (i + 1) vh = remTo L v i vh + (if i ≠ v ∧ L[i]! = (vh : Int) then 1 else 0)) := remTo_succ L v i vh (by have := HN.out; omega)
                  have hrl : remTo L v i vh ≤ 65536 := Nat.le_trans (Nat.sub_le _ _) (Nat.le_trans (cntTo_le L i vh) (by omega))
                  generalize L[i]! = x at ki HRS
                  generalize remTo L v i vh = q at HRS hrl
                  have z0 : (0 : Int) ≤ (i : Int) := by omega
                  have z1 : (i : Int) < (n : Int) := by omega
                  by_cases hiv : i = v
                  · have hiv1 : ((i : Int) == (v : Int)) = true := by subst hiv; simp
                    have R : Hid (remTo L v (i + 1) vh = q) := by show _ = _; rw [HRS.out, if_neg (fun h => h.1 hiv)]; rfl
                    clear HRS
                    go_wp2_with fail
                    go_round
                    case rel => exact ⟨i + 1, by omega, by go_num, by rw [R.out]⟩
                    case measure => simp [intOf]; omega
                  · have hiv1 : ((i : Int) == (v : Int)) = false := beq_eq_false_iff_ne.2 (by omega)
                    by_cases hx : x = (vh : Int)
                    · have hx1 : (x == (vh : Int)) = true := by subst hx; simp
                      have R : Hid (remTo L v (i + 1) vh = q + 1) := by show _ = _; rw [HRS.out, if_pos ⟨hiv, hx⟩]
                      clear HRS hx
                      go_wp2_with fail
                      go_round
                      case rel => exact ⟨i + 1, by omega, by go_num, by rw [R.out]; go_num⟩
                      case measure => simp [intOf]; omega
                    · have hx1 : (x == (vh : Int)) = false := beq_eq_false_iff_ne.2 hx
                      have R : Hid (remTo L v (i + 1) vh = q) := by show _ = _; rw [HRS.out, if_neg (fun h => hx h.2)]; rfl
                      clear HRS
                      go_wp2_with fail
                      go_round
                      case rel => exact ⟨i + 1, by omega, by go_num, by rw [R.out]⟩
                      case measure => simp [intOf]; omega
                · have hin' : i = n := by omega
                  have HRE : Hid (remTo L v i vh = left L v vh) := by
                    show _ = _
                    rw [hin', HN.out]; exact rem_end (by have := HN.out; omega) HVH.out.1
                  rw [HRE.out]
                  subst hin'
                  have hlz : ¬ (i : Int) < (i : Int) := by omega
                  clear HCL HRE
                  go_wp2_with fail
                  refine HDR.out.mono ?_
                  rintro e w2 ⟨rfl, hF⟩
                  have HF : Hid (Final w w2 L K i m v g eb kb rn rh rc rm HP NP mp DE DH) := hF
                  have hel := entriesLen_calls g eb kb i i _ _ _ w2 hF.mem hF.mE
                  rw [hF.sizeE hv] at hel
                  have HEL := hidI hel
                  have hsz : ((i - 1 : Nat) : Int) = (i : Int) - 1 := by omega
                  have hwr : IntKind.i64.wrap ((i : Int) - 1) = (i : Int) - 1 := wrap_small _ (by omega) (by omega)
                  clear HDR HB hF hel
                  go_wp2_with fail
                  refine HEL.out.mono ?_
                  rintro e w' ⟨rfl, rfl⟩
                  clear HEL
                  go_wp2_with fail
                  refine (digest_calls v _ (by omega)).mono ?_
                  rintro e w3 ⟨rfl, g3⟩
                  have HF3 : Hid (Final w w3 L K i m v g eb kb rn rh rc rm HP NP mp DE DH) := HF.out.grow g3
                  clear g3 HF
                  obtain ⟨q1, q2⟩ := HF3.out.look ln hv hv
                  rw [if_pos rfl] at q1 q2
                  have HEN := hidI (entry_calls g eb kb i v i _ _ _ none q1 q2 w3 HF3.out.mem HF3.out.mE)
                  clear q1 q2
                  go_wp2_with fail
                  refine HEN.out.mono ?_
                  rintro e w4 ⟨rfl, g4⟩
                  have HF4 : Hid (Final w w4 L K i m v g eb kb rn rh rc rm HP NP mp DE DH) := HF3.out.grow g4
                  clear g4 HF3 HEN
                  go_wp2_with fail
                  clear hsz hwr
                  go_loopw [21, 22, 23] (fun s21 _ _ wq => ∃ j : Nat, j ≤ i ∧ s21 = .int .i64 j ∧ Hid (Final w wq L K i m v g eb kb rn rh rc rm HP NP mp DE DH)) (fun s21 _ _ _ => i - (intOf s21).toNat)
                  case atStart => exact ⟨0, Nat.zero_le _, rfl, HF4⟩
                  case round =>
                    obtain ⟨j, hji, rfl, hF⟩ := hrel
                    clear HF4
                    by_cases hltj : j < i
                    · have z0 : (0 : Int) ≤ (j : Int) := by omega
                      have z1 : (j : Int) < (i : Int) := by omega
                      by_cases hjv : j = v
                      · have hjv1 : ((j : Int) == (v : Int)) = true := by subst hjv; simp
                        clear hjv
                        go_wp2_with fail
                        go_roundw
                        case rel => exact ⟨j + 1, by omega, by go_num, hF⟩
                        case measure => simp [intOf]; omega
                      · have hjv1 : ((j : Int) == (v : Int)) = false := beq_eq_false_iff_ne.2 (by omega)
                        go_wp2_with fail
                        refine (digest_calls j _ (by omega)).mono ?_
                        rintro e w5 ⟨rfl, g5⟩
                        have HF5 : Hid (Final w w5 L K i m v g eb kb rn rh rc rm HP NP mp DE DH) := hF.out.grow g5
                        clear g5 hF
                        obtain ⟨q1, q2⟩ := HF5.out.look ln hv hltj
                        obtain ⟨bj, hbj⟩ := HF5.out.made hltj
                        rw [if_neg hjv, hbj] at q1 q2
                        have HEN := hidI (entry_calls g eb kb i j i _ _ _ (some bj) q1 q2 w5 HF5.out.mem HF5.out.mE)
                        have HBJ : Hid (NP j = some bj) := hbj
                        clear q1 q2 hbj
                        go_wp2_with fail
                        refine HEN.out.mono ?_
                        rintro e w6 ⟨rfl, g6⟩
                        have HF6 : Hid (Final w w6 L K i m v g eb kb rn rh rc rm HP NP mp DE DH) := HF5.out.grow g6
                        have kj : w6.cell? ⟨rn, j, none⟩ = some (.pointer (some ⟨bj, 0, none⟩)) := by
                          have := HF6.out.rowN.cell j (rowOf_get _ hltj)
                          simpa [HBJ.out] using this
                        have hnq := neq32_same w6 (some bj)
                        simp only [Option.map] at hnq
                        clear g6 HF5 HEN
                        go_wp2_with fail
                        go_roundw
                        case rel => exact ⟨j + 1, by omega, by go_num, HF6⟩
                        case measure => simp [intOf]; omega
                    · have hlz2 : ¬ (j : Int) < (i : Int) := by omega
                      clear hltj
                      go_wp2_with fail
                      have hnw := newest_calls g eb kb i _ _ wr hF.out.mem
                      rw [hF.out.newest hv] at hnw
                      have HNW := hidI hnw
                      clear hnw
                      refine HNW.out.mono ?_
                      rintro e w' ⟨rfl, rfl⟩
                      clear HNW
                      go_wp2_with fail
                      go_loop [24, 25, 26] (fun s24 s25 s26 => ∃ j : Nat, j ≤ i ∧ s26 = .int .i64 j ∧ s24 = .pointer ((pf NP v j).map pt) ∧ s25 = .pointer ((cf NP i v j).map pt)) (fun _ _ s26 => i - (intOf s26).toNat)
                      case atStart => exact ⟨0, Nat.zero_le _, rfl, rfl, rfl⟩
                      case round =>
                        obtain ⟨j, hji, rfl, rfl, rfl⟩ := hrel
                        by_cases hltj : j < i
                        · have z0 : (0 : Int) ≤ (j : Int) := by omega
                          have z1 : (j : Int) < (i : Int) := by omega
                          by_cases hjv : j = v
                          · have hjv1 : ((j : Int) == (v : Int)) = true := by subst hjv; simp
                            have E1 : Hid (pf NP v (j + 1) = pf NP v j ∧ cf NP i v (j + 1) = cf NP i v j) := by subst hjv; exact ⟨pf_skip NP j, cf_skip NP i j⟩
                            clear hjv
                            generalize pf NP v j = p1 at E1
                            generalize cf NP i v j = p2 at E1
                            go_wp2_with fail
                            go_round
                            case rel => exact ⟨j + 1, by omega, by go_num, by rw [E1.out.1], by rw [E1.out.2]⟩
                            case measure => simp [intOf]; omega
                          · have hjv1 : ((j : Int) == (v : Int)) = false := beq_eq_false_iff_ne.2 (by omega)
                            obtain ⟨bj, hbq, hbj, hat⟩ := hF.out.node j hltj hjv
                            have E1 : Hid (pf NP v (j + 1) = some bj) := (pf_next hjv).trans hbj
                            have E2 : cf NP i v j = some bj := (cf_here hltj hjv).trans hbj
                            have HNW := hidI (newer_calls bj j hbq _ _ wr hat)
                            have HOL := hidI (older_calls bj j hbq _ _ wr hat)
                            rw [pf_here] at HNW
                            rw [cf_next] at HOL
                            rw [E2]
                            have kj : wr.cell? ⟨rn, j, none⟩ = some (.pointer (some ⟨bj, 0, none⟩)) := by
                              have := hF.out.rowN.cell j (rowOf_get _ hltj)
                              simpa [hbj] using this
                            have hnq := neq32_same wr (some bj)
                            have hnp := neq32_same wr (pf NP v j)
                            simp only [Option.map_some] at hnq
                            clear hat hbj E2 hjv
                            generalize hp2 : (cf NP i v (j + 1)).map pt = p2 at HOL
                            have HP2 : Hid ((cf NP i v (j + 1)).map pt = p2) := hp2
                            clear hp2
                            generalize (pf NP v j).map pt = p1 at HNW hnp
                            simp only [Option.map_some]
                            go_wp2_with (first | (go_at_call 13; refine HNW.out.mono ?_; rintro e w' ⟨rfl, rfl⟩) | (go_at_call 14; refine HOL.out.mono ?_; rintro e w' ⟨rfl, rfl⟩))
                            go_round
                            case rel => exact ⟨j + 1, by omega, by go_num, by rw [E1.out]; rfl, by rw [HP2.out]⟩
                            case measure => simp [intOf]; omega
                        · have hjn : j = i := by omega
                          subst hjn
                          have hlz3 : ¬ (j : Int) < (j : Int) := by omega
                          have hol := oldest_calls g eb kb j _ _ wr hF.out.mem
                          rw [hF.out.oldest hv] at hol
                          have HOL := hidI hol
                          obtain ⟨b', hbq, hb', hat⟩ := hF.out.gone
                          have ebb : b' = b := by have := HBV.out; rw [hb'] at this; exact Option.some.inj this
                          subst ebb
                          have HNW := hidI (newer_calls b' v hbq _ _ wr hat)
                          have HOD := hidI (older_calls b' v hbq _ _ wr hat)
                          have hnp := neq32_same wr (pf NP v j)
                          rw [cf_end hv]
                          generalize (pf NP v j).map pt = p1 at HOL hnp
                          clear hol hat hb'
                          simp only [Option.map_none]
                          go_wp2_with (first | (go_at_call 15; refine HOL.out.mono ?_; rintro e w' ⟨rfl, rfl⟩) | (go_at_call 13; refine HNW.out.mono ?_; rintro e w' ⟨rfl, rfl⟩) | (go_at_call 14; refine HOD.out.mono ?_; rintro e w' ⟨rfl, rfl⟩))
                          clear HOL HNW HOD hnp
                          go_loop [27, 28, 29, 30, 31] (fun s27 s28 _ _ _ => ∃ q : Nat, q ≤ m ∧ s28 = .int .i64 q ∧ s27 = .int .i64 (wl L v mp q)) (fun _ s28 _ _ _ => m - (intOf s28).toNat)
                          case atStart => exact ⟨0, Nat.zero_le _, rfl, rfl⟩
                          case round =>
                            obtain ⟨q, hqm, rfl, rfl⟩ := hrel
                            by_cases hltq : q < m
                            · have z0 : (0 : Int) ≤ (q : Int) := by omega
                              have z1 : (q : Int) < (m : Int) := by omega
                              have hqk : q < K.length := by have := HH.out; omega
                              rcases HS2.out with e | ⟨b2, off2, rfl, hbw2, hc2⟩
                              · rw [e] at hqk; simp at hqk
                              · have k2 : wr.cell? ⟨b2, off2 + q, none⟩ = some (.string K[q]!) := (hF.out.below.cell (p := ⟨b2, off2 + q, none⟩) hbw2).trans (hc2 q hqk)
                                have kc : wr.cell? ⟨rc, q, none⟩ = some (.int .i64 (cnt L q)) := hF.out.rowC.cell q (rowOf_get _ hltq)
                                have km : wr.cell? ⟨rm, q, none⟩ = some (.bool (mp q)) := hF.out.rowM.cell q (rowOf_get _ hltq)
                                obtain ⟨bq, hbq, hatq⟩ := hF.out.hold q hltq
                                have kh : wr.cell? ⟨rh, q, none⟩ = some (.pointer (some ⟨bq, 0, none⟩)) := by
                                  have := hF.out.rowH.cell q (rowOf_get _ hltq)
                                  simpa [hbq] using this
                                have HTK := hidI (tokens_calls bq K[q]! (left L v q) wr hatq)
                                have hks : K[q]!.size ≤ maxLen := by have := HSM.out q hqk; unfold maxLen; omega
                                have HWL : Hid (wl L v mp (q + 1) = wl L v mp q + (if mp q = true ∧ 0 < left L v q then 1 else 0)) := wl_succ L v mp q
                                have hwl := wl_le L v mp q
                                have HLK : mp q = true → Hid (Calls Try.prog 17 #[.pointer (some ⟨g, 0, none⟩), .string K[q]!] wr fun e w' => e = .returned (.tuple #[.pointer ((if 0 < left L v q then HP q else none).map pt), .bool (if 0 < left L v q then HP q else none).isSome]) ∧ wr = w') := fun hm => by
                                  obtain ⟨q1, q2⟩ := hF.out.lookH HVH.out.1 HVH.out.2 hltq hm
                                  exact holderByKey_calls g eb kb m j _ _ _ K[q]! hks _ q1 q2 wr hF.out.mem (hF.out.mF HVH.out.1)
                                have hlc : Hid (q ≠ vh → left L v q = cnt L q) := fun h => left_other HVH.out.1 h
                                have hcl : cnt L q ≤ 65536 := Nat.le_trans (cntTo_le L _ q) (by have := HN.out; omega)
                                have hll : left L v q ≤ 65536 := Nat.le_trans (Nat.sub_le _ _) hcl
                                rw [hbq] at HLK
                                generalize K[q]! = sq at k2 HTK HLK
                                clear hc2 hatq hbq hks hqk
                                by_cases hqv : q = vh
                                · subst hqv
                                  have KEQ : Hid (left L v q = left L v q) := rfl
                                  have hqv1 : ((q : Int) == (q : Int)) = true := by simp
                                  generalize hmq : mp q = bq1 at km HLK HWL
                                  generalize wl L v mp q = wq at HWL hwl
                                  generalize left L v q = l at HTK HLK HWL hll KEQ
                                  have hnq := neq42_same wr (some bq)
                                  simp only [Option.map_some] at hnq
                                  clear hmq
                                  cases bq1 with
                                  | false =>
                                    have R : Hid (wl L v mp (q + 1) = wq) := by show _ = _; rw [HWL.out, if_neg (fun h => by cases h.1)]; rfl
                                    clear HWL HLK
                                    go_wp2_with (go_at_call 16; refine HTK.out.mono ?_; rintro e w' ⟨rfl, rfl⟩)
                                    go_round
                                    case rel => exact ⟨q + 1, by omega, by go_num, by rw [R.out]⟩
                                    case measure => simp [intOf]; omega
                                  | true =>
                                    have HLK2 := HLK rfl
                                    by_cases hl0 : 0 < l
                                    · rw [if_pos hl0] at HLK2
                                      have R : Hid (wl L v mp (q + 1) = wq + 1) := by show _ = _; rw [HWL.out, if_pos ⟨rfl, hl0⟩]
                                      have hl1 : (0 : Int) < (l : Int) := by omega
                                      clear HWL HLK
                                      go_wp2_with (first | (go_at_call 16; refine HTK.out.mono ?_; rintro e w' ⟨rfl, rfl⟩) | (go_at_call 17; refine HLK2.out.mono ?_; rintro e w' ⟨rfl, rfl⟩))
                                      go_round
                                      case rel => exact ⟨q + 1, by omega, by go_num, by rw [R.out]; go_num⟩
                                      case measure => simp [intOf]; omega
                                    · rw [if_neg hl0] at HLK2
                                      have R : Hid (wl L v mp (q + 1) = wq) := by show _ = _; rw [HWL.out, if_neg (fun h => hl0 h.2)]; rfl
                                      have hl1 : ¬ (0 : Int) < (l : Int) := by omega
                                      clear HWL HLK
                                      go_wp2_with (first | (go_at_call 16; refine HTK.out.mono ?_; rintro e w' ⟨rfl, rfl⟩) | (go_at_call 17; refine HLK2.out.mono ?_; rintro e w' ⟨rfl, rfl⟩))
                                      go_round
                                      case rel => exact ⟨q + 1, by omega, by go_num, by rw [R.out]⟩
                                      case measure => simp [intOf]; omega
                                · have hqv1 : ((q : Int) == (vh : Int)) = false := beq_eq_false_iff_ne.2 (by omega)
                                  rw [← hlc.out hqv] at kc
                                  have KEQ : Hid (left L v q = left L v q) := rfl
                                  generalize left L v vh = lv
                                  generalize hmq : mp q = bq1 at km HLK HWL
                                  generalize wl L v mp q = wq at HWL hwl
                                  generalize left L v q = l at HTK HLK HWL hll KEQ kc
                                  have hnq := neq42_same wr (some bq)
                                  simp only [Option.map_some] at hnq
                                  clear hmq
                                  cases bq1 with
                                  | false =>
                                    have R : Hid (wl L v mp (q + 1) = wq) := by show _ = _; rw [HWL.out, if_neg (fun h => by cases h.1)]; rfl
                                    clear HWL HLK
                                    go_wp2_with (go_at_call 16; refine HTK.out.mono ?_; rintro e w' ⟨rfl, rfl⟩)
                                    go_round
                                    case rel => exact ⟨q + 1, by omega, by go_num, by rw [R.out]⟩
                                    case measure => simp [intOf]; omega
                                  | true =>
                                    have HLK2 := HLK rfl
                                    by_cases hl0 : 0 < l
                                    · rw [if_pos hl0] at HLK2
                                      have R : Hid (wl L v mp (q + 1) = wq + 1) := by show _ = _; rw [HWL.out, if_pos ⟨rfl, hl0⟩]
                                      have hl1 : (0 : Int) < (l : Int) := by omega
                                      clear HWL HLK
                                      go_wp2_with (first | (go_at_call 16; refine HTK.out.mono ?_; rintro e w' ⟨rfl, rfl⟩) | (go_at_call 17; refine HLK2.out.mono ?_; rintro e w' ⟨rfl, rfl⟩))
                                      go_round
                                      case rel => exact ⟨q + 1, by omega, by go_num, by rw [R.out]; go_num⟩
                                      case measure => simp [intOf]; omega
                                    · rw [if_neg hl0] at HLK2
                                      have R : Hid (wl L v mp (q + 1) = wq) := by show _ = _; rw [HWL.out, if_neg (fun h => hl0 h.2)]; rfl
                                      have hl1 : ¬ (0 : Int) < (l : Int) := by omega
                                      clear HWL HLK
                                      go_wp2_with (first | (go_at_call 16; refine HTK.out.mono ?_; rintro e w' ⟨rfl, rfl⟩) | (go_at_call 17; refine HLK2.out.mono ?_; rintro e w' ⟨rfl, rfl⟩))
                                      go_round
                                      case rel => exact ⟨q + 1, by omega, by go_num, by rw [R.out]⟩
                                      case measure => simp [intOf]; omega
                            · have hqn : q = m := by omega
                              subst hqn
                              have hlz4 : ¬ (q : Int) < (q : Int) := by omega
                              have hhl := holdersLen_calls g eb kb q j _ _ _ wr hF.out.mem (hF.out.mF HVH.out.1)
                              rw [hF.out.sizeH HVH.out.1 HVH.out.2] at hhl
                              have HHL := hidI hhl
                              clear hhl
                              go_wp2_with (go_at_call 18; refine HHL.out.mono ?_; rintro e w' ⟨rfl, rfl⟩)
                              go_ret
                              exact ⟨by simp, below_grown hF.out.below⟩
end Go.Proofs.Qxb6613886a
