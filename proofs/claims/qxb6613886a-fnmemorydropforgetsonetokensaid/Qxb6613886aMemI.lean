/-
  zzBuild, walked.
-/
import Derived.Test.Qxb6613886aMemK
namespace Go.Proofs.Qxb6613886a
open Go.RowKit Go.ChangeMaps Go.MapKept

theorem cell_turn {w w' : World} {r b o : Nat} (t : Turn w w' (fun k => k = r)) (hb : b < w.heap.size) (hn : b ≠ r) : w'.cell? ⟨b, o, none⟩ = w.cell? ⟨b, o, none⟩ :=
  World.cell?_of_block (w := w) (t.block b hb hn)

set_option maxRecDepth 20000 in
set_option maxHeartbeats 6400000 in
theorem build_calls (a1 a2 a3 : Option Addr) (c1 c2 c3 : Nat) (L : List Int) (K : List ByteArray) (F : List Bool) (w : World) (s1 : SrcI w a1 L) (s2 : SrcS w a2 K) (s3 : SrcB w a3 F) (l1 : L.length ≤ 65536) (l2 : K.length ≤ 65536) (l3 : F.length = K.length) (hnm : Names L K.length) (hsm : Small K) :
    Calls Try.prog 7 #[.slice a1 L.length c1, .slice a2 K.length c2, .slice a3 F.length c3] w fun e w' => BuiltR w w' e L K L.length K.length := by
  have HS1 : Hid (SrcI w a1 L) := s1
  have HS2 : Hid (SrcS w a2 K) := s2
  have HS3 : Hid (SrcB w a3 F) := s3
  have HNM : Hid (Names L K.length) := hnm
  have HSM : Hid (Small K) := hsm
  have HF : Hid (F.length = K.length) := l3
  rw [l3]
  obtain ⟨n, hn⟩ : ∃ n, n = L.length := ⟨_, rfl⟩
  obtain ⟨h, hh⟩ : ∃ n, n = K.length := ⟨_, rfl⟩
  have HN : Hid (n = L.length) := hn
  have HH : Hid (h = K.length) := hh
  rw [← hn] at l1 ⊢
  rw [← hh] at l2 HNM HF ⊢
  clear s1 s2 s3 hnm hsm l3 hn hh
  obtain ⟨i3, hi3, hz3, hs3, hb3⟩ := info_parts info3
  go_enter Try.func7, Try.ntmps7
  go_wp2_with (at_make; refine wpList_make_full _ rfl _ _ 22 rfl w.heap.size 3 i3 _ 1 Try.underlying22 hi3 hz3 hs3 .i64 .i64 h h h rfl rfl rfl rfl (by rw [hb3]; omega) (by unfold maxLen; omega) (Nat.le_refl _) ?_; intro w1 hown1 hg1)
  have HC0 : Hid (At w1 w.heap.size (rowOf h (fun x => .int .i64 (cntTo L 0 x))) 3) := by
    have e : (fun x => Value.int .i64 ((cntTo L 0 x : Nat) : Int)) = fun _ => Value.int .i64 0 := by funext x; rw [cntTo_zero]; rfl
    rw [e]; exact at_made rfl hown1
  have HG1 : Hid (w.grownBy w1 none) := hg1
  generalize hrc : w.heap.size = rc at HC0
  have HRC : Hid (w.heap.size = rc) := hrc
  clear hown1 hg1 hrc hi3 hz3 hs3 hb3
  go_loopw [15, 32] (fun _ s32 wr => ∃ k : Nat, k ≤ n ∧ s32 = .int .i64 k ∧ Hid (At wr rc (rowOf h (fun x => .int .i64 (cntTo L k x))) 3) ∧ Hid (w.grownBy wr none)) (fun _ s32 _ => n - (intOf s32).toNat)
  case atStart => exact ⟨0, Nat.zero_le _, rfl, HC0, HG1⟩
  case round =>
    obtain ⟨k, hk, rfl, hC, hg⟩ := hrel
    by_cases hlt : k < n
    · have hkl : k < L.length := by have := HN.out; omega
      have hnk := HNM.out k hkl
      rcases HS1.out with hh | ⟨b, off, rfl, hbw, hc⟩
      · rw [hh] at hkl; simp at hkl
      · have hck := hg.out.cell (hc k hkl) (by simp)
        have HCS : Hid (∀ x, cntTo L (k + 1) x = cntTo L k x + (if L[k]! = (x : Int) then 1 else 0)) := fun x => cntTo_succ L k x hkl
        clear hc hkl
        generalize L[k]! = x at hck hnk HCS
        obtain ⟨xn, hxn⟩ : ∃ xn : Nat, x = (xn : Int) := ⟨x.toNat, by omega⟩
        subst hxn
        have hxh : xn < h := by omega
        have o0 := hC.out.cell xn (rowOf_get _ hxh)
        have z0 := hC.out.frz xn
        have hcl := cntTo_le L k xn
        have R1 : Hid (At (wr.setCell ⟨rc, xn, none⟩ (.int .i64 ((cntTo L k xn : Nat) + 1 : Int))) rc (rowOf h (fun x => .int .i64 (cntTo L (k + 1) x))) 3) := by
          have := hC.out.set xn (.int .i64 ((cntTo L k xn : Nat) + 1 : Int))
          rw [rowOf_set (f' := fun x => .int .i64 (cntTo L (k + 1) x))] at this
          · exact this
          · simp only [HCS.out xn, if_true]; simp
          · intro j hj hne
            simp only [HCS.out j]
            rw [if_neg (by omega)]; simp
        have R2 : Hid (w.grownBy (wr.setCell ⟨rc, xn, none⟩ (.int .i64 ((cntTo L k xn : Nat) + 1 : Int))) none) := hg.out.andThen (grown_set wr _ _) (fun j hj => by cases hj; exact .inl (by have := HRC.out; simp; omega))
        clear HCS
        generalize cntTo L k xn = q at o0 hcl R1 R2
        have y0 : (0 : Int) ≤ (xn : Int) := by omega
        have y1 : (xn : Int) < (h : Int) := by omega
        have y2 : (0 : Int) ≤ (k : Int) := by omega
        have y3 : (k : Int) < (n : Int) := by omega
        go_wp2
        go_roundw
        case rel => exact ⟨k + 1, by omega, by go_num, R1, R2⟩
        case measure => simp [intOf]; omega
    · have hkn : k = n := by omega
      subst hkn
      have hlz : ¬ (k : Int) < (k : Int) := by omega
      have HCC : Hid (At wr rc (rowOf h (fun x => .int .i64 (cnt L x))) 3) := by
        have e : (fun x => Value.int .i64 ((cntTo L k x : Nat) : Int)) = fun x => Value.int .i64 ((cnt L x : Nat) : Int) := by funext x; unfold cnt; rw [← HN.out]
        rw [← e]; exact hC.out
      clear HC0 HG1 hC
      go_wp2_with fail
      refine (newMemoryA _ _).mono ?_
      rintro e wm ⟨g, eb, kb, rfl, hek, hgs, hes, hks, hgm, hme, hmh, gm⟩
      have HB : Hid (eb ≠ kb ∧ w.heap.size ≤ g ∧ w.heap.size ≤ eb ∧ w.heap.size ≤ kb) := ⟨hek, Nat.le_trans hg.out.size hgs, Nat.le_trans hg.out.size hes, Nat.le_trans hg.out.size hks⟩
      have HM0 : Hid (At wm g (memC k eb kb none none) 63 ∧ mapE wm eb 0 (.map []) ∧ mapH wm kb 0 (.map []) ∧ At wm rc (rowOf h (fun x => .int .i64 (cnt L x))) 3) := ⟨hgm, hme, hmh, HCC.out.keep gm (by simp)⟩
      have HGM : Hid (w.grownBy wm none) := hg.out.trans gm
      clear hek hgs hes hks hgm hme hmh gm hg HCC
      obtain ⟨i42, hi42, hz42, hs42, hb42⟩ := info_parts info42
      obtain ⟨i4, hi4, hz4, hs4, hb4⟩ := info_parts info4
      go_wp2_with (first
        | (at_make; refine wpList_make_full _ rfl _ _ 29 rfl wm.heap.size 42 i42 _ 1 Try.underlying29 hi42 hz42 hs42 .i64 .i64 h h h rfl rfl rfl rfl (by rw [hb42]; omega) (by unfold maxLen; omega) (Nat.le_refl _) ?_; intro w2 hown2 hg2)
        | (at_make; refine wpList_make_full _ rfl _ _ 24 rfl wm.heap.size 4 i4 _ 1 Try.underlying24 hi4 hz4 hs4 .i64 .i64 h h h rfl rfl rfl rfl (by rw [hb4]; omega) (by unfold maxLen; omega) hg2.size ?_; intro w3 hown3 hg3))
      have HP0 : Hid (HPart w w3 L K h kb wm.heap.size rc w2.heap.size 0 (fun _ => none) (fun _ => false) (.map [])) := by
        refine ⟨(HM0.out.2.2.2.keep hg2 (by simp)).keep hg3 (by simp), (at_made rfl hown2).keep hg3 (by simp), ?_, fun x hx => absurd hx (Nat.not_lt_zero _), fun x y hx => absurd hx (Nat.not_lt_zero _), World.ownsMap.kept (World.ownsMap.kept HM0.out.2.2.1 hg2 (by simp)) hg3 (by simp), hinv_zero _ _ _ _⟩
        have := at_made rfl hown3
        rw [rowOf_congr (f' := fun x => .bool (decide (x < 0) && false))] at this
        · exact this
        · intro j _; simp
      have HM3 : Hid (At w3 g (memC k eb kb none none) 63 ∧ mapE w3 eb 0 (.map [])) := ⟨(HM0.out.1.keep hg2 (by simp)).keep hg3 (by simp), World.ownsMap.kept (World.ownsMap.kept HM0.out.2.1 hg2 (by simp)) hg3 (by simp)⟩
      have HG3 : Hid (w.grownBy w3 none) := (HGM.out.trans hg2).trans hg3
      have HRS : Hid (w.heap.size ≤ wm.heap.size ∧ w.heap.size ≤ w2.heap.size) := ⟨HGM.out.size, (HGM.out.trans hg2).size⟩
      generalize wm.heap.size = rh at HP0 HRS
      generalize w2.heap.size = rm at HP0 HRS
      clear hown2 hg2 hown3 hg3 HM0 HGM hi42 hz42 hs42 hb42 hi4 hz4 hs4 hb4
      go_loopw [19, 20, 21] (fun s19 _ _ wq => ∃ (j : Nat) (HP : Nat → Option Nat) (mp : Nat → Bool) (DH : Dt), j ≤ h ∧ s19 = .int .i64 j ∧ Hid (HPart w wq L K h kb rh rc rm j HP mp DH) ∧ Hid (At wq g (memC k eb kb none none) 63 ∧ mapE wq eb 0 (.map [])) ∧ Hid (w.grownBy wq none)) (fun s19 _ _ _ => h - (intOf s19).toNat)
      case atStart => exact ⟨0, _, _, _, Nat.zero_le _, rfl, HP0, HM3, HG3⟩
      case round =>
        obtain ⟨j, HP, mp, DH, hj, rfl, hP, hM, hG⟩ := hrel
        clear HP0 HM3 HG3
        by_cases hlt : j < h
        · have hjk : j < K.length := by have := HH.out; omega
          have hjf : j < F.length := by have := HF.out; omega
          rcases HS2.out with e | ⟨b2, off2, rfl, hbw2, hc2⟩
          · rw [e] at hjk; simp at hjk
          · rcases HS3.out with e | ⟨b3, off3, rfl, hbw3, hc3⟩
            · rw [e] at hjf; simp at hjf
            · have k2 : wr.cell? ⟨b2, off2 + j, none⟩ = some (.string K[j]!) := hG.out.cell (hc2 j hjk) (by simp)
              have k3 : wr.cell? ⟨b3, off3 + j, none⟩ = some (.bool F[j]!) := hG.out.cell (hc3 j hjf) (by simp)
              have kc : wr.cell? ⟨rc, j, none⟩ = some (.int .i64 (cnt L j)) := hP.out.rowC.cell j (rowOf_get _ hlt)
              have kh : wr.cell? ⟨rh, j, none⟩ = some (.pointer ((HP j).map pt)) := hP.out.rowH.cell j (rowOf_get _ hlt)
              have zh := hP.out.rowH.frz j
              have q2 : b2 < wr.heap.size := Nat.lt_of_lt_of_le hbw2 hG.out.size
              have q3 : b3 < wr.heap.size := Nat.lt_of_lt_of_le hbw3 hG.out.size
              have qc := hP.out.rowC.lt
              have qh := hP.out.rowH.lt
              have hks : K[j]!.size ≤ 1048576 := HSM.out j hjk
              have hcle : cnt L j ≤ 65536 := Nat.le_trans (cntTo_le L _ j) (by have := HN.out; omega)
              clear hc2 hc3
              generalize hKj : K[j]! = s at k2 hks
              have HKJ : Hid (K[j]! = s) := hKj
              generalize hCj : cnt L j = q at kc hcle
              have HCJ : Hid (cnt L j = q) := hCj
              generalize F[j]! = fj at k3
              generalize (HP j).map pt = oldp at kh
              clear hKj hCj hjk hjf
              have y0 : (0 : Int) ≤ (j : Int) := by omega
              have y1 : (j : Int) < (h : Int) := by omega
              have nr2 : b2 ≠ rh := by have := HRS.out.1; omega
              have nr3 : b3 ≠ rh := by have := HRS.out.1; omega
              have nrc : rc ≠ rh := hP.out.rowC.ne hP.out.rowH (by decide)
              go_wp2_with fail
              go_region_held3 (fun w' => w'.cell? ⟨b2, off2 + j, none⟩ = some (.string s) ∧ w'.cell? ⟨rc, j, none⟩ = some (.int .i64 q)) (simp [*, go_sem])
                ((go_at_call 20; refine (newHolder_calls _ _ _).mono ?_; rintro e w' ⟨rfl, rfl⟩))
              refine any_world (Q := Exit.then _ _ _ _) (fun W => HPart w W L K h kb rh rc rm j (upd HP j (some wr.heap.size)) mp DH ∧ At W wr.heap.size (holdC K[j]! (cnt L j)) 77 ∧ Turn wr W (fun k => k = rh) ∧ (∀ x, x < j → upd HP j (some wr.heap.size) x ≠ some wr.heap.size)) (hP.out.newH HKJ.out HCJ.out rfl) ?_
              rintro W1 ⟨p1, p2, p3, p4⟩
              have hG1 : Hid (w.grownBy W1 none) := below_grown ((grown_below hG.out).trans (p3.below (Nat.le_trans hG.out.size (Nat.le_refl _)) (fun k hk => by have := HRS.out.1; omega)))
              have hM1 : Hid (At W1 g (memC k eb kb none none) 63 ∧ mapE W1 eb 0 (.map [])) := ⟨p3.at hM.out.1 (hM.out.1.ne hP.out.rowH (by decide)), p3.map hM.out.2 (fun e => hP.out.rowH.ne_map hM.out.2 e.symm)⟩
              have hnb : Hid (w.heap.size ≤ wr.heap.size) := hG.out.size
              have k3' : W1.cell? ⟨b3, off3 + j, none⟩ = some (.bool fj) := (cell_turn p3 q3 nr3).trans k3
              have k2' : W1.cell? ⟨b2, off2 + j, none⟩ = some (.string s) := (cell_turn p3 q2 nr2).trans k2
              have kc' : W1.cell? ⟨rc, j, none⟩ = some (.int .i64 q) := (cell_turn p3 qc nrc).trans kc
              have kh' : W1.cell? ⟨rh, j, none⟩ = some (.pointer (some ⟨wr.heap.size, 0, none⟩)) := by
                have := p1.rowH.cell j (rowOf_get _ hlt)
                simpa [upd_same] using this
              generalize wr.heap.size = nb at p1 p2 p4 hnb kh'
              generalize hHP' : upd HP j (some nb) = HP' at p1 p4
              have hHPj : Hid (HP' j = some nb) := by rw [← hHP']; exact upd_same HP j _
              have P1 : Hid (HPart w W1 L K h kb rh rc rm j HP' mp DH) := p1
              have P2 : Hid (At W1 nb (holdC K[j]! (cnt L j)) 77) := p2
              have P4 : Hid (∀ x, x < j → HP' x ≠ some nb) := p4
              have km' : W1.cell? ⟨rm, j, none⟩ = some (.bool (decide (j < j) && mp j)) := p1.rowM.cell j (rowOf_get _ hlt)
              clear k2 k3 kc kh zh q2 q3 qc qh nr2 nr3 nrc p1 p2 p3 p4 hG hM hP hHP'
              have SK : Hid (HPart w W1 L K h kb rh rc rm (j + 1) HP' (upd mp j false) DH) := P1.out.skip P2.out hHPj.out hnb.out P4.out
              cases fj with
              | false =>
                go_wp2_with fail
                go_roundw
                case rel => exact ⟨j + 1, HP', upd mp j false, DH, by omega, by go_num, SK, hM1, hG1⟩
                case measure => simp [intOf]; omega
              | true =>
                by_cases hq0 : q = 0
                · subst hq0
                  go_wp2_with fail
                  go_roundw
                  case rel => exact ⟨j + 1, HP', upd mp j false, DH, by omega, by go_num, SK, hM1, hG1⟩
                  case measure => simp [intOf]; omega
                · have hq1 : (0 : Int) < (q : Int) := by omega
                  have hq2 : 0 < q := by omega
                  obtain ⟨o, ho1, ho2, ho3⟩ := P1.out.look j
                  have hcall := holderByKey_calls g eb kb j k none none DH K[j]! (by rw [HKJ.out]; unfold maxLen; omega) o ho1 ho2 W1 hM1.out.1 P1.out.mH
                  rw [HKJ.out] at hcall
                  have HCL := hidI hcall
                  have HO1 : Hid (Maps.has DH (sk K[j]!) = o.isSome) := ho1
                  clear hcall ho1 ho2 ho3
                  cases o with
                  | some x =>
                    go_wp2_with fail
                    refine HCL.out.mono ?_
                    rintro e w' ⟨rfl, rfl⟩
                    go_wp2_with fail
                    go_roundw
                    case rel => exact ⟨j + 1, HP', upd mp j false, DH, by omega, by go_num, SK, hM1, hG1⟩
                    case measure => simp [intOf]; omega
                  | none =>
                    go_wp2_with fail
                    refine HCL.out.mono ?_
                    rintro e w' ⟨rfl, rfl⟩
                    have hput := putHolder_calls g eb kb nb j k (cnt L j) none none K[j]! DH W1 hM1.out.1 P2.out P1.out.mH (by omega) (by rw [HKJ.out]; unfold maxLen; omega)
                    have HPU := hidI hput
                    clear hput
                    go_wp2_with fail
                    refine HPU.out.mono ?_
                    rintro e w5 ⟨rfl, hm5, hg5⟩
                    have RR : Hid (HPart w (w5.setCell ⟨rm, j, none⟩ (.bool true)) L K h kb rh rc rm (j + 1) HP' (upd mp j true) (DH.put (sk K[j]!) (.lit (.int .i64 nb)))) := P1.out.put P2.out hHPj.out hnb.out P4.out (by rw [HKJ.out]; unfold maxLen; omega) HO1.out (by rw [HCJ.out]; exact hq2) hm5 hg5
                    have hg5m : w5.cell? ⟨rm, j, none⟩ = some (.bool (decide (j < j) && mp j)) := hg5.cell km' (by simpa using P1.out.rowM.ne_map P1.out.mH)
                    have zm : w5.frozen? ⟨rm, j, none⟩ = false := (P1.out.rowM.keep hg5 (by simpa using P1.out.rowM.ne_map P1.out.mH)).frz j
                    have RM : Hid (At (w5.setCell ⟨rm, j, none⟩ (.bool true)) g (memC k eb kb none none) 63 ∧ mapE (w5.setCell ⟨rm, j, none⟩ (.bool true)) eb 0 (.map [])) := ⟨(hM1.out.1.keep hg5 (by simpa using hM1.out.1.ne_map P1.out.mH)).other (hM1.out.1.ne P1.out.rowM (by decide)) _, World.ownsMap.setCell (World.ownsMap.kept hM1.out.2 hg5 (by simpa using HB.out.1)) (fun e => P1.out.rowM.ne_map hM1.out.2 e.symm) _⟩
                    have RG : Hid (w.grownBy (w5.setCell ⟨rm, j, none⟩ (.bool true)) none) := (hG1.out.andThen hg5 (fun x hx => by cases hx; exact .inl HB.out.2.2.2)).andThen (grown_set w5 _ _) (fun x hx => by cases hx; exact .inl HRS.out.2)
                    clear hm5 hg5 km'
                    go_wp2_with fail
                    go_roundw
                    case rel => exact ⟨j + 1, HP', upd mp j true, _, by omega, by go_num, RR, RM, RG⟩
                    case measure => simp [intOf]; omega
        · have hjh : j = h := by omega
          subst hjh
          have hlz2 : ¬ (j : Int) < (j : Int) := by omega
          obtain ⟨i32, hi32, hz32, hs32, hb32⟩ := info_parts info32
          go_wp2_with (at_make; refine wpList_make_full _ rfl _ _ 28 rfl wr.heap.size 32 i32 _ 1 Try.underlying28 hi32 hz32 hs32 .i64 .i64 k k k rfl rfl rfl rfl (by rw [hb32]; omega) (by unfold maxLen; omega) (Nat.le_refl _) ?_; intro w6 hown6 hg6)
          have HPA : Hid (HPart w w6 L K j kb rh rc rm j HP mp DH) := hP.out.grow hg6
          have HNA : Hid (NPart w w6 L k eb wr.heap.size 0 HP (fun _ => none) (.map [])) := ⟨at_made rfl hown6, fun x hx => absurd hx (Nat.not_lt_zero _), World.ownsMap.kept hM.out.2 hg6 (by simp), einv_zero _⟩
          have HMA : Hid (At w6 g (memC k eb kb none none) 63) := hM.out.1.keep hg6 (by simp)
          have HGA : Hid (w.grownBy w6 none) := hG.out.trans hg6
          have HRN : Hid (w.heap.size ≤ wr.heap.size) := hG.out.size
          generalize wr.heap.size = rn at HNA HRN
          clear hown6 hg6 hi32 hz32 hs32 hb32 hP hM hG
          go_loopw [23] (fun s23 wq => ∃ (i : Nat) (NP : Nat → Option Nat) (DE : Dt), i ≤ k ∧ s23 = .int .i64 i ∧ Hid (HPart w wq L K j kb rh rc rm j HP mp DH) ∧ Hid (NPart w wq L k eb rn i HP NP DE) ∧ Hid (At wq g (memC k eb kb none none) 63) ∧ Hid (w.grownBy wq none)) (fun s23 _ => k - (intOf s23).toNat)
          case atStart => exact ⟨0, _, _, Nat.zero_le _, rfl, HPA, HNA, HMA, HGA⟩
          case round =>
            obtain ⟨i, NP, DE, hik, rfl, hP, hN, hM, hG⟩ := hrel
            clear HPA HNA HMA HGA
            by_cases hlti : i < k
            · have hil : i < L.length := by have := HN.out; omega
              have hnm := HNM.out i hil
              rcases HS1.out with e | ⟨b1, off1, rfl, hbw1, hc1⟩
              · rw [e] at hil; simp at hil
              · have k1 : wr.cell? ⟨b1, off1 + i, none⟩ = some (.int .i64 L[i]!) := hG.out.cell (hc1 i hil) (by simp)
                obtain ⟨xn, hxn⟩ : ∃ xn : Nat, L[i]! = (xn : Int) := ⟨L[i]!.toNat, by omega⟩
                rw [hxn] at k1 hnm
                have hxh : xn < j := by omega
                have HXN : Hid (L[i]!.toNat = xn) := by rw [hxn]; rfl
                obtain ⟨hb, hb1, hb2, hb3⟩ := hP.out.hold xn hxh
                have HHB : Hid (HP xn = some hb) := hb1
                have kh : wr.cell? ⟨rh, xn, none⟩ = some (.pointer (some ⟨hb, 0, none⟩)) := by
                  have := hP.out.rowH.cell xn (rowOf_get _ hxh)
                  simpa [hb1] using this
                have kn : wr.cell? ⟨rn, i, none⟩ = some (.pointer ((NP i).map pt)) := hN.out.rowN.cell i (rowOf_get _ hlti)
                have zn := hN.out.rowN.frz i
                have q1 : b1 < wr.heap.size := Nat.lt_of_lt_of_le hbw1 hG.out.size
                have qh := hP.out.rowH.lt
                have qn := hN.out.rowN.lt
                have hi16 : i < 65536 := by omega
                have nr1 : b1 ≠ rn := by have := HRN.out; omega
                have nrh : rh ≠ rn := hP.out.rowH.ne hN.out.rowN (by decide)
                generalize (NP i).map pt = oldp at kn
                clear hc1 hb1 hb2 hb3 hnm hxn hil
                have y0 : (0 : Int) ≤ (i : Int) := by omega
                have y1 : (i : Int) < (k : Int) := by omega
                have y2 : (0 : Int) ≤ (xn : Int) := by omega
                have y3 : (xn : Int) < (j : Int) := by omega
                go_wp2_with fail
                go_region_held3 (fun w' => w'.cell? ⟨b1, off1 + i, none⟩ = some (.int .i64 xn) ∧ w'.cell? ⟨rh, xn, none⟩ = some (.pointer (some ⟨hb, 0, none⟩))) (simp [*, go_sem])
                  ((first
                    | (go_at_call 11; refine (digest_calls i _ hi16).mono ?_; rintro e wd ⟨rfl, hgd⟩; have md1 := hgd.cell (a := ⟨b1, off1 + i, none⟩) (v := .int .i64 xn) (by simp [*, go_sem]) (by simp); have md2 := hgd.cell (a := ⟨rh, xn, none⟩) (v := .pointer (some ⟨hb, 0, none⟩)) (by simp [*, go_sem]) (by simp); have md3 := hgd.cell (a := ⟨rn, i, none⟩) (v := .pointer oldp) (by simp [*, go_sem]) (by simp); have zd3 := (hN.out.rowN.keep (undrew hgd) (by simp)).frz i; have sd1 := Nat.lt_of_lt_of_le q1 hgd.size; have sd2 := Nat.lt_of_lt_of_le qh hgd.size; have sd3 := Nat.lt_of_lt_of_le qn hgd.size)
                    | (go_at_call 22; refine (newRemembered_calls i hb _).mono ?_; rintro e wn ⟨rfl, rfl⟩)))
                obtain ⟨p1, p2, p3, p4⟩ := hN.out.newN (hb := hb) hgd rfl
                have W1all := (rfl : (((wd.setCell ⟨rn, i, none⟩ (.pointer (some ⟨wd.heap.size + 1, 0, none⟩))).alloc (.cells (dg i) 37)).alloc (.cells (nodeC i none none hb) 66)) = _)
                refine any_world (Q := Exit.then _ _ _ _) (fun W => NPart w W L k eb rn i HP (upd NP i (some (wd.heap.size + 1))) DE ∧ At W (wd.heap.size + 1) (nodeC i none none hb) 66 ∧ Turn wr W (fun k => k = rn)) ⟨p1, p2, p3⟩ ?_
                clear p1 p2 p3 W1all
                rintro W1 ⟨p1, p2, p3⟩
                have hG1 : Hid (w.grownBy W1 none) := below_grown ((grown_below hG.out).trans (p3.below (Nat.le_trans hG.out.size (Nat.le_refl _)) (fun k hk => by have := HRN.out; omega)))
                have hM1 : Hid (At W1 g (memC k eb kb none none) 63) := p3.at hM.out (hM.out.ne hN.out.rowN (by decide))
                have hP1 : Hid (HPart w W1 L K j kb rh rc rm j HP mp DH) := hP.out.turn p3 (fun x hx => .inr (.inl (by cases hx; exact ⟨_, hN.out.rowN⟩)))
                have hnb : Hid (w.heap.size ≤ wd.heap.size + 1) := Nat.le_trans hG.out.size p4
                have kn' : W1.cell? ⟨rn, i, none⟩ = some (.pointer (some ⟨wd.heap.size + 1, 0, none⟩)) := by
                  have := p1.rowN.cell i (rowOf_get _ hlti)
                  simpa [upd_same] using this
                clear md1 md2 md3 zd3 sd1 sd2 sd3
                generalize wd.heap.size + 1 = nb at p1 p2 hnb kn'
                generalize hNP' : upd NP i (some nb) = NP' at p1
                have hNPi : Hid (NP' i = some nb) := by rw [← hNP']; exact upd_same NP i _
                have P1 : Hid (NPart w W1 L k eb rn i HP NP' DE) := p1
                have hput := putEntry_calls g eb kb nb hb i i k none none none none DE W1 hM1.out p2 p1.mE (by omega)
                have HPU := hidI hput
                have PN : Hid (∀ W2, mapE W2 eb (i + 1) (DE.put (kd i) (.lit (.int .i64 nb))) → W1.grownBy W2 (some eb) → NMid w W2 L k eb rn i nb hb HP NP' (DE.put (kd i) (.lit (.int .i64 nb)))) := fun W2 h1 h2 => p1.put hi16 hNPi.out hnb.out (by rw [HXN.out]; exact HHB.out) p2 h1 h2
                clear hput p1 p2 p3 p4 hgd hN hP hM hG k1 kh kn zn q1 qh qn nr1 nrh hNP'
                go_wp2_with fail
                refine HPU.out.mono ?_
                rintro e w5 ⟨rfl, hm5, hg5⟩
                have MID : Hid (NMid w w5 L k eb rn i nb hb HP NP' (DE.put (kd i) (.lit (.int .i64 nb)))) := PN.out w5 hm5 hg5
                have hG5 : Hid (w.grownBy w5 none) := hG1.out.andThen hg5 (fun x hx => by cases hx; exact .inl HB.out.2.2.1)
                have hM5 : Hid (At w5 g (memC k eb kb none none) 63) := hM1.out.keep hg5 (by simpa using hM1.out.ne_map P1.out.mE)
                have hP5 : Hid (HPart w w5 L K j kb rh rc rm j HP mp DH) := hP1.out.turn (ex := fun x => x = eb) (Turn.of_grown hg5 (fun x hx => by cases hx; rfl)) (fun x hx => .inr (.inr (.inr (by rw [hx]; exact ⟨HB.out.1, map_not_at P1.out.mE⟩))))
                generalize DE.put (kd i) (.lit (.int .i64 nb)) = DE' at MID
                clear hm5 hg5 PN HPU hG1 hM1 hP1 P1 kn'
                by_cases hi0 : i = 0
                · subst hi0
                  have hz0 : ¬ (0 : Int) < ((0 : Nat) : Int) := by omega
                  go_wp2_with fail
                  go_roundw
                  case rel => exact ⟨1, NP', DE', by omega, by go_num, hP5, MID.out.first, hM5, hG5⟩
                  case measure => simp [intOf]; omega
                · obtain ⟨ip, hip⟩ : ∃ ip, i = ip + 1 := ⟨i - 1, by omega⟩
                  have MID' : NMid w w5.drew L k eb rn i nb hb HP NP' DE' := ⟨MID.out.rowN, MID.out.node, MID.out.last, MID.out.mE, MID.out.einv⟩
                  obtain ⟨a, ha, h1, h2, h3, h4, h5⟩ := MID'.prev' hip hi16
                  have LK : Hid (NPart w ((w5.drew.setCell ⟨a, 33, none⟩ (.pointer (some ⟨nb, 0, none⟩))).setCell ⟨nb, 32, none⟩ (.pointer (some ⟨a, 0, none⟩))) L k eb rn (i + 1) HP NP' DE') := MID'.linked' hip hi16 h1 h2 h3 h4 h5
                  have TT : Turn w5 ((w5.drew.setCell ⟨a, 33, none⟩ (.pointer (some ⟨nb, 0, none⟩))).setCell ⟨nb, 32, none⟩ (.pointer (some ⟨a, 0, none⟩))) (fun x => x = a ∨ x = nb) := (Turn.trans (w := w5) (w' := w5.drew) (Turn.of_like ⟨rfl, rfl, rfl, rfl⟩) (Turn.set _ _ _ (.inl rfl))).trans (Turn.set _ _ _ (.inr rfl))
                  have LP : Hid (HPart w ((w5.drew.setCell ⟨a, 33, none⟩ (.pointer (some ⟨nb, 0, none⟩))).setCell ⟨nb, 32, none⟩ (.pointer (some ⟨a, 0, none⟩))) L K j kb rh rc rm j HP mp DH) := hP5.out.turn TT (fun x hx => .inl (by rcases hx with hx | hx <;> subst hx; exact ⟨_, h5⟩; exact ⟨_, MID.out.last.2.2.2⟩))
                  have LM : Hid (At ((w5.drew.setCell ⟨a, 33, none⟩ (.pointer (some ⟨nb, 0, none⟩))).setCell ⟨nb, 32, none⟩ (.pointer (some ⟨a, 0, none⟩))) g (memC k eb kb none none) 63) := TT.at hM5.out (by rintro (e | e); exact hM5.out.ne (w := w5) h5 (by decide) e; exact hM5.out.ne MID.out.last.2.2.2 (by decide) e)
                  have LG : Hid (w.grownBy ((w5.drew.setCell ⟨a, 33, none⟩ (.pointer (some ⟨nb, 0, none⟩))).setCell ⟨nb, 32, none⟩ (.pointer (some ⟨a, 0, none⟩))) none) := below_grown ((grown_below hG5.out).trans (TT.below hG5.out.size (by rintro x (e | e) <;> subst e; exact h2; exact MID.out.last.2.1)))
                  have HLC := hidI (link_calls a nb ip i ha hb ((nwA NP' ip).map pt) none none none w5.drew h5 MID'.last.2.2.2 h3)
                  have kp : w5.cell? ⟨rn, ip, none⟩ = some (.pointer (some ⟨a, 0, none⟩)) := by
                    have := MID.out.rowN.cell ip (rowOf_get _ (by omega))
                    simpa [h1] using this
                  have kq : w5.cell? ⟨rn, i, none⟩ = some (.pointer (some ⟨nb, 0, none⟩)) := by
                    have := MID.out.rowN.cell i (rowOf_get _ hlti)
                    simpa [MID.out.last.1] using this
                  have ra : rn ≠ a := MID.out.rowN.ne (w := w5) h5 (by decide)
                  have rb : rn ≠ nb := MID.out.rowN.ne MID.out.last.2.2.2 (by decide)
                  clear MID' h1 h2 h4 h5 MID TT hP5 hM5 hG5
                  have zp : (0 : Int) < (i : Int) := by omega
                  have zq1 : IntKind.i64.wrap ((i : Int) - 1) = (i : Int) - 1 := wrap_small _ (by omega) (by omega)
                  have zq2 : (0 : Int) ≤ (i : Int) - 1 := by omega
                  have zq3 : (i : Int) - 1 < (k : Int) := by omega
                  have zq4 : ((i : Int) - 1).toNat = ip := by omega
                  have zr1 : (1 : Int) ≤ (i : Int) := by omega
                  have zr2 : (i : Int) ≤ (k : Int) := by omega
                  have zr3 : 1 ≤ i := by omega
                  have zr4 : 0 < i := by omega
                  have zr5 : (i : Int) < (k : Int) + 1 := by omega
                  have zp2 : (0 : Int) ≤ (ip : Int) := by omega
                  have zp3 : (ip : Int) < (k : Int) := by omega
                  clear hip
                  go_wp2_with fail
                  go_region_held3 (fun w' => w'.cell? ⟨rn, ip, none⟩ = some (.pointer (some ⟨a, 0, none⟩)) ∧ w'.cell? ⟨rn, i, none⟩ = some (.pointer (some ⟨nb, 0, none⟩))) (simp [*, go_sem])
                    ((go_at_call 24; refine HLC.out.mono ?_; rintro e w7 ⟨rfl, rfl⟩))
                  go_wp2_with fail
                  go_roundw
                  case rel => exact ⟨i + 1, NP', DE', by omega, by go_num, LP, LK, LM, LG⟩
                  case measure => simp [intOf]; omega
            · have hkk : i = k := by omega
              subst hkk
              have hlz3 : ¬ (i : Int) < (i : Int) := by omega
              by_cases hi0 : i = 0
              · subst hi0
                have BB : Hid (Built w wr L K 0 j g eb kb rn rh rc rm HP NP mp DE DH) := ⟨hG.out, HB.out.1, HB.out.2.1, HB.out.2.2.1, HB.out.2.2.2, hM.out, hP.out, hN.out⟩
                clear hG hM hP hN
                go_wp2_with fail
                refine bodyPost_ret (results_tmp5 rfl _ _ _) rfl ?_
                exact ⟨g, eb, kb, rn, rh, rc, rm, HP, NP, mp, DE, DH, rfl, BB.out⟩
              · obtain ⟨f0, h0, e0, s0, -, -⟩ := hN.out.node 0 (by omega)
                obtain ⟨ip, hip⟩ : ∃ ip, i = ip + 1 := ⟨i - 1, by omega⟩
                obtain ⟨f1, h1, e1, s1, -, -⟩ := hN.out.node ip (by omega)
                have k0 : wr.cell? ⟨rn, 0, none⟩ = some (.pointer (some ⟨f0, 0, none⟩)) := by
                  have := hN.out.rowN.cell 0 (rowOf_get _ (by omega))
                  simpa [e0] using this
                have k1 : wr.cell? ⟨rn, ip, none⟩ = some (.pointer (some ⟨f1, 0, none⟩)) := by
                  have := hN.out.rowN.cell ip (rowOf_get _ (by omega))
                  simpa [e1] using this
                have TT : Turn wr ((wr.drew.setCell ⟨g, 4, none⟩ (.pointer (some ⟨f0, 0, none⟩))).setCell ⟨g, 5, none⟩ (.pointer (some ⟨f1, 0, none⟩))) (fun x => x = g) := (Turn.trans (w := wr) (w' := wr.drew) (Turn.of_like ⟨rfl, rfl, rfl, rfl⟩) (Turn.set (ex := fun x => x = g) wr.drew ⟨g, 4, none⟩ _ rfl)).trans (Turn.set (ex := fun x => x = g) _ ⟨g, 5, none⟩ _ rfl)
                have LP : HPart w ((wr.drew.setCell ⟨g, 4, none⟩ (.pointer (some ⟨f0, 0, none⟩))).setCell ⟨g, 5, none⟩ (.pointer (some ⟨f1, 0, none⟩))) L K j kb rh rc rm j HP mp DH := hP.out.turn TT (fun x hx => .inr (.inr (.inl (by cases hx; exact ⟨_, hM.out⟩))))
                have LN : NPart w ((wr.drew.setCell ⟨g, 4, none⟩ (.pointer (some ⟨f0, 0, none⟩))).setCell ⟨g, 5, none⟩ (.pointer (some ⟨f1, 0, none⟩))) L i eb rn i HP NP DE := ⟨TT.at hN.out.rowN (hN.out.rowN.ne hM.out (by decide)), fun x hx => by obtain ⟨b, hb, g1, g2, g3, g4⟩ := hN.out.node x hx; exact ⟨b, hb, g1, g2, g3, TT.at g4 (g4.ne hM.out (by decide))⟩, TT.map hN.out.mE (fun e => hM.out.ne_map hN.out.mE e.symm), hN.out.einv⟩
                have LG : w.grownBy ((wr.drew.setCell ⟨g, 4, none⟩ (.pointer (some ⟨f0, 0, none⟩))).setCell ⟨g, 5, none⟩ (.pointer (some ⟨f1, 0, none⟩))) none := below_grown ((grown_below hG.out).trans (TT.below hG.out.size (fun x hx => by cases hx; exact HB.out.2.1)))
                have LM : At ((wr.drew.setCell ⟨g, 4, none⟩ (.pointer (some ⟨f0, 0, none⟩))).setCell ⟨g, 5, none⟩ (.pointer (some ⟨f1, 0, none⟩))) g (memC i eb kb ((if i = 0 then none else NP 0).map pt) ((if i = 0 then none else NP (i - 1)).map pt)) 63 := by
                  rw [if_neg hi0, if_neg hi0, e0, show i - 1 = ip by omega, e1]
                  exact (At.set (w := wr.drew) hM.out 4 _).set 5 _
                have BB : Hid (Built w ((wr.drew.setCell ⟨g, 4, none⟩ (.pointer (some ⟨f0, 0, none⟩))).setCell ⟨g, 5, none⟩ (.pointer (some ⟨f1, 0, none⟩))) L K i j g eb kb rn rh rc rm HP NP mp DE DH) := ⟨LG, HB.out.1, HB.out.2.1, HB.out.2.2.1, HB.out.2.2.2, LM, LP, LN⟩
                have HSE := hidI (setEnds_calls g eb kb i none none (some ⟨f0, 0, none⟩) (some ⟨f1, 0, none⟩) wr.drew hM.out)
                have rg : rn ≠ g := hN.out.rowN.ne hM.out (by decide)
                have zp : (0 : Int) < (i : Int) := by omega
                have zq1 : IntKind.i64.wrap ((i : Int) - 1) = (i : Int) - 1 := wrap_small _ (by omega) (by omega)
                have zq2 : (0 : Int) ≤ (i : Int) - 1 := by omega
                have zq3 : (i : Int) - 1 < (i : Int) := by omega
                have zq4 : ((i : Int) - 1).toNat = ip := by omega
                have zr1 : (1 : Int) ≤ (i : Int) := by omega
                have zr3 : 1 ≤ i := by omega
                have zr4 : 0 < i := by omega
                have zr5 : (i : Int) < (i : Int) + 1 := by omega
                clear hG hM hP hN LP LN LG LM TT hip e0 e1 s0 s1
                go_wp2_with fail
                go_region_held3 (fun w' => w'.cell? ⟨rn, 0, none⟩ = some (.pointer (some ⟨f0, 0, none⟩)) ∧ w'.cell? ⟨rn, ip, none⟩ = some (.pointer (some ⟨f1, 0, none⟩))) (simp [*, go_sem])
                  ((go_at_call 25; refine HSE.out.mono ?_; rintro e w7 ⟨rfl, rfl⟩))
                go_wp2_with fail
                refine bodyPost_ret (results_tmp5 rfl _ _ _) rfl ?_
                exact ⟨g, eb, kb, rn, rh, rc, rm, HP, NP, mp, DE, DH, rfl, BB.out⟩
end Go.Proofs.Qxb6613886a
