/-
  The memory when token v has been dropped.
-/
import Derived.Test.Qxb6613886aMemI
namespace Go.Proofs.Qxb6613886a
open Go.RowKit Go.ChangeMaps Go.MapKept

/-- A token's newer and older neighbour when v is gone. -/
def nwB (NP : Nat → Option Nat) (v x : Nat) : Option Nat := if x = v + 1 then nwA NP v else nwA NP x
def olB (NP : Nat → Option Nat) (n v x : Nat) : Option Nat := if x + 1 = v then olA NP n v else olA NP n x
/-- How many tokens name holder x when v is gone. -/
def left (L : List Int) (v x : Nat) : Nat := cnt L x - (if L[v]! = (x : Int) then 1 else 0)

/-- What is known when token v has been dropped. -/
structure Final (w0 w : World) (L : List Int) (K : List ByteArray) (n h v g eb kb rn rh rc rm : Nat) (HP NP : Nat → Option Nat) (mp : Nat → Bool) (DE DH : Dt) : Prop where
  below : Below w0.heap.size w0 w
  mem : At w g (memC n eb kb ((if nwA NP v = none then olA NP n v else NP 0).map pt) ((if olA NP n v = none then nwA NP v else NP (n - 1)).map pt)) 63
  rowN : At w rn (rowOf n (fun x => .pointer ((NP x).map pt))) 32
  rowH : At w rh (rowOf h (fun x => .pointer ((HP x).map pt))) 42
  rowC : At w rc (rowOf h (fun x => .int .i64 (cnt L x))) 3
  rowM : At w rm (rowOf h (fun x => .bool (mp x))) 4
  gone : ∃ b hb, NP v = some b ∧ At w b (nodeC v none none hb) 66
  node : ∀ x, x < n → x ≠ v → ∃ b hb, NP x = some b ∧ At w b (nodeC x ((nwB NP v x).map pt) ((olB NP n v x).map pt) hb) 66
  hold : ∀ x, x < h → ∃ b, HP x = some b ∧ At w b (holdC K[x]! (left L v x)) 77
  mE : mapE w eb n (DE.del (kd v))
  mH : mapH w kb h (if cnt L (L[v]!.toNat) = 1 ∧ mp (L[v]!.toNat) = true then DH.del (sk K[L[v]!.toNat]!) else DH)
  einv : EInv NP n DE
  hinv : HInv K (cnt L) HP mp h DH
  tE : Maps.Tidy DE
  tH : Maps.Tidy DH

theorem dropB (w0 w : World) (L : List Int) (K : List ByteArray) (n h v g eb kb rn rh rc rm : Nat) (HP NP : Nat → Option Nat) (mp : Nat → Bool) (DE DH : Dt) (B : Built w0 w L K n h g eb kb rn rh rc rm HP NP mp DE DH)
    (hn : n = L.length) (hh : h = K.length) (ln : n ≤ 65536) (hnm : Names L h) (hsm : Small K) (hv : v < n) :
    ∃ b, NP v = some b ∧ Calls Try.prog 8 #[.pointer (some ⟨g, 0, none⟩), .pointer (some ⟨b, 0, none⟩)] w fun e w' => e = .returned (.tuple #[]) ∧ Final w0 w' L K n h v g eb kb rn rh rc rm HP NP mp DE DH := by
  have hvl : v < L.length := by omega
  obtain ⟨vh, hvh⟩ : ∃ vh : Nat, L[v]! = (vh : Int) := ⟨L[v]!.toNat, by have := hnm v hvl; omega⟩
  have hvhh : vh < h := by have := (hnm v hvl).2; omega
  have htn : L[v]!.toNat = vh := by rw [hvh]; rfl
  obtain ⟨b, hb, e1, s1, e2, ab⟩ := B.np.node v hv
  rw [htn] at e2
  obtain ⟨hb', e3, s3, ah⟩ := B.hp.hold vh hvhh
  rw [e2] at e3
  cases e3
  have hinj : ∀ {x y : Nat}, x < n → y < n → NP x = NP y → x = y := fun hx hy h => B.np.inj ln hx hy h
  have hcnt1 : 0 < cnt L vh := cnt_pos_of L (Nat.le_refl _) (v := v) (by omega) hvh
  have hcnt2 : cnt L vh ≤ 65536 := Nat.le_trans (cntTo_le L _ vh) (by omega)
  have nwS : ∀ a, nwA NP v = some a → ∃ x, x < n ∧ x + 1 = v ∧ NP x = some a := fun a h => by
    unfold nwA at h
    by_cases e : v = 0
    · rw [if_pos e] at h; cases h
    · rw [if_neg e] at h; exact ⟨v - 1, by omega, by omega, h⟩
  have olS : ∀ a, olA NP n v = some a → ∃ x, x < n ∧ x = v + 1 ∧ NP x = some a := fun a h => by
    unfold olA at h
    by_cases e : v + 1 < n
    · rw [if_pos e] at h; exact ⟨v + 1, e, rfl, h⟩
    · rw [if_neg e] at h; cases h
  have hN : ∀ a, nwA NP v = some a → a ≠ b ∧ ∃ ia na oa ha, At w a (nodeC ia na oa ha) 66 := fun a h => by
    obtain ⟨x, hx, hxv, hxa⟩ := nwS a h
    obtain ⟨b', hb', g1, -, -, g4⟩ := B.np.node x hx
    rw [hxa] at g1; cases g1
    exact ⟨fun e => by subst e; have := hinj hx hv (hxa.trans e1.symm); omega, _, _, _, _, g4⟩
  have hO : ∀ a, olA NP n v = some a → a ≠ b ∧ ∃ ia na oa ha, At w a (nodeC ia na oa ha) 66 := fun a h => by
    obtain ⟨x, hx, hxv, hxa⟩ := olS a h
    obtain ⟨b', hb', g1, -, -, g4⟩ := B.np.node x hx
    rw [hxa] at g1; cases g1
    exact ⟨fun e => by subst e; have := hinj hx hv (hxa.trans e1.symm); omega, _, _, _, _, g4⟩
  have hNO : ∀ a c, nwA NP v = some a → olA NP n v = some c → a ≠ c := fun a c h1 h2 e => by
    obtain ⟨x, hx, hxv, hxa⟩ := nwS a h1
    obtain ⟨y, hy, hyv, hya⟩ := olS c h2
    subst e
    have := hinj hx hy (hxa.trans hya.symm)
    omega
  obtain ⟨o, ho1, ho2, ho3⟩ := B.hp.look vh
  have hks : K[vh]!.size ≤ maxLen := by have := hsm vh (by omega); unfold maxLen; omega
  have hpl : ∀ x, o = some x → ∃ s' n', At w x (holdC s' n') 77 := fun x hx => by
    obtain ⟨y, hy, -, -, hy2⟩ := ho3 x hx
    obtain ⟨b', g1, -, g3⟩ := B.hp.hold y hy
    rw [hy2] at g1; cases g1
    exact ⟨_, _, g3⟩
  have hoB : o = some hb ↔ mp vh = true := by
    constructor
    · intro h'
      obtain ⟨y, hy, hm, -, hy2⟩ := ho3 hb h'
      have := B.hp.hinj y vh hy hvhh (hy2.trans e2.symm)
      rw [← this]; exact hm
    · intro hm
      obtain ⟨g1, b', g2, g3⟩ := B.hp.hinv.hit vh hvhh hm
      rw [e2] at g2; cases g2
      cases o with
      | none => rw [g1] at ho1; cases ho1
      | some z =>
        obtain ⟨y, hy, hmy, hky, hy2⟩ := ho3 z rfl
        have := B.hp.hinv.uniq y vh hy hvhh hmy hm hky
        rw [this, e2] at hy2
        exact hy2.symm
  have hcall := drop_calls g eb kb b v hb n h n (cnt L vh) _ _ (nwA NP v) (olA NP n v) o K[vh]! DE DH w hks ⟨by omega, by omega⟩ B.hek B.mem ab ah B.np.mE B.hp.mH ho1 ho2 hpl hN hO hNO
  refine ⟨b, e1, ?_⟩
  refine (zzdrop_calls g b w (fun w w' => Dropped w w' g eb kb b v hb n h (cnt L vh) (nwA NP v) (olA NP n v) o K[vh]! DE DH) hcall).mono fun e w' ⟨h1, hd⟩ => ⟨h1, ?_⟩
  have A := after_of B.hek B.mem ab ah B.np.mE B.hp.mH hN hO hNO hd
  have hn0 : n ≠ 0 := by omega
  have key : ∀ {x : Nat} {cs : Array Value} {t : TypeId}, At w x cs t → t ≠ 66 → t ≠ 63 → x ≠ hb → At w' x cs t := fun {x cs t} ha h66 h63 hx => by
    refine A.turn.at ha ?_
    rintro (e | e | e | e | e | e | e)
    · exact ha.ne B.mem h63 e
    · exact ha.ne ab h66 e
    · obtain ⟨-, x1, x2, x3, x4, h4⟩ := hN x e; exact ha.ne h4 h66 rfl
    · obtain ⟨-, x1, x2, x3, x4, h4⟩ := hO x e; exact ha.ne h4 h66 rfl
    · exact hx e
    · exact ha.ne_map B.np.mE e
    · exact ha.ne_map B.hp.mH e
  refine ⟨?_, ?_, key B.np.rowN (by decide) (by decide) (B.np.rowN.ne ah (by decide)), key B.hp.rowH (by decide) (by decide) (B.hp.rowH.ne ah (by decide)), key B.hp.rowC (by decide) (by decide) (B.hp.rowC.ne ah (by decide)), ?_, ⟨b, hb, e1, A.node⟩, ?_, ?_, A.mE, ?_, B.np.einv, B.hp.hinv, World.ownsMap.tidy B.np.mE key37, World.ownsMap.tidy B.hp.mH key9⟩
  · refine (grown_below B.grown).trans (A.turn.below B.grown.size ?_)
    rintro k (e | e | e | e | e | e | e)
    · rw [e]; exact B.hg
    · rw [e]; exact s1
    · obtain ⟨x, hx, -, hxa⟩ := nwS k e
      obtain ⟨b', hb', g1, g2, -, -⟩ := B.np.node x hx
      rw [hxa] at g1; cases g1; exact g2
    · obtain ⟨x, hx, -, hxa⟩ := olS k e
      obtain ⟨b', hb', g1, g2, -, -⟩ := B.np.node x hx
      rw [hxa] at g1; cases g1; exact g2
    · rw [e]; exact s3
    · rw [e]; exact B.he
    · rw [e]; exact B.hk
  · have := A.mem
    rw [if_neg hn0, if_neg hn0] at this
    have e4 : (if nwA NP v = none then (olA NP n v).map pt else (NP 0).map pt) = (if nwA NP v = none then olA NP n v else NP 0).map pt := by split <;> rfl
    have e5 : (if olA NP n v = none then (nwA NP v).map pt else (NP (n - 1)).map pt) = (if olA NP n v = none then nwA NP v else NP (n - 1)).map pt := by split <;> rfl
    rw [e4, e5] at this
    exact this
  · have := key B.hp.rowM (by decide) (by decide) (B.hp.rowM.ne ah (by decide))
    rw [rowOf_congr (f' := fun x => .bool (mp x))] at this
    · exact this
    · intro x hx; simp [hx]
  · intro x hx hxv
    obtain ⟨bx, hbx, g1, g2, g3, g4⟩ := B.np.node x hx
    refine ⟨bx, hbx, g1, ?_⟩
    have nbx : bx ≠ b := fun e => by subst e; exact hxv (hinj hx hv (g1.trans e1.symm))
    unfold nwB olB
    by_cases c1 : x = v + 1
    · have c2 : ¬ x + 1 = v := by omega
      rw [if_pos c1, if_neg c2]
      have : olA NP n v = some bx := by unfold olA; rw [if_pos (by omega), ← c1]; exact g1
      exact A.older bx x _ _ hbx this g4
    · by_cases c2 : x + 1 = v
      · rw [if_neg c1, if_pos c2]
        have : nwA NP v = some bx := by unfold nwA; rw [if_neg (by omega), show v - 1 = x by omega]; exact g1
        exact A.newer bx x _ _ hbx this g4
      · rw [if_neg c1, if_neg c2]
        refine A.turn.at g4 ?_
        rintro (e | e | e | e | e | e | e)
        · exact g4.ne B.mem (by decide) e
        · exact nbx e
        · obtain ⟨y, hy, hyv, hya⟩ := nwS bx e
          have := hinj hx hy (g1.trans hya.symm); omega
        · obtain ⟨y, hy, hyv, hya⟩ := olS bx e
          have := hinj hx hy (g1.trans hya.symm); omega
        · exact g4.ne ah (by decide) e
        · exact g4.ne_map B.np.mE e
        · exact g4.ne_map B.hp.mH e
  · intro x hx
    obtain ⟨bx, g1, g2, g3⟩ := B.hp.hold x hx
    refine ⟨bx, g1, ?_⟩
    by_cases c : x = vh
    · subst c
      rw [e2] at g1; cases g1
      have e6 : ((left L v x : Nat) : Int) = (cnt L x : Int) - 1 := by unfold left; rw [if_pos hvh]; omega
      rw [e6]; exact A.hold
    · have e6 : left L v x = cnt L x := by unfold left; rw [if_neg (by rw [hvh]; omega)]; rfl
      rw [e6]
      refine key g3 (by decide) (by decide) (fun e => ?_)
      subst e
      exact c (B.hp.hinj x vh hx hvhh (g1.trans e2.symm))
  · have := A.mH
    rw [htn]
    by_cases c : cnt L vh = 1 ∧ mp vh = true
    · rw [if_pos c]
      rw [if_pos ⟨by omega, hoB.2 c.2⟩] at this
      exact this
    · rw [if_neg c]
      rw [if_neg (fun h' => c ⟨by omega, hoB.1 h'.2⟩)] at this
      exact this
end Go.Proofs.Qxb6613886a
