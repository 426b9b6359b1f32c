/- nextBlock, as the machine tells it. -/
import Derived.Test.YtejeloeaklpinaaDoorNext
namespace Go.Proofs.YtejeloeaklpinaaDoor
theorem errIface {E : Env} {c : Nat} {v : Value} (h : ErrV E c v) (hc : c ≠ 0) : ∃ t x, v = .iface t x := by
  rcases h with ⟨h, _⟩ | ⟨_, h⟩ | ⟨_, h⟩ | ⟨_, n, h⟩
  · exact absurd h hc
  · exact ⟨_, _, h⟩
  · exact ⟨_, _, h⟩
  · exact ⟨_, _, h⟩
theorem mic_next {S : Src} {a : A} (h : a.md = .next) : mic S a = mNext S a := by unfold mic; rw [h]
/-- The machine behind a block's first three bits. -/
def A.headed (S : Src) (a : A) : A := { a with p := a.p + 3, pos := rdTo a.p a.pos 3, fin := decide (bv S.D a.p 3 % 2 = 1) }
theorem nextBlock_c (E : Env) (w : World) (a : A) (hE : E.Ok) (hR : RepI E w a) (hmd : a.md = .next) (hef : a.e = a.fl) (herr : a.err = 0) (hH : a.p + 3 ≤ 8 * E.N → bv E.D a.p 3 / 2 = 1 ∨ bv E.D a.p 3 / 2 = 2 → HC) :
    Ret 35 [fp E] w fun v w' => v = .tuple #[] ∧ (∃ c, Rep E w' c ∧ Runs E.S' a c) ∧ Kp E.L w w' := by
  obtain ⟨g, hs, bs, cs, hC, hL⟩ := hR
  have hmd' := hL.md
  rw [hmd] at hmd'
  obtain ⟨hSS, hl⟩ := hmd'
  have hSN : E.S'.N = E.N := rfl
  have hSD : E.S'.D = E.D := rfl
  have hle := hC.W.rd.le
  have hRI : ∀ w' g', Wd E w' g' hs bs cs (rdTo a.p a.pos 3) → g' 1047 = .bool (decide (bv E.D a.p 3 % 2 = 1)) → g' 1048 = .nilIface → Bt E g' (a.p + 3) (rdTo a.p a.pos 3) → Off [2, 3, 4, 1047, 1048] g g' →
      Cr E w' g' hs bs cs (a.headed E.S').pos (a.headed E.S').out (a.headed E.S').fl ((a.headed E.S').out.length % 32768) (a.headed E.S').e ∧ Live E w' g' (a.headed E.S') := by
    intro w' g' hW h47 h48 hB ho
    refine ⟨hC.off hW ho (by decide), ⟨hB, h47, h48, ?_⟩⟩
    show Md E w' g' a.out a.md
    rw [hmd]
    exact ⟨hSS.off ho (by decide), (ho _ (by decide)).trans hl⟩
  refine nextBlock_w E w g hs bs cs a.p a.pos hE hC.W hC.S hL.B hL.err (fun w' => (∃ c, Rep E w' c ∧ Runs E.S' a c) ∧ Kp E.L w w') ?_ ?_ ?_ ?_ ?_
  · intro w' g' hp hW h48 ho kp
    refine ⟨⟨a.short E.S', ⟨g', hs, bs, cs, hC.off hW ho (by decide), .inr (.inr (.inl ⟨rfl, h48⟩)), fun h => by cases h⟩, .stop ?_⟩, kp⟩
    rw [mic_next hmd]; unfold mNext; rw [hSN, if_pos hp]
  · intro hp hk w' g' pos' hpos hW h48 ho kp
    subst hpos
    refine ⟨⟨(a.headed E.S').bad, ⟨g', hs, bs, cs, hC.off hW ho (by decide), .inr (.inr (.inr ⟨rfl, h48⟩)), fun h => by cases h⟩, .stop ?_⟩, kp⟩
    rw [mic_next hmd]; unfold mNext; rw [hSN, hSD, if_neg (by omega), if_neg hk.1, if_neg hk.2.1, if_neg hk.2.2]; rfl
  · intro hk w' g' pos' hpos hW h47 h48 hB ho kp
    subst hpos
    obtain ⟨hC', hL'⟩ := hRI w' g' hW h47 h48 hB ho
    refine (dataBlock_c E w' (a.headed E.S') hE ⟨g', hs, bs, cs, hC', hL'⟩ hmd hef herr).mono ?_
    rintro e w2 ⟨v, rfl, rfl, ⟨c, hRc, hm⟩, kp2⟩
    have hp8 := hB.le
    have hpN := hW.rd.le
    have hmic : mic E.S' a = mStored E.S' (a.headed E.S') := by
      rw [mic_next hmd]; unfold mNext; rw [hSN, hSD, if_neg (by omega), if_pos hk]; rfl
    refine ⟨_, rfl, rfl, ⟨c, hRc, ?_⟩, kp.trans kp2⟩
    rcases hm with hm | ⟨b, hm, hm2⟩
    · exact .stop (hmic.trans hm)
    · exact .more (hmic.trans hm) (.stop hm2)
  · intro hp hk
    obtain ⟨h43, h44, _⟩ := hH hp (.inl hk)
    refine ⟨h43, ?_⟩
    intro w' g' X gx pos' hpos hW h47 h48 h50 h51 hX hbX hT hLk hB ho kp
    subst hpos
    have hmic : mic E.S' a = ({ a.headed E.S' with md := .huff (cdL fixL) none none }, false) := by
      rw [mic_next hmd]; unfold mNext; rw [hSN, hSD, if_neg (by omega), if_neg (by omega), if_pos hk]; rfl
    refine (h44 E w' { a.headed E.S' with md := .huff (cdL fixL) none none } (cdL fixL) none none g' hs bs cs hE (hC.off hW ho (by decide)) ⟨hB, h47, h48, ?_⟩ trivial rfl hef herr).mono ?_
    · exact ⟨⟨hLk, h51, X, gx, h50, hX, hbX, hT⟩, hSS.off ho (by decide), (ho _ (by decide)).trans hl⟩
    · rintro e w2 ⟨v, rfl, rfl, ⟨c, hRc, hm⟩, kp2⟩
      exact ⟨_, rfl, rfl, ⟨c, hRc, .more hmic hm⟩, kp.trans kp2⟩
  · intro hk w' g' pos' hpos hW h47 h48 hB ho kp
    subst hpos
    have hp8 := hB.le
    have hpN := hW.rd.le
    obtain ⟨_, h44, h45⟩ := hH (by omega) (.inr hk)
    obtain ⟨hC', hL'⟩ := hRI w' g' hW h47 h48 hB ho
    refine (h45 E w' (a.headed E.S') g' hs bs cs hE hC' hL' hmd herr).mono ?_
    rintro e w2 ⟨v, rfl, g3, bs2, cs2, b, kp1, hC3, ho1, ho2, ho3, ho4, hr⟩
    have hmic : mic E.S' a = mDyn E.S' (a.headed E.S') := by
      rw [mic_next hmd]; unfold mNext; rw [hSN, hSD, if_neg (by omega), if_neg (by omega), if_neg (by omega), if_pos hk]; rfl
    rcases hr with ⟨hv, hne, hm⟩ | ⟨rfl, hbe, hl1, hd1, hm, hbm, hk1, hk2, ht1, ht2, hB3, hkeep⟩
    · have hvi := errIface hv hne
      refine ⟨_, rfl, g3, bs2, cs2, b.pos, hC3.W, by obtain ⟨t, x, rfl⟩ := hvi; rfl, kp1, .inl ⟨hvi, ?_⟩⟩
      intro w3 g4 hW4 h48' ho' kp2 kp3
      refine ⟨⟨b, ⟨g4, hs, bs2, cs2, ?_, by rw [h48']; exact hv, fun h => absurd h hne⟩, .stop (hmic.trans hm)⟩, kp3⟩
      rw [ho1, ho2, ho3]
      exact hC3.off hW4 ho' (by decide)
    · refine ⟨_, rfl, g3, bs2, cs2, b.pos, hC3.W, rfl, kp1, .inr ⟨rfl, ?_⟩⟩
      intro w3 g4 hW4 h48' h50 h51 ho' kp2 kp3
      have hk5 : ∀ j, j < 1035 → g4 j = g3 j := fun j hj => ho' j (by simp; omega)
      refine (h44 E w3 b hl1 (some hd1) none g4 hs bs2 cs2 hE ?_ ⟨?_, ?_, h48', ?_⟩ ?_ hbm (by rw [ho2, ho3]; exact hef) hbe).mono ?_
      · rw [ho1, ho2, ho3]; exact hC3.off hW4 ho' (by decide)
      · exact hB3.off ho' (by decide)
      · rw [ho4]; exact ((ho' _ (by decide)).trans (hkeep 1047 (by decide))).trans h47
      · rw [hbm]
        refine ⟨⟨hk1, hk2, h50, h51, ht1.keep kp2.X (fun j _ _ => hk5 j (by omega)), ht2.keep kp2.X (fun j _ _ => hk5 j (by omega))⟩, ?_, ?_⟩
        · have hS3 : SS g3 := by
            have e1 : g3 1046 = g' 1046 := hkeep _ (by decide)
            have e2 : g3 1053 = g' 1053 := hkeep _ (by decide)
            have := hSS.off ho (by decide)
            unfold SS at this ⊢
            rw [e1, e2]; exact this
          exact hS3.off ho' (by decide)
        · exact (((ho' _ (by decide)).trans (hkeep 1052 (by decide))).trans (ho _ (by decide))).trans hl
      · rw [hbm]; trivial
      · rintro e w4 ⟨v, rfl, rfl, ⟨c, hRc, hm2⟩, kp4⟩
        exact ⟨_, rfl, rfl, ⟨c, hRc, .more (hmic.trans hm) hm2⟩, kp3.trans kp4⟩
end Go.Proofs.YtejeloeaklpinaaDoor
