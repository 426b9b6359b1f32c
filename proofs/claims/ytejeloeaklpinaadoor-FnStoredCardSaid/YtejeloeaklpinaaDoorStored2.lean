/- dataBlock, as the machine tells it. -/
import Derived.Test.YtejeloeaklpinaaDoorStored
namespace Go.Proofs.YtejeloeaklpinaaDoor
theorem mData_true (S : Src) (a : A) (n : Nat) : (mData S a n).2 = true := by
  unfold mData; split
  · rfl
  · split <;> rfl
theorem bv16E {E : Env} (hE : E.Ok) {k : Nat} (hk : k + 1 < E.N) : bv E.D (8 * k) 16 = E.d k + 256 * E.d (k + 1) := bv16 E.d hE.d8 E.N k hk
theorem dataBlock_c (E : Env) (w : World) (a : A) (hE : E.Ok) (hR : RepI E w a) (hmd : a.md = .next) (hef : a.e = a.fl) (herr : a.err = 0) :
    Ret 42 [fp E] w fun v w' => v = .tuple #[] ∧ (∃ c, Rep E w' c ∧ ((mStored E.S' a = (c, true)) ∨ ∃ b, mStored E.S' a = (b, false) ∧ mic E.S' b = (c, true))) ∧ Kp E.L w w' := by
  obtain ⟨g, hs, bs, cs, hC, hL⟩ := hR
  have hmd' := hL.md
  rw [hmd] at hmd'
  obtain ⟨hSS, hl⟩ := hmd'
  obtain ⟨ro, hro⟩ := hL.B.ro
  have hle := hC.W.rd.le
  have hSN : E.S'.N = E.N := rfl
  have hSD : E.S'.D = E.D := rfl
  have hT := hC.T
  rw [hef] at hT
  by_cases hp : E.N < a.pos + 4
  · refine (db_short E w g hs bs cs a.pos ro hE hC.W hC.S hro hle hp).mono ?_
    rintro e w' ⟨v, rfl, rfl, g', hW, h48, ho, kp⟩
    refine ⟨_, rfl, rfl, ⟨a.short E.S', ?_, .inl (by unfold mStored; rw [hSN, if_pos hp])⟩, kp⟩
    exact ⟨g', hs, bs, cs, hC.off hW ho (by decide), .inr (.inr (.inl ⟨rfl, h48⟩)), fun h => by cases h⟩
  · have hp' : a.pos + 4 ≤ E.N := by omega
    have b1 : bv E.D (8 * a.pos) 16 = E.d a.pos + 256 * E.d (a.pos + 1) := bv16E hE (by omega)
    have b2 : bv E.D (8 * a.pos + 16) 16 = E.d (a.pos + 2) + 256 * E.d (a.pos + 3) := by
      rw [show 8 * a.pos + 16 = 8 * (a.pos + 2) by omega]; exact bv16E hE (by omega)
    by_cases hb : E.d a.pos + 256 * E.d (a.pos + 1) + (E.d (a.pos + 2) + 256 * E.d (a.pos + 3)) ≠ 65535
    · refine (db_bad E w g hs bs cs a.pos ro hE hC.W hC.S hro hp' hb).mono ?_
      rintro e w' ⟨v, rfl, rfl, g', hW, h48, ho, kp⟩
      refine ⟨_, rfl, rfl, ⟨({ a with p := 8 * (a.pos + 4), pos := a.pos + 4 } : A).bad, ?_, .inl (by unfold mStored; rw [hSN, hSD, b1, b2, if_neg hp, if_pos hb])⟩, kp⟩
      exact ⟨g', hs, bs, cs, hC.off hW ho (by decide), .inr (.inr (.inr ⟨rfl, h48⟩)), fun h => by cases h⟩
    · have hb' := Decidable.not_not.1 hb
      by_cases hz : E.d a.pos + 256 * E.d (a.pos + 1) = 0
      · have hm : mStored E.S' a = (({ a with p := 8 * (a.pos + 4), pos := a.pos + 4 } : A).flush.finish, true) := by
          unfold mStored; rw [hSN, hSD, b1, b2, if_neg hp, if_neg hb, if_pos hz]
        have hnx : nx (a.out.length % 32768) = a.out.length % 32768 := by unfold nx; rw [if_neg (by omega)]
        have hfin := hL.fin
        cases hfe : a.fin with
        | false =>
          rw [hfe] at hfin
          refine (db_zero_more E w g hs bs cs a.pos ro hE hC.W hC.S hro hp' hb' hz _ _ _ (by rw [hnx]; omega) hC.D hfin).mono ?_
          rintro e w' ⟨v, rfl, rfl, g', hW, h2, h3, h4, h45, hD, hT', ho, kp⟩
          refine ⟨_, rfl, rfl, ⟨_, ?_, .inl hm⟩, kp⟩
          rw [hnx] at hD
          simp only [A.finish, A.flush, hfe]
          refine ⟨g', hs, bs, cs, ⟨hW, hC.S.off ho (by decide), hC.V, hD, ?_, HZ.offs hC.Z ho (by decide)⟩, .inl ⟨herr, (ho _ (by decide)).trans hL.err⟩, fun _ => ⟨⟨Bt.zero h2 h3 h4, (ho _ (by decide)).trans hfin, (ho _ (by decide)).trans hL.err, ?_⟩, h45, trivial⟩⟩
          · show TR E g' a.e _
            rw [hef]; exact hT'
          · exact ⟨hSS.off ho (by decide), (ho _ (by decide)).trans hl⟩
        | true =>
          rw [hfe] at hfin
          refine (db_zero_last E w g hs bs cs a.pos ro hE hC.W hC.S hro hp' hb' hz _ _ _ (by rw [hnx]; omega) hC.D hfin).mono ?_
          rintro e w' ⟨v, rfl, rfl, g', hW, h48, hD, hT', ho, kp⟩
          refine ⟨_, rfl, rfl, ⟨_, ?_, .inl hm⟩, kp⟩
          rw [hnx] at hD
          simp only [A.finish, A.flush, hfe, if_true]
          refine ⟨g', hs, bs, cs, ⟨hW, hC.S.off ho (by decide), hC.V, hD, ?_, HZ.offs hC.Z ho (by decide)⟩, .inr (.inl ⟨rfl, h48⟩), fun h => by cases h⟩
          show TR E g' a.e _
          rw [hef]; exact hT'
      · have hd0 := hE.d8 a.pos
        have hd1 := hE.d8 (a.pos + 1)
        have hm : mStored E.S' a = (({ a with p := 8 * (a.pos + 4), pos := a.pos + 4, md := .data (E.d a.pos + 256 * E.d (a.pos + 1)) } : A), false) := by
          unfold mStored; rw [hSN, hSD, b1, b2, if_neg hp, if_neg hb, if_neg hz]
        refine db_data E w g hs bs cs a.pos ro hE hC.W hC.S hro hp' hb' hz (fun w' => (∃ c, Rep E w' c ∧ ((mStored E.S' a = (c, true)) ∨ ∃ b, mStored E.S' a = (b, false) ∧ mic E.S' b = (c, true))) ∧ Kp E.L w w') ?_
        intro w1 g1 hW h3 h4 h52 h2 ho kp
        have hR1 : RepI E w1 { a with p := 8 * (a.pos + 4), pos := a.pos + 4, md := .data (E.d a.pos + 256 * E.d (a.pos + 1)) } := by
          refine ⟨g1, hs, bs, cs, hC.off hW ho (by decide), ⟨Bt.zero h2 h3 h4, (ho _ (by decide)).trans hL.fin, (ho _ (by decide)).trans hL.err, ?_⟩⟩
          exact ⟨hSS.off ho (by decide), h52, by omega, h3, h4⟩
        refine (copyData_c E w1 _ _ hE hR1 rfl hef herr).mono ?_
        rintro e w' ⟨v, rfl, rfl, hR', kp'⟩
        refine ⟨_, rfl, rfl, ⟨_, hR', .inr ⟨_, hm, ?_⟩⟩, kp.trans kp'⟩
        show mData _ _ _ = _
        rw [← mData_true E.S' _ (E.d a.pos + 256 * E.d (a.pos + 1))]
end Go.Proofs.YtejeloeaklpinaaDoor
