/- copyData, as the machine tells it. -/
import Derived.Test.YtejeloeaklpinaaDoorData
namespace Go.Proofs.YtejeloeaklpinaaDoor
theorem HZ.offs {g g' : Nat → Value} {L : List Nat} (h : HZ g 5 ∧ HZ g 520) (o : Off L g g') (hL : ∀ j, j ∈ L → j < 5 ∨ 1035 ≤ j) : HZ g' 5 ∧ HZ g' 520 :=
  ⟨h.1.keep fun j _ _ => o j (fun hm => by have := hL j hm; omega), h.2.keep fun j _ _ => o j (fun hm => by have := hL j hm; omega)⟩
theorem Rd.le {E : Env} {w : World} {pos : Nat} (h : Rd E w pos) : pos ≤ E.N := by
  obtain ⟨_, _, _, _, _, _, _, h, _⟩ := h; exact h
theorem avail_eq (out : List Nat) : avail out = 32768 - out.length % 32768 := rfl
theorem Bt.zero {E : Env} {g : Nat → Value} {pos : Nat} (h2 : ∃ n, g 2 = .int .i64 n) (h3 : g 3 = .int .u32 0) (h4 : g 4 = .int .u64 0) : Bt E g (8 * pos) pos :=
  ⟨h2, by rw [h3, Nat.sub_self, bv_zero]; rfl, by rw [h4, Nat.sub_self]; rfl, Nat.le_refl _, by omega⟩
/-- copyData. -/
theorem copyData_c (E : Env) (w : World) (a : A) (n : Nat) (hE : E.Ok) (hR : RepI E w a) (hmd : a.md = .data n) (hef : a.e = a.fl) (herr : a.err = 0) :
    Ret 52 [fp E] w fun v w' => v = .tuple #[] ∧ Rep E w' (mData E.S' a n).1 ∧ Kp E.L w w' := by
  obtain ⟨g, hs, bs, cs, hC, hL⟩ := hR
  have hmd' := hL.md
  rw [hmd] at hmd'
  obtain ⟨hSS, hl, hn, h3, h4⟩ := hmd'
  obtain ⟨ro, hro⟩ := hL.B.ro
  have hle := hC.W.rd.le
  have hSN : E.S'.N = E.N := rfl
  have hwr : a.out.length % 32768 < 32768 := Nat.mod_lt _ (by decide)
  have hD := hC.D
  obtain ⟨q, rd, e1, e2, e3, e4, hDD⟩ := hC.D
  have hT := hC.T
  rw [hef] at hT
  generalize hwre : a.out.length % 32768 = wr at *
  have hav : avail a.out = 32768 - wr := by rw [avail_eq, hwre]
  have hlen : ∀ k, (a.out ++ bytesAt E.S' a.pos k).length = a.out.length + k := fun k => by rw [List.length_append, bytesAt_length]
  by_cases hsh : E.N < a.pos + min n (32768 - wr)
  · -- too few bytes
    have hmin : min n (32768 - wr) ≤ 32768 - wr := Nat.min_le_right _ _
    have hmin2 : min n (32768 - wr) ≤ n := Nat.min_le_left _ _
    have key : Ret 52 [fp E] w fun v w' => v = .tuple #[] ∧ ∃ g', Wd E w' g' (cpd E hs wr a.pos (E.N - a.pos)) bs cs E.N ∧ g' 1048 = UEOFv E ∧ g' 1038 = .int .i64 ((wr + (E.N - a.pos) : Nat) : Int) ∧ Off [2, 1038, 1048, 1052] g g' ∧ Kp E.L w w' := by
      by_cases hb : 32768 - wr ≤ n
      · exact cd_short_b E w g hs bs cs a.pos wr rd n _ ro hE hC.W hC.S hDD hro hl hwr hn hle hb (by omega)
      · exact cd_short_s E w g hs bs cs a.pos wr rd n _ ro hE hC.W hC.S hDD hro hl hwr hn hle (by omega) (by omega)
    refine key.mono ?_
    rintro e w' ⟨v, rfl, rfl, g', hW, h48, h38, ho, kp⟩
    refine ⟨_, rfl, rfl, ?_, kp⟩
    have hm : (mData E.S' a n).1 = { a with out := a.out ++ bytesAt E.S' a.pos (E.N - a.pos) }.short E.S' := by
      simp only [mData, hav, hSN]
      rw [if_pos hsh]
    rw [hm]
    have hlast : (a.out ++ bytesAt E.S' a.pos (E.N - a.pos)).length % 32768 = wr + (E.N - a.pos) := by rw [hlen]; omega
    refine ⟨g', _, bs, cs, ⟨hW, hC.S.off ho (by decide), ?_, ?_, hC.T.off ho (by decide), HZ.offs hC.Z ho (by decide)⟩, .inr (.inr (.inl ⟨rfl, h48⟩)), fun h => by cases h⟩
    · exact win_data hE hC.V (by omega) (by omega) (by omega)
    · show Dw E g' (a.out ++ bytesAt E.S' a.pos (E.N - a.pos)).length a.fl ((a.out ++ bytesAt E.S' a.pos (E.N - a.pos)).length % 32768)
      rw [hlast, hlen]
      exact hD.push _ h38 (by omega) ho (by decide)
  · by_cases hb : 32768 - wr ≤ n
    · -- the window gets full
      have hmin : min n (32768 - wr) = 32768 - wr := Nat.min_eq_right hb
      rw [hmin] at hsh
      refine (cd_full E w g hs bs cs a.pos wr rd n _ ro hE hC.W hC.S hDD hro hl hwr hn hle hb (by omega) a.out.length a.fl hD).mono ?_
      rintro e w' ⟨v, rfl, rfl, g', hW, h2', h45, h52, hD', hT', ho, kp⟩
      refine ⟨_, rfl, rfl, ?_, kp⟩
      have hm : (mData E.S' a n).1 = { a with p := 8 * (a.pos + (32768 - wr)), pos := a.pos + (32768 - wr), out := a.out ++ bytesAt E.S' a.pos (32768 - wr), md := .data (n - (32768 - wr)) }.flush := by
        simp only [mData, hav, hmin, hSN]
        rw [if_neg hsh, if_pos hb]
      rw [hm]
      have hnx : nx (wr + (32768 - wr)) = 0 := by unfold nx; rw [if_pos (by omega)]
      have hz : (a.out.length + (32768 - wr)) % 32768 = 0 := by omega
      refine ⟨g', _, bs, cs, ⟨hW, hC.S.off ho (by decide), win_data hE hC.V (by omega) (by omega) (by omega), ?_, ?_, HZ.offs hC.Z ho (by decide)⟩, .inl ⟨herr, (ho _ (by decide)).trans hL.err⟩, fun _ => ⟨⟨?_, (ho _ (by decide)).trans hL.fin, (ho _ (by decide)).trans hL.err, ?_⟩, h45, trivial⟩⟩
      · show Dw E g' (a.out ++ bytesAt E.S' a.pos (32768 - wr)).length (a.out ++ bytesAt E.S' a.pos (32768 - wr)).length ((a.out ++ bytesAt E.S' a.pos (32768 - wr)).length % 32768)
        rw [hlen, hz, ← hnx]
        exact hD'
      · show TR E g' a.e (a.out ++ bytesAt E.S' a.pos (32768 - wr)).length
        rw [hlen, hef]
        exact hT'
      · exact Bt.zero h2' ((ho _ (by decide)).trans h3) ((ho _ (by decide)).trans h4)
      · exact ⟨hSS.off ho (by decide), h52, by omega, (ho _ (by decide)).trans h3, (ho _ (by decide)).trans h4⟩
    · -- the block's end
      have hmin : min n (32768 - wr) = n := Nat.min_eq_left (by omega)
      rw [hmin] at hsh
      have hm : (mData E.S' a n).1 = ({ a with p := 8 * (a.pos + n), pos := a.pos + n, out := a.out ++ bytesAt E.S' a.pos n } : A).finish := by
        simp only [mData, hav, hmin, hSN]
        rw [if_neg hsh, if_neg hb]
      rw [hm]
      have hlast : (a.out ++ bytesAt E.S' a.pos n).length % 32768 = wr + n := by rw [hlen]; omega
      have hnx : nx (wr + n) = wr + n := by unfold nx; rw [if_neg (by omega)]
      have hwin := win_data hE hC.V (pos := a.pos) (k := n) (by omega : wr = a.out.length % 32768) (by omega) (by omega)
      have hz0 : n = 0 → cpd E hs wr a.pos n = hs := fun h => by
        subst h; funext j; unfold cpd; rw [if_neg (by omega)]
      have hfin := hL.fin
      cases hfe : a.fin with
      | false =>
        rw [hfe] at hfin
        have key : Ret 52 [fp E] w fun v w' => v = .tuple #[] ∧ ∃ g', Wd E w' g' (cpd E hs wr a.pos n) bs cs (a.pos + n) ∧ (∃ x, g' 2 = .int .i64 x) ∧ g' 1045 = fnv 35 ∧ g' 1052 = .int .i64 0 ∧ Dw E g' (a.out.length + n) a.fl (wr + n) ∧ Off [2, 1052, 1038, 1045] g g' ∧ Kp E.L w w' := by
          by_cases hz : n = 0
          · rw [hz0 hz]
            have := cd_end_zero_more E w g hs bs cs a.pos wr rd n _ ro hE hC.W hC.S hDD hro hl hwr hn hle (by omega) (by omega) hz a.out.length a.fl hD hfin
            rw [hz]; exact this
          · exact cd_end_ok_more E w g hs bs cs a.pos wr rd n _ ro hE hC.W hC.S hDD hro hl hwr hn hle (by omega) (by omega) (by omega) a.out.length a.fl hD hfin
        refine key.mono ?_
        rintro e w' ⟨v, rfl, rfl, g', hW, h2', h45, h52, hD', ho, kp⟩
        refine ⟨_, rfl, rfl, ?_, kp⟩
        simp only [A.finish, hfe]
        refine ⟨g', _, bs, cs, ⟨hW, hC.S.off ho (by decide), hwin, ?_, hC.T.off ho (by decide), HZ.offs hC.Z ho (by decide)⟩, .inl ⟨herr, (ho _ (by decide)).trans hL.err⟩, fun _ => ⟨⟨?_, (ho _ (by decide)).trans hfin, (ho _ (by decide)).trans hL.err, ?_⟩, h45, trivial⟩⟩
        · show Dw E g' (a.out ++ bytesAt E.S' a.pos n).length a.fl ((a.out ++ bytesAt E.S' a.pos n).length % 32768)
          rw [hlast, hlen]
          exact hD'
        · exact Bt.zero h2' ((ho _ (by decide)).trans h3) ((ho _ (by decide)).trans h4)
        · exact ⟨hSS.off ho (by decide), h52⟩
      | true =>
        rw [hfe] at hfin
        have key : Ret 52 [fp E] w fun v w' => v = .tuple #[] ∧ ∃ g', Wd E w' g' (cpd E hs wr a.pos n) bs cs (a.pos + n) ∧ g' 1048 = EOFv E ∧ Dw E g' (a.out.length + n) (a.out.length + n) (nx (wr + n)) ∧ TR E g' a.fl (a.out.length + n) ∧ Off [2, 1052, 1038, 1039, 1040, 1045, 1048, 1049] g g' ∧ Kp E.L w w' := by
          by_cases hz : n = 0
          · rw [hz0 hz]
            have := cd_end_zero_last E w g hs bs cs a.pos wr rd n _ ro hE hC.W hC.S hDD hro hl hwr hn hle (by omega) (by omega) hz a.out.length a.fl hD hfin hT
            rw [hz]; exact this
          · exact cd_end_ok_last E w g hs bs cs a.pos wr rd n _ ro hE hC.W hC.S hDD hro hl hwr hn hle (by omega) (by omega) (by omega) a.out.length a.fl hD hfin hT
        refine key.mono ?_
        rintro e w' ⟨v, rfl, rfl, g', hW, h48, hD', hT', ho, kp⟩
        refine ⟨_, rfl, rfl, ?_, kp⟩
        simp only [A.finish, hfe, if_true]
        refine ⟨g', _, bs, cs, ⟨hW, hC.S.off ho (by decide), hwin, ?_, ?_, HZ.offs hC.Z ho (by decide)⟩, .inr (.inl ⟨rfl, h48⟩), fun h => by cases h⟩
        · show Dw E g' (a.out ++ bytesAt E.S' a.pos n).length (a.out ++ bytesAt E.S' a.pos n).length ((a.out ++ bytesAt E.S' a.pos n).length % 32768)
          rw [hlast, hlen, ← hnx]
          exact hD'
        · show TR E g' a.e (a.out ++ bytesAt E.S' a.pos n).length
          rw [hlen, hef]
          exact hT'
end Go.Proofs.YtejeloeaklpinaaDoor
