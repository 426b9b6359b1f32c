/- Read: what is handed on, and the steps behind it. Its walk is printed by gen/g_read.py. -/
import Derived.Test.YtejeloeaklpinaaDoorGoes
namespace Go.Proofs.YtejeloeaklpinaaDoor
attribute [local irreducible] wpList wpStill wpMix Code.wp Calls fr
/-- The codes are wanted at this state. -/
def needsM (S : Src) (a : A) : Prop :=
  match a.md with
  | .huff _ _ _ => True
  | .next => a.p + 3 ≤ 8 * S.N ∧ (bv S.D a.p 3 / 2 = 1 ∨ bv S.D a.p 3 / 2 = 2)
  | .data _ => False
def needs (S : Src) (a : A) : Prop := a.err = 0 ∧ needsM S a
/-- One step of the reader, whatever it is. -/
theorem step_c (E : Env) (w : World) (a : A) (hE : E.Ok) (g hs bs cs : Nat → Value) (hC : Cr E w g hs bs cs a.pos a.out a.fl (a.out.length % 32768) a.e) (hL : Live E w g a) (h45 : g 1045 = fnv (stepOf a.md)) (hSm : SSm g a.md) (hef : a.e = a.fl) (herr : a.err = 0) (hH : needs E.S' a → HC) :
    ∃ k fn, Has k fn ∧ g 1045 = fnv k ∧ Ret k [fp E] w fun v w' => v = .tuple #[] ∧ (∃ c, Rep E w' c ∧ Runs E.S' a c) ∧ Kp E.L w w' := by
  cases hm : a.md with
  | next =>
    rw [hm] at h45
    refine ⟨35, _, has35, h45, nextBlock_c E w a hE ⟨g, hs, bs, cs, hC, hL⟩ hm hef herr fun h1 h2 => hH ?_⟩
    refine ⟨herr, ?_⟩
    unfold needsM; rw [hm]; exact ⟨h1, h2⟩
  | data n =>
    rw [hm] at h45
    refine ⟨52, _, has52, h45, (copyData_c E w a n hE ⟨g, hs, bs, cs, hC, hL⟩ hm hef herr).mono ?_⟩
    rintro e w' ⟨v, rfl, rfl, h1, h2⟩
    refine ⟨_, rfl, rfl, ⟨_, h1, .stop ?_⟩, h2⟩
    unfold mic; rw [hm]
    show mData _ _ _ = _
    rw [← mData_true E.S' a n]
  | huff hl hd c =>
    rw [hm] at h45
    exact ⟨44, _, has44, h45, (hH ⟨herr, by unfold needsM; rw [hm]; trivial⟩).2.1 E w a hl hd c g hs bs cs hE hC hL hSm hm hef herr⟩
/-- What lies in the buffer behind a Read. -/
def gotB (out : List Nat) (e o k : Nat) (gb : Nat → Value) : Nat → Value := fun j => if o ≤ j ∧ j < o + k then .int .u8 (out.getD (e + (j - o)) 0) else gb j
/-- The states that a Read may come to. -/
inductive Steps (S : Src) : A → A → Prop where
  | refl (a : A) : Steps S a a
  | step {a b c : A} : a.e = a.fl → a.err = 0 → Runs S a b → Steps S b.late c → Steps S a c
theorem Steps.trans {S : Src} {a b c : A} (h : Steps S a b) (k : Steps S b c) : Steps S a c := by
  induction h with
  | refl => exact k
  | step h1 h2 h3 _ ih => exact .step h1 h2 h3 (ih k)
theorem Steps.reads {S : Src} {a b c : A} {n k er : Nat} (h : Steps S a b) (r : Reads S n b k er c) : Reads S n a k er c := by
  induction h with
  | refl => exact r
  | step h1 h2 h3 _ ih => exact .step h1 h2 h3 (ih r)
theorem Rep.late_fl {E : Env} {w : World} {a : A} (h : Rep E w a) : a.fl ≤ a.out.length := by
  obtain ⟨g, hs, bs, cs, hC, _⟩ := h
  obtain ⟨q, rd, h1, h2, h3, h4, _⟩ := hC.D
  omega
theorem Rep.e_fl {E : Env} {w : World} {a : A} (h : Rep E w a) : a.e ≤ a.fl := by
  obtain ⟨g, hs, bs, cs, hC, _⟩ := h
  exact hC.T.1
theorem late_fl (a : A) (h : a.fl ≤ a.out.length) : a.late.fl ≤ a.late.out.length := by
  unfold A.late; split
  · exact Nat.le_refl _
  · exact h

theorem read_c (E : Env) (w : World) (a : A) (hE : E.Ok) (hU : E.OkB) (hR : Rep E w a) (o m c n : Nat) (t : TypeId) (gb : Nat → Value) (hb : Bk w E.buf n t gb) (hm : o + m ≤ n) (hP : Pend a) (hH : ∀ a', Steps E.S' a a' → needs E.S' a' → HC) :
    Ret 90 [fp E, .slice (some ⟨E.buf, o, none⟩) m c] w fun v w' => ∃ k er a' ev, v = .tuple #[.int .i64 ((k : Nat) : Int), ev] ∧ ErrV E er ev ∧ Reads E.S' m a k er a' ∧ Rep E w' a' ∧ Pend a' ∧ Bk w' E.buf n t (gotB a'.out (a'.e - k) o k gb) ∧ Kp (E.buf :: E.L) w w' := by
  have kp := Kp.refl (E.buf :: E.L) w
  refine calls_fr (N := 75) Tryd.func90 rfl rfl (by simp [fp]) rfl ?_
  refine wp_seq ?_
  -- region 0
  refine reg_lit ?_
  refine L1 (asg (v := .int _ _) rfl) ?_
  refine L1 (asg (v := .nilIface) rfl) ?_
  refine wpList_nil ?_
  refine then_n ?_
  refine wp_block ?_
  refine loop_fr (fun k f w' => f 0 = fp E ∧ f 1 = .slice (some ⟨E.buf, o, none⟩) m c ∧ ∃ a', Rep E w' a' ∧ Bk w' E.buf n t gb ∧ Kp (E.buf :: E.L) w w' ∧ Steps E.S' a a' ∧ Pend a' ∧ k = meas E.S' a') (meas E.S' a) ⟨rfl, rfl, a, hR, hb, kp, .refl _, hP, rfl⟩ ?_
  clear hR hb kp hP
  intro k f w0 HJ
  obtain ⟨s0, s1, a1, hR, hb, kp, hst, hP, rfl⟩ := HJ
  have hR0 := hR
  obtain ⟨g, hs, bs, cs, hC, hev, hlive⟩ := hR
  have hW := hC.W
  have hT := hC.T
  obtain ⟨hefl, ta, tc, ht, htc, hta⟩ := hT
  refine slots (fc s0 (fc s1 fnil)) ?_
  by_cases hlt : a1.e < a1.fl
  · -- something is handed on
    obtain ⟨rfl, hfit⟩ := hta hlt
    have hmin : min (a1.fl - a1.e) m ≤ a1.fl - a1.e := Nat.min_le_left _ _
    have hmin2 : min (a1.fl - a1.e) m ≤ m := Nat.min_le_right _ _
    have hmod := Nat.mod_lt a1.e (show 32768 > 0 by decide)
    have hgot : ∀ w3 g', Wd E w3 g' hs bs cs a1.pos → g' 1049 = .slice (cutA (some ⟨E.H, a1.e % 32768, none⟩) (min (a1.fl - a1.e) m) tc) (a1.fl - a1.e - min (a1.fl - a1.e) m) (tc - min (a1.fl - a1.e) m) → Off [1049] g g' → Kp E.X w0 w3 → Rep E w3 { a1 with e := a1.e + min m (a1.fl - a1.e) } := by
      intro w3 g' hW' h49 ho' kp3
      rw [Nat.min_comm m]
      refine ⟨g', hs, bs, cs, ⟨hW', hC.S.off ho' (by decide), hC.V, hC.D.off ho' (by decide), ⟨by show a1.e + _ ≤ a1.fl; omega, _, _, h49.trans (by rw [Nat.sub_sub]), by show a1.fl - (a1.e + _) ≤ _; omega, fun h => ?_⟩, HZ.offs hC.Z ho' (by decide)⟩, by rw [ho' _ (by decide)]; exact hev, fun h0 => ?_⟩
      · have h' : a1.e + min (a1.fl - a1.e) m < a1.fl := h
        refine ⟨?_, ?_⟩
        · show _ = some (⟨E.H, (a1.e + min (a1.fl - a1.e) m) % 32768, none⟩ : Addr)
          rw [cutA_lt _ _ _ _ (by omega), show (a1.e + min (a1.fl - a1.e) m) % 32768 = a1.e % 32768 + min (a1.fl - a1.e) m by omega]
        · show (a1.e + min (a1.fl - a1.e) m) % 32768 + (a1.fl - (a1.e + min (a1.fl - a1.e) m)) ≤ 32768
          omega
      · obtain ⟨hL, h45, hSm⟩ := hlive h0
        exact ⟨hL.keep kp3 ho' (by decide) (by decide) ⟨rfl, rfl, rfl, rfl, rfl⟩, (ho' _ (by decide)).trans h45, hSm.keep ho' (by decide)⟩
    have hbuf : ∀ j, j < n → cpg gb hs o (a1.e % 32768) (min (a1.fl - a1.e) m) j = gotB a1.out a1.e o (min m (a1.fl - a1.e)) gb j := by
      intro j _
      rw [Nat.min_comm m]
      unfold cpg gotB
      split
      · have hfl := hP hlt
        have := hC.V.last (a1.e + (j - o)) (by omega) (by obtain ⟨q, rd, q1, q2, q3, q4, _⟩ := hC.D; omega)
        rw [← this, show (a1.e + (j - o)) % 32768 = a1.e % 32768 + (j - o) by omega]
      · rfl
    refine wp_block ?_
    refine wp_seq ?_
    refine wp_seq ?_
    -- region 1
    refine reg_lit ?_
    refine L1 (mv (v := .pointer _) rfl) ?_
    refine L1 (nilP rfl) ?_
    refine L1 (fa95_15 rfl) ?_
    refine L1 (ld22 rfl (hW.F.cellv (by decide) ht)) ?_
    refine L1 (ln und22 rfl) ?_
    refine L1 (bi rfl rfl (bn_gtr (v := true) (decide_eq_true (by omega)))) ?_
    refine wpList_nil ?_
    refine then_n ?_
    refine cond_t rfl ?_
    refine wp_seq ?_
    -- region 2
    refine reg_lit ?_
    refine L1 (mv (v := .slice _ _ _) rfl) ?_
    refine L1 (mv (v := .pointer _) rfl) ?_
    refine L1 (nilP rfl) ?_
    refine L1 (fa95_15 rfl) ?_
    refine L1 (ld22 rfl (hW.F.cellv (by decide) ht)) ?_
    refine Lcp rfl rfl hb hW.H (by omega) (by omega) (fun j hj => by obtain ⟨cc, _, hcc⟩ := hC.V.byte (a1.e % 32768 + j) (by omega); rw [hcc]; rfl) ?_
    intro w1 hb kp1
    have hW := hW.setbuf hU kp1
    have kp := kp.trans (kp1.mono (by simp [Env.L]))
    refine L1 (asg (v := .int _ _) rfl) ?_
    refine wpList_nil ?_
    refine then_n ?_
    refine wp_seq ?_
    -- region 3
    refine reg_lit ?_
    refine L1 (mv (v := .pointer _) rfl) ?_
    refine L1 (mv (v := .pointer _) rfl) ?_
    refine L1 (nilP rfl) ?_
    refine L1 (fa95_15 rfl) ?_
    refine L1 (ld22 rfl (hW.F.cellv (by decide) ht)) ?_
    refine L1 (mv (v := .int _ _) rfl) ?_
    refine L1 (sl_l und22 sz5 rfl rfl rfl (by omega)) ?_
    refine L1 (nilP rfl) ?_
    refine L1 (fa95_15 rfl) ?_
    refine Lst22 (v := .slice _ _ _) rfl rfl rfl hW.F (by decide) ?_
    intro w2 hb1 kp2
    have hW := hW.setF hE hb1 kp2
    have hb := hb.kp kp2 (by simp; exact hU.uF)
    have kp := kp.trans (kp2.mono (by simp [Env.L]))
    clear hb1
    refine wpList_nil ?_
    refine then_n ?_
    refine wp_seq ?_
    refine wp_seq ?_
    -- region 4
    refine reg_lit ?_
    refine L1 (mv (v := .pointer _) rfl) ?_
    refine L1 (nilP rfl) ?_
    refine L1 (fa95_15 rfl) ?_
    refine L1 (ld22 rfl (hW.F.cellv (v := .slice _ _ _) (by decide) rfl)) ?_
    refine L1 (ln und22 rfl) ?_
    refine L1 (bi rfl rfl (bn_eql (v := decide (a1.fl - a1.e ≤ m)) (decide_eq_decide.2 (by omega)))) ?_
    refine wpList_nil ?_
    refine then_n ?_
    refine cond_d (p := a1.fl - a1.e ≤ m) rfl (fun hall => ?_) (fun hall => ?_)
    · skip
      refine wp_seq ?_
      -- region 5 (its order is open)
      refine reg_still mixed (by kernel_rfl) ?_
      have hW := hW.drew
      have hb := hb.drew
      have kp := kp.drew
      refine S1 (mv (v := .int _ _) rfl) ?_
      refine S1 (mv (v := .pointer _) rfl) ?_
      refine S1 (nilP rfl) ?_
      refine S1 (fa95_14 rfl) ?_
      refine S1 (ld62 rfl (hW.F.cellv (by decide) (rfl : g 1048 = g 1048))) ?_
      refine S1 (asg (v := .int _ _) rfl) ?_
      refine S1 (asg (v := ((g 1048))) rfl) ?_
      refine still_nil ?_
      refine then_n ?_
      refine wp_ret ?_
      refine then_r ?_
      refine then_r ?_
      refine inb_r ?_
      refine then_r ?_
      refine inb_r ?_
      refine ret2 rfl rfl rfl ?_
      refine ⟨_, rfl, min m (a1.fl - a1.e), a1.err, _, g 1048, by rw [Nat.min_comm m]; rfl, hev, hst.reads (by have := Reads.give (S := E.S') (n := m) hlt; rw [if_pos hall] at this; exact this), hgot _ _ hW rfl ((Off.refl [1049] g).upd (by decide) _) ((kp1.mono (by simp [Env.X])).trans (kp2.mono (by simp [Env.X]))).drew, fun _ => hP hlt, ?_, kp⟩
      refine hb.congr fun j hj => ?_
      show _ = gotB a1.out (a1.e + min m (a1.fl - a1.e) - min m (a1.fl - a1.e)) o (min m (a1.fl - a1.e)) gb j
      rw [Nat.add_sub_cancel]
      exact hbuf j hj
    · skip
      refine wp_skip ?_
      refine then_n ?_
      refine wp_seq ?_
      -- region 6
      refine reg_lit ?_
      refine L1 (mv (v := .int _ _) rfl) ?_
      refine L1 (asg (v := .int _ _) rfl) ?_
      refine L1 (asg (v := .nilIface) rfl) ?_
      refine wpList_nil ?_
      refine then_n ?_
      refine wp_ret ?_
      refine then_r ?_
      refine inb_r ?_
      refine then_r ?_
      refine inb_r ?_
      refine ret2 rfl rfl rfl ?_
      refine ⟨_, rfl, min m (a1.fl - a1.e), 0, _, .nilIface, by rw [Nat.min_comm m]; rfl, .inl ⟨rfl, rfl⟩, hst.reads (by have := Reads.give (S := E.S') (n := m) hlt; rw [if_neg hall] at this; exact this), hgot _ _ hW rfl ((Off.refl [1049] g).upd (by decide) _) ((kp1.mono (by simp [Env.X])).trans (kp2.mono (by simp [Env.X]))), fun _ => hP hlt, ?_, kp⟩
      refine hb.congr fun j hj => ?_
      show _ = gotB a1.out (a1.e + min m (a1.fl - a1.e) - min m (a1.fl - a1.e)) o (min m (a1.fl - a1.e)) gb j
      rw [Nat.add_sub_cancel]
      exact hbuf j hj
  · have hfe : a1.e = a1.fl := by omega
    by_cases herr : a1.err = 0
    · -- a step
      obtain ⟨hL, h45, hSm⟩ := hlive herr
      obtain ⟨sk, sfn, hhas, h45', hcall⟩ := step_c E w0 a1 hE g hs bs cs hC hL h45 hSm hfe herr (hH a1 hst)
      clear h45
      have h45 := h45'
      refine wp_block ?_
      refine wp_seq ?_
      refine wp_seq ?_
      -- region 1
      refine reg_lit ?_
      refine L1 (mv (v := .pointer _) rfl) ?_
      refine L1 (nilP rfl) ?_
      refine L1 (fa95_15 rfl) ?_
      refine L1 (ld22 rfl (hW.F.cellv (by decide) ht)) ?_
      refine L1 (ln und22 rfl) ?_
      refine L1 (bi rfl rfl (bn_gtr (v := false) (decide_eq_false (by omega)))) ?_
      refine wpList_nil ?_
      refine then_n ?_
      refine cond_f rfl ?_
      refine wp_skip ?_
      refine then_n ?_
      refine wp_seq ?_
      refine wp_seq ?_
      -- region 7
      refine reg_lit ?_
      refine L1 (mv (v := .pointer _) rfl) ?_
      refine L1 (nilP rfl) ?_
      refine L1 (fa95_14 rfl) ?_
      refine L1 (ld62 rfl (hW.F.cellv (by decide) hL.err)) ?_
      refine L1 (en_nil rfl rfl) ?_
      refine wpList_nil ?_
      refine then_n ?_
      refine cond_f rfl ?_
      refine wp_skip ?_
      refine then_n ?_
      refine wp_seq ?_
      -- region 9
      refine reg_lit ?_
      refine L1 (mv (v := .pointer _) rfl) ?_
      refine L1 (nilP rfl) ?_
      refine L1 (fa95_11 rfl) ?_
      refine L1 (ld92 rfl (hW.F.cellv (by decide) h45)) ?_
      refine L1 (mv (v := .pointer _) rfl) ?_
      refine LC (cl1 hhas rfl rfl) hcall ?_
      rintro v w1 ⟨rfl, ⟨a2, hR2, hrun⟩, kp1⟩
      have hb := hb.kp kp1 (nbuf hU)
      have kp := kp.trans (kp1.mono (by simp; exact fun k h => .inr h))
      clear hC hlive hev hW hL h45 h45' hcall ht
      have hR3 := hR2
      obtain ⟨g, hs, bs, cs, hC, hev, hlive⟩ := hR2
      have hW := hC.W
      obtain ⟨hefl2, ta2, tc2, ht, htc2, hta2⟩ := hC.T
      refine wpList_nil ?_
      refine then_n ?_
      by_cases herr2 : a2.err = 0
      · skip
        obtain ⟨hL2, h452, hSm2⟩ := hlive herr2
        refine wp_seq ?_
        -- region 10
        refine reg_lit ?_
        refine L1 (mv (v := .pointer _) rfl) ?_
        refine L1 (nilP rfl) ?_
        refine L1 (fa95_14 rfl) ?_
        refine L1 (ld62 rfl (hW.F.cellv (by decide) hL2.err)) ?_
        refine L1 (en_nil rfl rfl) ?_
        refine L1 (mv (v := .bool _) rfl) ?_
        refine Lskip (t := 60) (b := true) rfl (by decide) rfl ?_
        refine Lskip (t := 60) (b := true) rfl (by decide) rfl ?_
        refine Lskip (t := 60) (b := true) rfl (by decide) rfl ?_
        refine Lskip (t := 60) (b := true) rfl (by decide) rfl ?_
        refine Lskip (t := 60) (b := true) rfl (by decide) rfl ?_
        refine Lskip (t := 60) (b := true) rfl (by decide) rfl ?_
        refine L1 (pk_f rfl rfl) ?_
        refine wpList_nil ?_
        refine then_n ?_
        refine cond_f rfl ?_
        refine wp_skip ?_
        refine inb_n ?_
        refine then_n ?_
        have hla : a2.late = a2 := by unfold A.late; rw [if_neg (by omega)]
        refine ⟨meas E.S' a2, _, ?_, rfl, rfl, rfl, a2, hR3, hb, kp, hst.trans (.step hfe herr hrun (by rw [hla]; exact .refl _)), Pend.step hR0.late_fl hfe hrun, rfl⟩
        exact meas_lt hR0.late_fl hfe herr hrun herr2
      · skip
        obtain ⟨et, ex, hex⟩ := errIface hev herr2
        refine wp_seq ?_
        -- region 10
        refine reg_lit ?_
        refine L1 (mv (v := .pointer _) rfl) ?_
        refine L1 (nilP rfl) ?_
        refine L1 (fa95_14 rfl) ?_
        refine L1 (ld62 rfl (hW.F.cellv (by decide) hex)) ?_
        refine L1 (en_held rfl rfl) ?_
        refine L1 (mv (v := .bool _) rfl) ?_
        refine L1g (t := 60) (b := true) rfl (by decide) rfl (mv (v := .pointer _) rfl) ?_
        refine L1g (t := 60) (b := true) rfl (by decide) rfl (nilP rfl) ?_
        refine L1g (t := 60) (b := true) rfl (by decide) rfl (fa95_15 rfl) ?_
        refine L1g (t := 60) (b := true) rfl (by decide) rfl (ld22 rfl (hW.F.cellv (by decide) ht)) ?_
        refine L1g (t := 60) (b := true) rfl (by decide) rfl (ln und22 rfl) ?_
        refine L1g (t := 60) (b := true) rfl (by decide) rfl (bi rfl rfl (bn_eql (v := decide (a2.e = a2.fl)) (decide_eq_decide.2 (by omega)))) ?_
        refine L1 (pk_t rfl rfl) ?_
        refine wpList_nil ?_
        refine then_n ?_
        refine cond_d (p := a2.e = a2.fl) rfl (fun hef2 => ?_) (fun hef2 => ?_)
        · skip
          -- region 11
          refine reg_lit ?_
          refine L1 (mv (v := .pointer _) rfl) ?_
          refine L1 (mv (v := .pointer _) rfl) ?_
          refine L1 (nilP rfl) ?_
          refine L1 (fa95_9 rfl) ?_
          refine LC (cl1 has50 rfl rfl) (rf_c E _ g hs bs cs a2.pos _ _ _ hE hW hC.D) ?_
          rintro v w1 ⟨hv, g1, hW, hD1, ho, kp1⟩
          have hb := hb.kp kp1 (nbuf hU)
          have kp := kp.trans (kp1.mono (by simp; exact fun k h => .inr h))
          refine L1 (nilP rfl) ?_
          refine L1 (fa95_15 rfl) ?_
          refine Lst22 (v := v) rfl rfl (by obtain ⟨_, _, _, rfl, _⟩ := hv; rfl) hW.F (by decide) ?_
          intro w3 hb1 kp3
          have hW := hW.setF hE hb1 kp3
          have hb := hb.kp kp3 (by simp; exact hU.uF)
          have kp := kp.trans (kp3.mono (by simp [Env.L]))
          refine wpList_nil ?_
          refine inb_n ?_
          refine then_n ?_
          have hla : a2.late = a2.flush := by unfold A.late; rw [if_pos ⟨herr2, hef2⟩]
          have hfl2 := hR3.late_fl
          have hR4 : Rep E w3 a2.flush := by
            refine ⟨_, hs, bs, cs, ⟨hW, (hC.S.off ho (by decide)).off ((Off.refl [1049] g1).upd (by decide) _) (by decide), hC.V, ?_, ?_, HZ.offs (HZ.offs hC.Z ho (by decide)) ((Off.refl [1049] g1).upd (by decide) _) (by decide)⟩, ?_, fun h => absurd h herr2⟩
            · have hnx : nx (a2.out.length % 32768) = a2.out.length % 32768 := by unfold nx; rw [if_neg (by omega)]
              rw [hnx] at hD1
              exact hD1.off ((Off.refl [1049] g1).upd (by decide) _) (by decide)
            · show TRv E _ a2.e a2.out.length
              rw [hef2]
              exact hv
            · show ErrV E a2.err (g1 1048)
              rw [ho _ (by decide)]
              exact hev
          refine ⟨0, _, ?_, rfl, rfl, rfl, a2.flush, hR4, hb, kp, hst.trans (.step hfe herr hrun (by rw [hla]; exact .refl _)), fun _ => rfl, ?_⟩
          · unfold meas; rw [if_neg (by omega)]; omega
          · unfold meas; rw [if_pos (.inr herr2)]
        · skip
          refine wp_skip ?_
          refine inb_n ?_
          refine then_n ?_
          have hla : a2.late = a2 := by unfold A.late; rw [if_neg (by omega)]
          refine ⟨0, _, ?_, rfl, rfl, rfl, a2, hR3, hb, kp, hst.trans (.step hfe herr hrun (by rw [hla]; exact .refl _)), Pend.step hR0.late_fl hfe hrun, ?_⟩
          · unfold meas; rw [if_neg (by omega)]; omega
          · unfold meas; rw [if_pos (.inr herr2)]
    · -- the end
      obtain ⟨et, ex, hex⟩ := errIface hev herr
      refine wp_block ?_
      refine wp_seq ?_
      refine wp_seq ?_
      -- region 1
      refine reg_lit ?_
      refine L1 (mv (v := .pointer _) rfl) ?_
      refine L1 (nilP rfl) ?_
      refine L1 (fa95_15 rfl) ?_
      refine L1 (ld22 rfl (hW.F.cellv (by decide) ht)) ?_
      refine L1 (ln und22 rfl) ?_
      refine L1 (bi rfl rfl (bn_gtr (v := false) (decide_eq_false (by omega)))) ?_
      refine wpList_nil ?_
      refine then_n ?_
      refine cond_f rfl ?_
      refine wp_skip ?_
      refine then_n ?_
      refine wp_seq ?_
      refine wp_seq ?_
      -- region 7
      refine reg_lit ?_
      refine L1 (mv (v := .pointer _) rfl) ?_
      refine L1 (nilP rfl) ?_
      refine L1 (fa95_14 rfl) ?_
      refine L1 (ld62 rfl (hW.F.cellv (by decide) hex)) ?_
      refine L1 (en_held rfl rfl) ?_
      refine wpList_nil ?_
      refine then_n ?_
      refine cond_t rfl ?_
      refine wp_seq ?_
      -- region 8 (its order is open)
      refine reg_still mixed (by kernel_rfl) ?_
      have hW := hW.drew
      have hb := hb.drew
      have kp := kp.drew
      have hR0 := hR0.drew
      refine S1 (mv (v := .pointer _) rfl) ?_
      refine S1 (nilP rfl) ?_
      refine S1 (fa95_14 rfl) ?_
      refine S1 (ld62 rfl (hW.F.cellv (by decide) hex)) ?_
      refine S1 (asg (v := .int _ _) rfl) ?_
      refine S1 (asg (v := .iface _ _) rfl) ?_
      refine still_nil ?_
      refine then_n ?_
      refine wp_ret ?_
      refine then_r ?_
      refine inb_r ?_
      refine then_r ?_
      refine inb_r ?_
      refine ret2 rfl rfl rfl ?_
      refine ⟨_, rfl, 0, a1.err, a1, _, rfl, by rw [← hex]; exact hev, hst.reads (.done hfe herr), hR0, hP, ?_, kp⟩
      refine hb.congr fun j hj => ?_
      unfold gotB
      rw [if_neg (by omega)]
end Go.Proofs.YtejeloeaklpinaaDoor
