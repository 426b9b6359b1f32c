/- The end of a block; what is handed on. Its walks are printed by gen/g_fin.py. -/
import Derived.Test.YtejeloeaklpinaaDoorWd
namespace Go.Proofs.YtejeloeaklpinaaDoor
attribute [local irreducible] wpList wpStill Code.wp Calls fr
def fnv (k : Nat) : Value := .func (.func k) #[] #[]
/-- The window's marks where n bytes were told, fl of them handed on, and the place of writing is wr. -/
def Dw (E : Env) (g : Nat → Value) (n fl wr : Nat) : Prop :=
  ∃ q rd, n = 32768 * q + wr ∧ wr ≤ 32768 ∧ rd ≤ wr ∧ fl = 32768 * q + rd ∧ DD E g wr rd (decide (0 < q))
/-- A slice of the window that holds what was handed on and not yet taken. -/
def TRv (E : Env) (v : Value) (e fl : Nat) : Prop :=
  e ≤ fl ∧ ∃ a c, v = .slice a (fl - e) c ∧ fl - e ≤ c ∧ (e < fl → a = some ⟨E.H, e % 32768, none⟩ ∧ e % 32768 + (fl - e) ≤ 32768)
def TR (E : Env) (g : Nat → Value) (e fl : Nat) : Prop := TRv E (g 1049) e fl
theorem Dw.off {E : Env} {g g' : Nat → Value} {n fl wr : Nat} {L : List Nat} (h : Dw E g n fl wr) (o : Off L g g') (h0 : 1037 ∉ L ∧ 1038 ∉ L ∧ 1039 ∉ L ∧ 1040 ∉ L) : Dw E g' n fl wr := by
  obtain ⟨q, rd, h1, h2, h3, h4, h5⟩ := h
  exact ⟨q, rd, h1, h2, h3, h4, (o _ h0.1).trans h5.hist, (o _ h0.2.1).trans h5.wr, (o _ h0.2.2.1).trans h5.rd, (o _ h0.2.2.2).trans h5.full⟩
theorem TR.off {E : Env} {g g' : Nat → Value} {e fl : Nat} {L : List Nat} (h : TR E g e fl) (o : Off L g g') (h0 : 1049 ∉ L) : TR E g' e fl := by
  unfold TR
  rw [o _ h0]
  exact h
def nx (wr : Nat) : Nat := if wr = 32768 then 0 else wr
/-- readFlush. -/
theorem rf_c (E : Env) (w : World) (g hs bs cs : Nat → Value) (pos n fl wr : Nat) (hE : E.Ok) (hW : Wd E w g hs bs cs pos) (hD : Dw E g n fl wr) :
    Ret 50 [ddp E] w fun v w' => TRv E v fl n ∧ ∃ g', Wd E w' g' hs bs cs pos ∧ Dw E g' n n (nx wr) ∧ Off [1038, 1039, 1040] g g' ∧ Kp E.L w w' := by
  obtain ⟨q, rd, h1, h2, h3, h4, h5⟩ := hD
  refine (readFlush_c E w g wr rd _ hW.F h5 h2 h3).mono ?_
  rintro e w' ⟨v, rfl, rfl, g', hF, hD', ho, kp⟩
  have e1 : wr - rd = n - fl := by omega
  rw [e1]
  refine ⟨_, rfl, ⟨by omega, _, _, rfl, by omega, ?_⟩, g', hW.setF hE hF kp, ?_, ho, kp.mono (by simp [Env.L])⟩
  · intro hlt
    have : fl % 32768 = rd := by omega
    rw [this]
    exact ⟨by rw [cutA_lt _ _ _ _ (by omega), Nat.zero_add], by omega⟩
  · unfold nx
    by_cases hw : wr = 32768
    · rw [if_pos hw] at hD' ⊢
      exact ⟨q + 1, 0, by omega, by omega, by omega, by omega, by simpa [hw] using hD'⟩
    · rw [if_neg hw] at hD' ⊢
      exact ⟨q, wr, by omega, by omega, by omega, by omega, by simpa [hw] using hD'⟩

theorem finish_more (E : Env) (w : World) (g hs bs cs : Nat → Value) (pos : Nat) (hE : E.Ok) (hW : Wd E w g hs bs cs pos) (hf : g 1047 = .bool false) :
    Ret 51 [fp E] w fun v w' => v = .tuple #[] ∧ ∃ g', Wd E w' g' hs bs cs pos ∧ g' 1045 = fnv 35 ∧ Off [1045] g g' ∧ Kp E.L w w' := by
  have kp := Kp.refl E.L w
  refine calls_fr (N := 25) Tryd.func51 rfl rfl (by simp [fp]) rfl ?_
  refine wp_seq ?_
  refine wp_seq ?_
  -- region 0
  refine reg_lit ?_
  refine L1 (mv (v := .pointer _) rfl) ?_
  refine L1 (nilP rfl) ?_
  refine L1 (fa95_13 rfl) ?_
  refine L1 (ld4 rfl (hW.F.cellv (by decide) hf)) ?_
  refine wpList_nil ?_
  refine then_n ?_
  refine cond_f rfl ?_
  refine wp_skip ?_
  refine then_n ?_
  -- region 4
  refine reg_lit ?_
  refine L1 (mv (v := .pointer _) rfl) ?_
  refine L1 (nilP rfl) ?_
  refine L1 (fa95_11 rfl) ?_
  refine Lst92 (v := .func _ _ _) rfl rfl rfl hW.F (by decide) ?_
  intro w1 hb1 kp1
  have hW := hW.setF hE hb1 kp1
  have kp := kp.F kp1
  clear hb1 kp1
  refine wpList_nil ?_
  refine end0 rfl ?_
  exact ⟨_, rfl, rfl, _, hW, rfl, (Off.refl _ g).upd (by simp) _, kp⟩
theorem finish_last (E : Env) (w : World) (g hs bs cs : Nat → Value) (pos : Nat) (hE : E.Ok) (hW : Wd E w g hs bs cs pos) (hf : g 1047 = .bool true) (n fl wr : Nat) (hw : wr < 32768) (hD : Dw E g n fl wr) (hT : TR E g fl fl) :
    Ret 51 [fp E] w fun v w' => v = .tuple #[] ∧ ∃ g', Wd E w' g' hs bs cs pos ∧ g' 1045 = fnv 35 ∧ g' 1048 = EOFv E ∧ Dw E g' n n (nx wr) ∧ TR E g' fl n ∧ Off [1038, 1039, 1040, 1045, 1048, 1049] g g' ∧ Kp E.L w w' := by
  have kp := Kp.refl E.L w
  have hD0 := hD
  obtain ⟨q, rd, h1, h2, h3, h4, h5⟩ := hD
  refine calls_fr (N := 25) Tryd.func51 rfl rfl (by simp [fp]) rfl ?_
  refine wp_seq ?_
  refine wp_seq ?_
  -- region 0
  refine reg_lit ?_
  refine L1 (mv (v := .pointer _) rfl) ?_
  refine L1 (nilP rfl) ?_
  refine L1 (fa95_13 rfl) ?_
  refine L1 (ld4 rfl (hW.F.cellv (by decide) hf)) ?_
  refine wpList_nil ?_
  refine then_n ?_
  refine cond_t rfl ?_
  refine wp_seq ?_
  refine wp_seq ?_
  -- region 1
  refine reg_lit ?_
  refine L1 (mv (v := .pointer _) rfl) ?_
  refine L1 (nilP rfl) ?_
  refine L1 (fa95_9 rfl) ?_
  refine LC (cl1 has62 rfl rfl) (availRead_c E _ g wr rd _ hW.F h5 h2 h3) ?_
  rintro v w1 ⟨rfl, rfl⟩
  have hW := hW.drew
  have kp := kp.drew
  refine L1 (bi rfl rfl (bn_gtr (v := decide (rd < wr)) (decide_eq_decide.2 (by omega)))) ?_
  refine wpList_nil ?_
  refine then_n ?_
  refine cond_d (p := rd < wr) rfl (fun hlt => ?_) (fun hlt => ?_)
  · -- yes
    -- region 2
    refine reg_lit ?_
    refine L1 (mv (v := .pointer _) rfl) ?_
    refine L1 (mv (v := .pointer _) rfl) ?_
    refine L1 (nilP rfl) ?_
    refine L1 (fa95_9 rfl) ?_
    refine LC (cl1 has50 rfl rfl) (rf_c E _ g hs bs cs pos n fl wr hE hW hD0) ?_
    rintro v w1 ⟨hv, g1, hW, hD, ho, kp1⟩
    have kp := kp.trans kp1
    refine L1 (nilP rfl) ?_
    refine L1 (fa95_15 rfl) ?_
    refine Lst22 (v := v) rfl rfl (by obtain ⟨_, _, _, rfl, _⟩ := hv; rfl) hW.F (by decide) ?_
    intro w1 hb1 kp1
    have hW := hW.setF hE hb1 kp1
    have kp := kp.F kp1
    refine wpList_nil ?_
    refine then_n ?_
    -- region 3
    refine reg_lit ?_
    refine L1 (mv (v := .pointer _) rfl) ?_
    refine L1 (ld62 (v := .iface _ _) rfl hW.gl.eof) ?_
    refine L1 (nilP rfl) ?_
    refine L1 (fa95_14 rfl) ?_
    refine Lst62 (v := .iface _ _) rfl rfl rfl hW.F (by decide) ?_
    intro w1 hb1 kp1
    have hW := hW.setF hE hb1 kp1
    have kp := kp.F kp1
    clear hb1 kp1
    refine wpList_nil ?_
    refine then_n ?_
    -- region 4
    refine reg_lit ?_
    refine L1 (mv (v := .pointer _) rfl) ?_
    refine L1 (nilP rfl) ?_
    refine L1 (fa95_11 rfl) ?_
    refine Lst92 (v := .func _ _ _) rfl rfl rfl hW.F (by decide) ?_
    intro w1 hb1 kp1
    have hW := hW.setF hE hb1 kp1
    have kp := kp.F kp1
    clear hb1 kp1
    refine wpList_nil ?_
    refine end0 rfl ?_
    refine ⟨_, rfl, rfl, _, hW, rfl, rfl, hD.off (((Off.refl _ g1).upd (k := 1049) (by decide) _).upd (k := 1048) (by decide) _ |>.upd (k := 1045) (by decide) _ : Off [1045, 1048, 1049] g1 _) (by decide), hv, ?_, kp⟩
    exact (((ho.mono (by simp)).upd (by simp) _).upd (by simp) _).upd (by simp) _
  · -- no
    refine wp_skip ?_
    refine then_n ?_
    -- region 3
    refine reg_lit ?_
    refine L1 (mv (v := .pointer _) rfl) ?_
    refine L1 (ld62 (v := .iface _ _) rfl hW.gl.eof) ?_
    refine L1 (nilP rfl) ?_
    refine L1 (fa95_14 rfl) ?_
    refine Lst62 (v := .iface _ _) rfl rfl rfl hW.F (by decide) ?_
    intro w1 hb1 kp1
    have hW := hW.setF hE hb1 kp1
    have kp := kp.F kp1
    clear hb1 kp1
    refine wpList_nil ?_
    refine then_n ?_
    -- region 4
    refine reg_lit ?_
    refine L1 (mv (v := .pointer _) rfl) ?_
    refine L1 (nilP rfl) ?_
    refine L1 (fa95_11 rfl) ?_
    refine Lst92 (v := .func _ _ _) rfl rfl rfl hW.F (by decide) ?_
    intro w1 hb1 kp1
    have hW := hW.setF hE hb1 kp1
    have kp := kp.F kp1
    clear hb1 kp1
    refine wpList_nil ?_
    refine end0 rfl ?_
    have e1 : fl = n := by omega
    subst e1
    refine ⟨_, rfl, rfl, _, hW, rfl, rfl, ?_, hT, ?_, kp⟩
    · have : nx wr = wr := by unfold nx; rw [if_neg (by omega)]
      rw [this]
      exact hD0.off (((Off.refl _ g).upd (k := 1048) (by decide) _).upd (k := 1045) (by decide) _ : Off [1045, 1048] g _) (by decide)
    · exact ((Off.refl _ g).upd (by simp) _).upd (by simp) _
end Go.Proofs.YtejeloeaklpinaaDoor
