/- The window of what was told: its small methods. Its walks are printed by gen/g_dict.py. -/
import Derived.Test.YtejeloeaklpinaaDoorMore
import Derived.Test.YtejeloeaklpinaaDoorOps3
namespace Go.Proofs.YtejeloeaklpinaaDoor
attribute [local irreducible] wpList wpStill Code.wp Calls fr
/-- The window's four cells. -/
structure DD (E : Env) (g : Nat → Value) (wr rd : Nat) (full : Bool) : Prop where
  hist : g 1037 = .slice (some ⟨E.H, 0, none⟩) 32768 32768
  wr : g 1038 = .int .i64 wr
  rd : g 1039 = .int .i64 rd
  full : g 1040 = .bool full
def ddp (E : Env) : Value := .pointer (some ⟨E.F, 1037, none⟩)

theorem availWrite_c (E : Env) (w : World) (g : Nat → Value) (wr rd : Nat) (full : Bool) (hF : Bk w E.F 1054 95 g) (hD : DD E g wr rd full) (hw : wr ≤ 32768) : Ret 56 [ddp E] w fun v w' => v = .int .i64 ((32768 - wr : Nat) : Int) ∧ w' = w.drew := by
  refine calls_fr (N := 13) Tryd.func56 rfl rfl (by simp [ddp]) rfl ?_
  -- region 0
  refine wp_seq (reg_lit ?_)
  refine L1 (asg (v := .int _ _) rfl) ?_
  refine nil_then ?_
  -- region 1 (its order is open)
  refine wp_seq (reg_still mixed (by kernel_rfl) ?_)
  refine S1 (mv (v := .pointer _) rfl) ?_
  refine S1 (nilP rfl) ?_
  refine S1 (fd90_0 rfl) ?_
  refine S1 (ld22 rfl (hF.cellv (by decide) hD.hist)) ?_
  refine S1 (ln und22 rfl) ?_
  refine S1 (mv (v := .pointer _) rfl) ?_
  refine S1 (nilP rfl) ?_
  refine S1 (fd90_1 rfl) ?_
  refine S1 (ld3 rfl (hF.cellv (by decide) hD.wr)) ?_
  refine S1 (bi rfl rfl (bn_sub (c := ((32768 - wr : Nat) : Int)) (by omega) (by omega) (by omega))) ?_
  refine S1 (asg (v := .int _ _) rfl) ?_
  refine still_nil ?_
  have hF := hF.drew
  refine then_n ?_
  refine wp_ret ?_
  refine ret1 rfl rfl ?_
  exact ⟨_, rfl, rfl, rfl⟩
theorem availRead_c (E : Env) (w : World) (g : Nat → Value) (wr rd : Nat) (full : Bool) (hF : Bk w E.F 1054 95 g) (hD : DD E g wr rd full) (hw : wr ≤ 32768) (hr : rd ≤ wr) : Ret 62 [ddp E] w fun v w' => v = .int .i64 ((wr - rd : Nat) : Int) ∧ w' = w.drew := by
  refine calls_fr (N := 12) Tryd.func62 rfl rfl (by simp [ddp]) rfl ?_
  -- region 0
  refine wp_seq (reg_lit ?_)
  refine L1 (asg (v := .int _ _) rfl) ?_
  refine nil_then ?_
  -- region 1 (its order is open)
  refine wp_seq (reg_still mixed (by kernel_rfl) ?_)
  refine S1 (mv (v := .pointer _) rfl) ?_
  refine S1 (nilP rfl) ?_
  refine S1 (fd90_1 rfl) ?_
  refine S1 (ld3 rfl (hF.cellv (by decide) hD.wr)) ?_
  refine S1 (mv (v := .pointer _) rfl) ?_
  refine S1 (nilP rfl) ?_
  refine S1 (fd90_2 rfl) ?_
  refine S1 (ld3 rfl (hF.cellv (by decide) hD.rd)) ?_
  refine S1 (bi rfl rfl (bn_sub (c := ((wr - rd : Nat) : Int)) (by omega) (by omega) (by omega))) ?_
  refine S1 (asg (v := .int _ _) rfl) ?_
  refine still_nil ?_
  have hF := hF.drew
  refine then_n ?_
  refine wp_ret ?_
  refine ret1 rfl rfl ?_
  exact ⟨_, rfl, rfl, rfl⟩
theorem histSize_c (E : Env) (w : World) (g : Nat → Value) (wr rd : Nat) (full : Bool) (hF : Bk w E.F 1054 95 g) (hD : DD E g wr rd full) : Ret 58 [ddp E] w fun v w' => v = .int .i64 ((if full then 32768 else wr : Nat) : Int) ∧ w' = w := by
  refine calls_fr (N := 16) Tryd.func58 rfl rfl (by simp [ddp]) rfl ?_
  -- region 0
  refine wp_seq (reg_lit ?_)
  refine L1 (asg (v := .int _ _) rfl) ?_
  refine nil_then ?_
  refine wp_seq ?_
  -- region 1
  refine wp_seq (reg_lit ?_)
  refine L1 (mv (v := .pointer _) rfl) ?_
  refine L1 (nilP rfl) ?_
  refine L1 (fd90_3 rfl) ?_
  refine L1 (ld4 rfl (hF.cellv (by decide) hD.full)) ?_
  refine nil_then ?_
  cases full
  · -- not full
    refine cond_f rfl ?_
    refine wp_skip ?_
    refine then_n ?_
    -- region 3
    refine wp_seq (reg_lit ?_)
    refine L1 (mv (v := .pointer _) rfl) ?_
    refine L1 (nilP rfl) ?_
    refine L1 (fd90_1 rfl) ?_
    refine L1 (ld3 rfl (hF.cellv (by decide) hD.wr)) ?_
    refine L1 (asg (v := .int _ _) rfl) ?_
    refine nil_then ?_
    refine wp_ret ?_
    refine ret1 rfl rfl ?_
    exact ⟨_, rfl, rfl, rfl⟩
  · -- full
    refine cond_t rfl ?_
    -- region 2
    refine wp_seq (reg_lit ?_)
    refine L1 (mv (v := .pointer _) rfl) ?_
    refine L1 (nilP rfl) ?_
    refine L1 (fd90_0 rfl) ?_
    refine L1 (ld22 rfl (hF.cellv (by decide) hD.hist)) ?_
    refine L1 (ln und22 rfl) ?_
    refine L1 (asg (v := .int _ _) rfl) ?_
    refine nil_then ?_
    refine wp_ret ?_
    refine then_r ?_
    refine ret1 rfl rfl ?_
    exact ⟨_, rfl, rfl, rfl⟩
theorem writeSlice_c (E : Env) (w : World) (g : Nat → Value) (wr rd : Nat) (full : Bool) (hF : Bk w E.F 1054 95 g) (hD : DD E g wr rd full) (hw : wr < 32768) : Ret 63 [ddp E] w fun v w' => v = .slice (some ⟨E.H, wr, none⟩) (32768 - wr) (32768 - wr) ∧ w' = w.drew := by
  refine calls_fr (N := 12) Tryd.func63 rfl rfl (by simp [ddp]) rfl ?_
  -- region 0
  refine wp_seq (reg_lit ?_)
  refine L1 (asg (v := .slice _ _ _) rfl) ?_
  refine nil_then ?_
  -- region 1 (its order is open)
  refine wp_seq (reg_still mixed (by kernel_rfl) ?_)
  refine S1 (mv (v := .pointer _) rfl) ?_
  refine S1 (nilP rfl) ?_
  refine S1 (fd90_0 rfl) ?_
  refine S1 (ld22 rfl (hF.cellv (by decide) hD.hist)) ?_
  refine S1 (mv (v := .pointer _) rfl) ?_
  refine S1 (nilP rfl) ?_
  refine S1 (fd90_1 rfl) ?_
  refine S1 (ld3 rfl (hF.cellv (by decide) hD.wr)) ?_
  refine S1 (sl_l und22 sz5 rfl rfl rfl (by omega)) ?_
  refine S1 (asg (v := .slice _ _ _) rfl) ?_
  refine still_nil ?_
  have hF := hF.drew
  refine then_n ?_
  refine wp_ret ?_
  refine ret1 (v := .slice _ _ _) rfl rfl ?_
  exact ⟨_, rfl, by rw [cutA_lt _ _ _ _ hw, Nat.zero_add], rfl⟩
theorem writeMark_c (E : Env) (w : World) (g : Nat → Value) (wr rd : Nat) (full : Bool) (hF : Bk w E.F 1054 95 g) (hD : DD E g wr rd full) (n : Nat) (hw : wr + n ≤ 32768) : Ret 64 [ddp E, .int .i64 n] w fun v w' => v = .tuple #[] ∧ Bk w' E.F 1054 95 (upd g 1038 (.int .i64 ((wr + n : Nat) : Int))) ∧ Kp [E.F] w w' := by
  refine calls_fr (N := 12) Tryd.func64 rfl rfl (by simp [ddp]) rfl ?_
  have kp := Kp.refl [E.F] w
  -- region 0
  refine reg_lit ?_
  refine L1 (mv (v := .pointer _) rfl) ?_
  refine L1 (nilP rfl) ?_
  refine L1 (fd90_1 rfl) ?_
  refine L1 (ld3 rfl (hF.cellv (by decide) hD.wr)) ?_
  refine L1 (mv (v := .int _ _) rfl) ?_
  refine L1 (bi rfl rfl (bn_add (c := ((wr + n : Nat) : Int)) (by omega) (by omega) (by omega))) ?_
  refine L1 (nilP rfl) ?_
  refine L1 (fd90_1 rfl) ?_
  refine Lst3 (v := .int _ _) rfl rfl rfl hF (by decide) ?_
  intro w1 hF kp1
  have kp := kp.trans (kp1.mono (by simp))
  refine wpList_nil ?_
  refine end0 rfl ?_
  exact ⟨_, rfl, rfl, hF, kp⟩
theorem writeByte_c (E : Env) (w : World) (g : Nat → Value) (wr rd : Nat) (full : Bool) (hF : Bk w E.F 1054 95 g) (hD : DD E g wr rd full) (hE : E.Ok) (hs : Nat → Value) (hH : Bk w E.H 32768 5 hs) (c : Nat) (hw : wr < 32768) : Ret 55 [ddp E, .int .u8 c] w fun v w' => v = .tuple #[] ∧ Bk w' E.F 1054 95 (upd g 1038 (.int .i64 ((wr + 1 : Nat) : Int))) ∧ Bk w' E.H 32768 5 (upd hs wr (.int .u8 c)) ∧ Kp [E.F, E.H] w w' := by
  refine calls_fr (N := 21) Tryd.func55 rfl rfl (by simp [ddp]) rfl ?_
  have kp := Kp.refl [E.F, E.H] w
  -- region 0 (its order is open)
  refine wp_seq (reg_tail 9 mixed (by kernel_rfl) ?_)
  refine S1 (mv (v := .pointer _) rfl) ?_
  refine S1 (nilP rfl) ?_
  refine S1 (fd90_0 rfl) ?_
  refine S1 (ld22 rfl (hF.cellv (by decide) hD.hist)) ?_
  refine S1 (mv (v := .pointer _) rfl) ?_
  refine S1 (nilP rfl) ?_
  refine S1 (fd90_1 rfl) ?_
  refine S1 (ld3 rfl (hF.cellv (by decide) hD.wr)) ?_
  refine S1 (mv (v := .int _ _) rfl) ?_
  refine still_nil ?_
  have kp := kp.drew
  have hF := hF.drew
  have hH := hH.drew
  refine L1 (ix0 und22 sz5 rfl rfl rfl hw) ?_
  refine Lst5 (v := .int _ _) rfl rfl rfl hH hw ?_
  intro w1 hH kp1
  have hF := hF.kp kp1 (by simp; exact hE.FH)
  have kp := kp.trans (kp1.mono (by simp))
  refine nil_then ?_
  -- region 1
  refine reg_lit ?_
  refine L1 (mv (v := .pointer _) rfl) ?_
  refine L1 (nilP rfl) ?_
  refine L1 (fd90_1 rfl) ?_
  refine L1 (ld3 rfl (hF.cellv (by decide) hD.wr)) ?_
  refine L1 (bi rfl rfl (bn_add (c := ((wr + 1 : Nat) : Int)) (by omega) (by omega) (by omega))) ?_
  refine L1 (nilP rfl) ?_
  refine L1 (fd90_1 rfl) ?_
  refine Lst3 (v := .int _ _) rfl rfl rfl hF (by decide) ?_
  intro w1 hF kp1
  have hH := hH.kp kp1 (by simp; exact fun h => hE.FH h.symm)
  have kp := kp.trans (kp1.mono (by simp))
  refine wpList_nil ?_
  refine end0 rfl ?_
  exact ⟨_, rfl, rfl, hF, hH, kp⟩
theorem readFlush_c (E : Env) (w : World) (g : Nat → Value) (wr rd : Nat) (full : Bool) (hF : Bk w E.F 1054 95 g) (hD : DD E g wr rd full) (hw : wr ≤ 32768) (hr : rd ≤ wr) : Ret 50 [ddp E] w fun v w' => v = .slice (cutA (some ⟨E.H, 0, none⟩) rd 32768) (wr - rd) (32768 - rd) ∧ ∃ g', Bk w' E.F 1054 95 g' ∧ DD E g' (if wr = 32768 then 0 else wr) (if wr = 32768 then 0 else wr) (full || decide (wr = 32768)) ∧ Off [1038, 1039, 1040] g g' ∧ Kp [E.F] w w' := by
  refine calls_fr (N := 44) Tryd.func50 rfl rfl (by simp [ddp]) rfl ?_
  have kp := Kp.refl [E.F] w
  -- region 0
  refine wp_seq (reg_lit ?_)
  refine L1 (asg (v := .slice _ _ _) rfl) ?_
  refine nil_then ?_
  -- region 1 (its order is open)
  refine wp_seq (reg_still mixed (by kernel_rfl) ?_)
  refine S1 (mv (v := .pointer _) rfl) ?_
  refine S1 (nilP rfl) ?_
  refine S1 (fd90_0 rfl) ?_
  refine S1 (ld22 rfl (hF.cellv (by decide) hD.hist)) ?_
  refine S1 (mv (v := .pointer _) rfl) ?_
  refine S1 (nilP rfl) ?_
  refine S1 (fd90_2 rfl) ?_
  refine S1 (ld3 rfl (hF.cellv (by decide) hD.rd)) ?_
  refine S1 (mv (v := .pointer _) rfl) ?_
  refine S1 (nilP rfl) ?_
  refine S1 (fd90_1 rfl) ?_
  refine S1 (ld3 rfl (hF.cellv (by decide) hD.wr)) ?_
  refine S1 (sl_lh und22 sz5 rfl rfl rfl rfl rfl (by omega) (by omega)) ?_
  refine S1 (asg (v := .slice _ _ _) rfl) ?_
  refine still_nil ?_
  have kp := kp.drew
  have hF := hF.drew
  refine then_n ?_
  -- region 2
  refine wp_seq (reg_lit ?_)
  refine L1 (mv (v := .pointer _) rfl) ?_
  refine L1 (mv (v := .pointer _) rfl) ?_
  refine L1 (nilP rfl) ?_
  refine L1 (fd90_1 rfl) ?_
  refine L1 (ld3 rfl (hF.cellv (by decide) hD.wr)) ?_
  refine L1 (nilP rfl) ?_
  refine L1 (fd90_2 rfl) ?_
  refine Lst3 (v := .int _ _) rfl rfl rfl hF (by decide) ?_
  intro w1 hF kp1
  have kp := kp.trans (kp1.mono (by simp))
  refine nil_then ?_
  refine wp_seq ?_
  by_cases hfull : wr = 32768
  · -- the window is full
    -- region 3 (its order is open)
    refine wp_seq (reg_still mixed (by kernel_rfl) ?_)
    refine S1 (mv (v := .pointer _) rfl) ?_
    refine S1 (nilP rfl) ?_
    refine S1 (fd90_1 rfl) ?_
    refine S1 (ld3 rfl (hF.cellv (by decide) hD.wr)) ?_
    refine S1 (mv (v := .pointer _) rfl) ?_
    refine S1 (nilP rfl) ?_
    refine S1 (fd90_0 rfl) ?_
    refine S1 (ld22 rfl (hF.cellv (by decide) hD.hist)) ?_
    refine S1 (ln und22 rfl) ?_
    refine S1 (bi rfl rfl (bn_eql (v := true) (decide_eq_true (by omega)))) ?_
    refine still_nil ?_
    have kp := kp.drew
    have hF := hF.drew
    refine then_n ?_
    refine cond_t rfl ?_
    -- region 4
    refine wp_seq (reg_lit ?_)
    refine L1 (mv (v := .pointer _) rfl) ?_
    refine L1 (mv (v := .pointer _) rfl) ?_
    refine L1 (nilP rfl) ?_
    refine L1 (fd90_1 rfl) ?_
    refine Lst3 (v := .int _ _) rfl rfl rfl hF (by decide) ?_
    intro w1 hF kp1
    have kp := kp.trans (kp1.mono (by simp))
    refine L1 (nilP rfl) ?_
    refine L1 (fd90_2 rfl) ?_
    refine Lst3 (v := .int _ _) rfl rfl rfl hF (by decide) ?_
    intro w1 hF kp1
    have kp := kp.trans (kp1.mono (by simp))
    refine nil_then ?_
    -- region 5
    refine reg_lit ?_
    refine L1 (mv (v := .pointer _) rfl) ?_
    refine L1 (nilP rfl) ?_
    refine L1 (fd90_3 rfl) ?_
    refine Lst4 (v := .bool _) rfl rfl rfl hF (by decide) ?_
    intro w1 hF kp1
    have kp := kp.trans (kp1.mono (by simp))
    refine wpList_nil ?_
    refine then_n ?_
    -- region 6
    refine wp_seq (reg_lit ?_)
    refine L1 (mv (v := .slice _ _ _) rfl) ?_
    refine L1 (asg (v := .slice _ _ _) rfl) ?_
    refine nil_then ?_
    refine wp_ret ?_
    refine ret1 rfl rfl ?_
    refine ⟨_, rfl, rfl, _, hF, ?_, ?_, kp⟩
    · rw [if_pos hfull]
      exact ⟨hD.hist, rfl, rfl, by simp [hfull]; rfl⟩
    · exact ((((Off.refl _ g).upd (by simp) _).upd (by simp) _).upd (by simp) _).upd (by simp) _
  · -- it is not
    -- region 3 (its order is open)
    refine wp_seq (reg_still mixed (by kernel_rfl) ?_)
    refine S1 (mv (v := .pointer _) rfl) ?_
    refine S1 (nilP rfl) ?_
    refine S1 (fd90_1 rfl) ?_
    refine S1 (ld3 rfl (hF.cellv (by decide) hD.wr)) ?_
    refine S1 (mv (v := .pointer _) rfl) ?_
    refine S1 (nilP rfl) ?_
    refine S1 (fd90_0 rfl) ?_
    refine S1 (ld22 rfl (hF.cellv (by decide) hD.hist)) ?_
    refine S1 (ln und22 rfl) ?_
    refine S1 (bi rfl rfl (bn_eql (v := false) (decide_eq_false (by omega)))) ?_
    refine still_nil ?_
    have kp := kp.drew
    have hF := hF.drew
    refine then_n ?_
    refine cond_f rfl ?_
    refine wp_skip ?_
    refine then_n ?_
    -- region 6
    refine wp_seq (reg_lit ?_)
    refine L1 (mv (v := .slice _ _ _) rfl) ?_
    refine L1 (asg (v := .slice _ _ _) rfl) ?_
    refine nil_then ?_
    refine wp_ret ?_
    refine ret1 rfl rfl ?_
    refine ⟨_, rfl, rfl, _, hF, ?_, ?_, kp⟩
    · rw [if_neg hfull]
      exact ⟨hD.hist, hD.wr, rfl, by simp [hfull]; exact hD.full⟩
    · exact (Off.refl _ g).upd (by simp) _
end Go.Proofs.YtejeloeaklpinaaDoor
