/- The leaves: bytes read, errors turned, bits fetched. Its walks are printed by gen/g_leaf.py. -/
import Derived.Test.YtejeloeaklpinaaDoorOps2
import Derived.Test.YtejeloeaklpinaaDoorBits
namespace Go.Proofs.YtejeloeaklpinaaDoor
attribute [local irreducible] wpList wpStill Code.wp Calls fr

theorem readByte_ok (E : Env) (w : World) (pos : Nat) (hE : E.Ok) (hrd : Rd E w pos) (hp : pos < E.N) :
    Ret 82 [.pointer (some ⟨E.R, 0, none⟩)] w fun v w' => v = .tuple #[.int .u8 (E.d pos), .nilIface] ∧ Rd E w' (pos + 1) ∧ Kp [E.R] w w' := by
  obtain ⟨v, z, r, hR, r0, r1, r2, hle, hd⟩ := hrd
  have hN := hE.N47
  obtain ⟨sa, sc, rfl⟩ := hd.len
  have kp := Kp.refl [E.R] w
  refine calls_fr (N := 37) Tryd.func82 rfl rfl (by simp) rfl ?_
  -- region 0
  refine wp_seq (reg_lit ?_)
  refine L1 (asg (v := .int _ _) rfl) ?_
  refine L1 (asg (v := .nilIface) rfl) ?_
  refine nil_then ?_
  -- region 1
  refine wp_seq (reg_lit ?_)
  refine L1 (mv (v := .pointer _) rfl) ?_
  refine L1 (nilP rfl) ?_
  refine L1 (fa70_2 rfl) ?_
  refine Lst3 (v := .int _ _) rfl rfl rfl hR (by decide) ?_
  intro w1 hR kp1
  have hd := hd.kp kp1 (by simp; exact fun h => hE.RS h.symm)
  have kp := kp.trans (kp1.mono (by simp))
  refine nil_then ?_
  refine wp_seq ?_
  -- region 2 (its order is open)
  refine wp_seq (reg_still mixed (by kernel_rfl) ?_)
  refine S1 (mv (v := .pointer _) rfl) ?_
  refine S1 (nilP rfl) ?_
  refine S1 (fa70_1 rfl) ?_
  refine S1 (ld2 rfl (hR.cellv (by decide) r1)) ?_
  refine S1 (mv (v := .pointer _) rfl) ?_
  refine S1 (nilP rfl) ?_
  refine S1 (fa70_0 rfl) ?_
  refine S1 (ld22 rfl (hR.cellv (by decide) r0)) ?_
  refine S1 (ln und22 rfl) ?_
  refine S1 (bi rfl rfl (bn_geq (v := false) (decide_eq_false (by omega)))) ?_
  refine still_nil ?_
  have kp := kp.drew
  have hR := hR.drew
  have hd := hd.drew
  refine then_n ?_
  refine cond_f rfl ?_
  refine wp_skip ?_
  refine then_n ?_
  rcases hd with ⟨h1, h2⟩ | ⟨c, n, g, h1, hS, hn, hg⟩
  · omega
  simp only [Value.slice.injEq] at h1
  obtain ⟨rfl, -, rfl⟩ := h1
  -- region 4 (its order is open)
  refine wp_seq (reg_still mixed (by kernel_rfl) ?_)
  refine S1 (mv (v := .pointer _) rfl) ?_
  refine S1 (nilP rfl) ?_
  refine S1 (fa70_0 rfl) ?_
  refine S1 (ld22 rfl (hR.cellv (by decide) r0)) ?_
  refine S1 (mv (v := .pointer _) rfl) ?_
  refine S1 (nilP rfl) ?_
  refine S1 (fa70_1 rfl) ?_
  refine S1 (ld2 rfl (hR.cellv (by decide) r1)) ?_
  refine S1 (ix0 und22 sz5 rfl rfl rfl hp) ?_
  refine S1 (ld5 rfl (hS.cellv (by omega) (hg pos hp))) ?_
  refine S1 (asg (v := .int _ _) rfl) ?_
  refine still_nil ?_
  have kp := kp.drew
  have hR := hR.drew
  have hS := hS.drew
  refine then_n ?_
  -- region 5
  refine wp_seq (reg_lit ?_)
  refine L1 (mv (v := .pointer _) rfl) ?_
  refine L1 (nilP rfl) ?_
  refine L1 (fa70_1 rfl) ?_
  refine L1 (ld2 rfl (hR.cellv (by decide) r1)) ?_
  refine L1 (bi rfl rfl (bn_add rfl (by omega) (by omega))) ?_
  refine L1 (nilP rfl) ?_
  refine L1 (fa70_1 rfl) ?_
  refine Lst2 (v := .int _ _) rfl rfl rfl hR (by decide) ?_
  intro w1 hR kp1
  have hS := hS.kp kp1 (by simp; exact fun h => hE.RS h.symm)
  have kp := kp.trans (kp1.mono (by simp))
  refine nil_then ?_
  -- region 6
  refine wp_seq (reg_lit ?_)
  refine L1 (mv (v := .int _ _) rfl) ?_
  refine L1 (asg (v := .int _ _) rfl) ?_
  refine L1 (asg (v := .nilIface) rfl) ?_
  refine nil_then ?_
  refine wp_ret ?_
  refine ret2 rfl rfl rfl ?_
  exact ⟨_, rfl, rfl, ⟨_, _, _, hR, r0, rfl, rfl, by omega, .inr ⟨_, n, g, rfl, hS, hn, hg⟩⟩, kp⟩
theorem readByte_eof (E : Env) (w : World) (pos : Nat) (hE : E.Ok) (hG : Gl E w) (hrd : Rd E w pos) (hp : pos = E.N) :
    Ret 82 [.pointer (some ⟨E.R, 0, none⟩)] w fun v w' => v = .tuple #[.int .u8 0, EOFv E] ∧ Rd E w' pos ∧ Kp [E.R] w w' := by
  obtain ⟨v, z, r, hR, r0, r1, r2, hle, hd⟩ := hrd
  have hN := hE.N47
  obtain ⟨sa, sc, rfl⟩ := hd.len
  have kp := Kp.refl [E.R] w
  have hL : ∀ b, b ∈ [E.R] → E.B ≤ b := by simp; exact hE.bR
  refine calls_fr (N := 37) Tryd.func82 rfl rfl (by simp) rfl ?_
  -- region 0
  refine wp_seq (reg_lit ?_)
  refine L1 (asg (v := .int _ _) rfl) ?_
  refine L1 (asg (v := .nilIface) rfl) ?_
  refine nil_then ?_
  -- region 1
  refine wp_seq (reg_lit ?_)
  refine L1 (mv (v := .pointer _) rfl) ?_
  refine L1 (nilP rfl) ?_
  refine L1 (fa70_2 rfl) ?_
  refine Lst3 (v := .int _ _) rfl rfl rfl hR (by decide) ?_
  intro w1 hR kp1
  have hd := hd.kp kp1 (by simp; exact fun h => hE.RS h.symm)
  have kp := kp.trans (kp1.mono (by simp))
  refine nil_then ?_
  refine wp_seq ?_
  -- region 2 (its order is open)
  refine wp_seq (reg_still mixed (by kernel_rfl) ?_)
  refine S1 (mv (v := .pointer _) rfl) ?_
  refine S1 (nilP rfl) ?_
  refine S1 (fa70_1 rfl) ?_
  refine S1 (ld2 rfl (hR.cellv (by decide) r1)) ?_
  refine S1 (mv (v := .pointer _) rfl) ?_
  refine S1 (nilP rfl) ?_
  refine S1 (fa70_0 rfl) ?_
  refine S1 (ld22 rfl (hR.cellv (by decide) r0)) ?_
  refine S1 (ln und22 rfl) ?_
  refine S1 (bi rfl rfl (bn_geq (v := true) (decide_eq_true (by omega)))) ?_
  refine still_nil ?_
  have kp := kp.drew
  have hR := hR.drew
  have hd := hd.drew
  refine then_n ?_
  refine cond_t rfl ?_
  -- region 3 (its order is open)
  refine wp_seq (reg_still mixed (by kernel_rfl) ?_)
  refine S1 (ld62 rfl (hG.kp kp hL).eof) ?_
  refine S1 (asg (v := .int _ _) rfl) ?_
  refine S1 (asg rfl) ?_
  refine still_nil ?_
  have kp := kp.drew
  have hR := hR.drew
  have hd := hd.drew
  refine then_n ?_
  refine wp_ret ?_
  refine then_r ?_
  refine ret2 rfl rfl rfl ?_
  exact ⟨_, rfl, rfl, ⟨_, _, _, hR, r0, r1, rfl, hle, hd⟩, kp⟩
theorem noEOF_eof (E : Env) (w : World) (hG : Gl E w) : Ret 48 [EOFv E] w fun v w' => v = UEOFv E ∧ w' = w := by
  refine calls_fr (N := 8) Tryd.func48 rfl rfl (by simp) rfl ?_
  -- region 0
  refine wp_seq (reg_lit ?_)
  refine L1 (asg (v := .nilIface) rfl) ?_
  refine nil_then ?_
  refine wp_seq ?_
  -- region 1
  refine wp_seq (reg_lit ?_)
  refine L1 (mv (v := .iface _ _) rfl) ?_
  refine L1 (ld62 (v := .iface _ _) rfl hG.eof) ?_
  refine L1 (ee_run rfl rfl (eq_same _)) ?_
  refine nil_then ?_
  refine cond_t rfl ?_
  -- region 2
  refine wp_seq (reg_lit ?_)
  refine L1 (ld62 (v := .iface _ _) rfl hG.ueof) ?_
  refine L1 (asg (v := .iface _ _) rfl) ?_
  refine nil_then ?_
  refine wp_ret ?_
  refine then_r ?_
  refine ret1 rfl rfl ?_
  exact ⟨_, rfl, rfl, rfl⟩
theorem noEOF_ueof (E : Env) (w : World) (hG : Gl E w) : Ret 48 [UEOFv E] w fun v w' => v = UEOFv E ∧ w' = w := by
  refine calls_fr (N := 8) Tryd.func48 rfl rfl (by simp) rfl ?_
  -- region 0
  refine wp_seq (reg_lit ?_)
  refine L1 (asg (v := .nilIface) rfl) ?_
  refine nil_then ?_
  refine wp_seq ?_
  -- region 1
  refine wp_seq (reg_lit ?_)
  refine L1 (mv (v := .iface _ _) rfl) ?_
  refine L1 (ld62 (v := .iface _ _) rfl hG.eof) ?_
  refine L1 (ee_run rfl rfl (eq_other (fun h => hG.ne h.symm) hG.hU hG.hE)) ?_
  refine nil_then ?_
  refine cond_f rfl ?_
  refine wp_skip ?_
  refine then_n ?_
  -- region 3
  refine wp_seq (reg_lit ?_)
  refine L1 (mv (v := .iface _ _) rfl) ?_
  refine L1 (asg (v := .iface _ _) rfl) ?_
  refine nil_then ?_
  refine wp_ret ?_
  refine ret1 rfl rfl ?_
  exact ⟨_, rfl, rfl, rfl⟩
theorem codeOf_eof (E : Env) (w : World) (hG : Gl E w) : Ret 25 [EOFv E] w fun v w' => v = .int .i64 0 ∧ w' = w := by
  refine calls_fr (N := 10) Tryd.func25 rfl rfl (by simp) rfl ?_
  -- region 0
  refine wp_seq (reg_lit ?_)
  refine L1 (asg (v := .int _ _) rfl) ?_
  refine nil_then ?_
  refine wp_seq ?_
  -- region 1
  refine wp_seq (reg_lit ?_)
  refine L1 (mv (v := .iface _ _) rfl) ?_
  refine nil_then ?_
  refine wp_block ?_
  -- region 2
  refine wp_seq (reg_lit ?_)
  refine L1 (ld62 (v := .iface _ _) rfl hG.eof) ?_
  refine L1 (ee_run rfl rfl (eq_same _)) ?_
  refine L1 (asg (v := .bool _) rfl) ?_
  refine nil_then ?_
  refine cond_t rfl ?_
  -- region 3
  refine wp_seq (reg_lit ?_)
  refine L1 (asg (v := .int _ _) rfl) ?_
  refine nil_then ?_
  refine wp_ret ?_
  refine inb_r ?_
  refine then_r ?_
  refine ret1 rfl rfl ?_
  exact ⟨_, rfl, rfl, rfl⟩
theorem codeOf_ueof (E : Env) (w : World) (hG : Gl E w) : Ret 25 [UEOFv E] w fun v w' => v = .int .i64 2 ∧ w' = w := by
  refine calls_fr (N := 10) Tryd.func25 rfl rfl (by simp) rfl ?_
  -- region 0
  refine wp_seq (reg_lit ?_)
  refine L1 (asg (v := .int _ _) rfl) ?_
  refine nil_then ?_
  refine wp_seq ?_
  -- region 1
  refine wp_seq (reg_lit ?_)
  refine L1 (mv (v := .iface _ _) rfl) ?_
  refine nil_then ?_
  refine wp_block ?_
  -- region 2
  refine wp_seq (reg_lit ?_)
  refine L1 (ld62 (v := .iface _ _) rfl hG.eof) ?_
  refine L1 (ee_run rfl rfl (eq_other (fun h => hG.ne h.symm) hG.hU hG.hE)) ?_
  refine L1 (asg (v := .bool _) rfl) ?_
  refine nil_then ?_
  refine cond_f rfl ?_
  -- region 4
  refine wp_seq (reg_lit ?_)
  refine L1 (ld62 (v := .iface _ _) rfl hG.ueof) ?_
  refine L1 (ee_run rfl rfl (eq_same _)) ?_
  refine L1 (asg (v := .bool _) rfl) ?_
  refine nil_then ?_
  refine cond_t rfl ?_
  -- region 5
  refine wp_seq (reg_lit ?_)
  refine L1 (asg (v := .int _ _) rfl) ?_
  refine nil_then ?_
  refine wp_ret ?_
  refine inb_r ?_
  refine then_r ?_
  refine ret1 rfl rfl ?_
  exact ⟨_, rfl, rfl, rfl⟩
theorem codeOf_cor (E : Env) (w : World) (hG : Gl E w) (n : Int) : Ret 25 [.iface 107 (.int .i64 n)] w fun v w' => v = .int .i64 1 ∧ w' = w := by
  refine calls_fr (N := 10) Tryd.func25 rfl rfl (by simp) rfl ?_
  -- region 0
  refine wp_seq (reg_lit ?_)
  refine L1 (asg (v := .int _ _) rfl) ?_
  refine nil_then ?_
  refine wp_seq ?_
  -- region 1
  refine wp_seq (reg_lit ?_)
  refine L1 (mv (v := .iface _ _) rfl) ?_
  refine nil_then ?_
  refine wp_block ?_
  -- region 2
  refine wp_seq (reg_lit ?_)
  refine L1 (ld62 (v := .iface _ _) rfl hG.eof) ?_
  refine L1 (ee_run rfl rfl (eq_int _ _)) ?_
  refine L1 (asg (v := .bool _) rfl) ?_
  refine nil_then ?_
  refine cond_f rfl ?_
  -- region 4
  refine wp_seq (reg_lit ?_)
  refine L1 (ld62 (v := .iface _ _) rfl hG.ueof) ?_
  refine L1 (ee_run rfl rfl (eq_int _ _)) ?_
  refine L1 (asg (v := .bool _) rfl) ?_
  refine nil_then ?_
  refine cond_f rfl ?_
  refine wp_skip ?_
  refine inb_n ?_
  refine then_n ?_
  -- region 6
  refine wp_seq (reg_lit ?_)
  refine L1 (asg (v := .int _ _) rfl) ?_
  refine nil_then ?_
  refine wp_ret ?_
  refine ret1 rfl rfl ?_
  exact ⟨_, rfl, rfl, rfl⟩
end Go.Proofs.YtejeloeaklpinaaDoor
