/- FnReset: for every stream that was read ahead, every stream and every dictionary the law answers true, the arguments and the listed variables as they were; the listed variables start as the program's text lays them. -/
import Derived.Test.YtejeloeaklpinaaDoorRm4
/- readHuffman: the codes of a block with codes of its own. Its walk is printed by gen/g_dyn.py. -/
namespace Go.Proofs.YtejeloeaklpinaaDoor
attribute [local irreducible] wpList wpStill wpMix Code.wp Calls fr

set_option maxHeartbeats 1000000 in
theorem dyn_c : C45 := by
  intro E w a g hs bs cs hE hC hL hmd herr
  have kp := Kp.refl E.L w
  have hN := hE.N47
  have hW := hC.W
  have hSt := hC.S
  have hB := hL.B
  have ho := Off.refl RL g
  have hZ : HZs g := hC.Z
  have hS := hSt
  refine calls_fr (N := 340) Tryd.func45 rfl rfl (by simp [fp]) rfl ?_
  refine wp_seq ?_
  -- region 0
  refine reg_lit ?_
  refine L1 (asg (v := .nilIface) rfl) ?_
  refine wpList_nil ?_
  refine then_n ?_
  refine wp_seq ?_
  refine wp_block ?_
  refine loop_fr (fun k f w' => f 0 = fp E ∧ ∃ g' pos', Wd E w' g' hs bs cs pos' ∧ Bt E g' (a.p) pos' ∧ Off RL g g' ∧ HZs g' ∧ Kp E.L w w' ∧ a.pos ≤ pos' ∧ (pos' = a.pos ∨ 8 * pos' < a.p + 14 + 8) ∧ k = E.N - pos') (E.N - a.pos) ⟨rfl, _, a.pos, hW, hB, ho, hZ, kp, Nat.le_refl _, .inl rfl, rfl⟩ ?_
  clear hW kp hB ho hZ
  intro k f wq HJ
  obtain ⟨t0, gq, posq, hW, hB, ho, hZ, kp, hpp, hpq, rfl⟩ := HJ
  have hp0 := hB.le
  have hp1 := hB.l32
  have hS := hSt.rl ho
  obtain ⟨ro, hro⟩ := hB.ro
  refine slots (fc t0 fnil) ?_
  refine wp_seq ?_
  refine wp_seq ?_
  -- region 1
  refine reg_lit ?_
  refine L1 (mv (v := .pointer _) rfl) ?_
  refine L1 (nilP rfl) ?_
  refine L1 (fa95_4 rfl) ?_
  refine L1 (ld38 rfl (hW.F.cellv (by decide) hB.nb)) ?_
  refine L1 (bi rfl rfl (bn_lss (v := decide (8 * posq - (a.p) < 14)) (decide_eq_decide.2 (by omega)))) ?_
  refine wpList_nil ?_
  refine then_n ?_
  refine cond_d (p := 8 * posq - (a.p) < 14) rfl (fun hlt => ?_) (fun hlt => ?_)
  · skip
    by_cases hpn : posq < E.N
    · skip
      refine wp_skip ?_
      refine then_n ?_
      refine wp_block ?_
      refine wp_seq ?_
      -- region 2
      refine reg_lit ?_
      refine L1 (mv (v := .pointer _) rfl) ?_
      refine LC (cl1 has41 rfl rfl) (more_ok E _ gq hs bs cs (a.p) posq hE hW hS hB (by omega) hpn) ?_
      rintro v w1 ⟨rfl, g2, hW, hB, ho2, kp1⟩
      have kpS := kp1.X
      have kp := kp.trans kp1
      have ho := ho.rl ho2 (by decide)
      have hZ := hZ.low ho2 (by decide)
      refine L1 (asg (v := .nilIface) rfl) ?_
      refine wpList_nil ?_
      refine then_n ?_
      refine wp_seq ?_
      -- region 3
      refine reg_lit ?_
      refine L1 (mv (v := .nilIface) rfl) ?_
      refine L1 (en_nil rfl rfl) ?_
      refine wpList_nil ?_
      refine then_n ?_
      refine cond_f rfl ?_
      refine wp_skip ?_
      refine inb_n ?_
      refine then_n ?_
      have hle := hW.rd.le
      exact ⟨E.N - (posq + 1), _, by omega, rfl, rfl, _, posq + 1, hW, hB, ho, hZ, kp, by omega, .inr (by omega), rfl⟩
    · skip
      refine wp_skip ?_
      refine then_n ?_
      refine wp_block ?_
      refine wp_seq ?_
      -- region 2
      refine reg_lit ?_
      refine L1 (mv (v := .pointer _) rfl) ?_
      refine LC (cl1 has41 rfl rfl) (more_short E _ gq hs bs cs (a.p) posq hE hW hS hB (by have := hW.rd.le; omega)) ?_
      rintro v w1 ⟨rfl, hW, kp1⟩
      have kp := kp.trans kp1
      have epq : posq = E.N := by have := hW.rd.le; omega
      rw [epq] at hW
      refine L1 (asg (v := (UEOFv E)) rfl) ?_
      refine wpList_nil ?_
      refine then_n ?_
      refine wp_seq ?_
      -- region 3
      refine reg_lit ?_
      refine L1 (mv (v := UEOFv E) rfl) ?_
      refine L1 (en_held (u := 131) rfl rfl) ?_
      refine wpList_nil ?_
      refine then_n ?_
      refine cond_t rfl ?_
      refine wp_seq ?_
      -- region 4
      refine reg_lit ?_
      refine L1 (mv (v := (UEOFv E)) rfl) ?_
      refine L1 (asg (v := (UEOFv E)) rfl) ?_
      refine wpList_nil ?_
      refine then_n ?_
      refine wp_ret ?_
      refine inb_r ?_
      refine then_r ?_
      refine inb_r ?_
      refine then_r ?_
      refine ret1 rfl rfl ?_
      exact ⟨_, rfl, _, _, _, a.short E.S', kp, cr_rl hC hW (ho.rle) hZ, rfl, rfl, rfl, rfl, .inl ⟨.inr (.inr (.inl ⟨rfl, rfl⟩)), by show (2 : Nat) ≠ 0; decide, md_short (by show 8 * E.N < _; omega)⟩⟩
  · skip
    have hpos : posq = rdTo (a.p) a.pos 14 := rdTo_of hpp hpq (by omega)
    have hleq := hW.rd.le
    have hbv := bv_lt E.D (a.p) (8 * posq - (a.p))
    have h32 : bv E.D (a.p) (8 * posq - (a.p)) < 4294967296 := Nat.lt_of_lt_of_le hbv (Nat.pow_le_pow_right (n := 2) (by decide) (show 8 * posq - (a.p) ≤ 32 by omega))
    have hbm : bv E.D (a.p) (8 * posq - (a.p)) % 2 ^ 14 = bv E.D (a.p) 14 := bv_mod E.D (a.p) (8 * posq - (a.p)) 14 (by omega)
    have hbn := bv_lt E.D (a.p) 14
    refine wp_exit ?_
    refine then_e ?_
    refine then_e ?_
    refine inb_same ?_
    refine then_n ?_
    refine wp_seq ?_
    have h14 : ¬ 8 * E.S'.N < a.p + 14 := by show ¬ 8 * E.N < _; omega
    obtain ⟨b0, hb0⟩ : ∃ b0, bv E.D a.p (8 * posq - a.p) = b0 := ⟨_, rfl⟩
    have hbb := hB.b
    have hfin : ∀ b3 : Nat, b3 = b0 / 2 ^ 14 → Value.int .u32 (b3 : Int) = Value.int .u32 ((bv E.D a.p (8 * posq - a.p) / 2 ^ 14 : Nat) : Int) := fun b3 h => by rw [h, hb0]
    rw [hb0] at hbb h32 hbm
    have hdv : b0 % 2 ^ 14 = dv E.S' a := hbm
    have hd14 : dv E.S' a < 2 ^ 14 := bv_lt _ _ _
    have e1 : b0 % 2 ^ 5 = dv E.S' a % 32 := by rw [← hdv]; omega
    have e2 : b0 / 2 ^ 5 % 2 ^ 5 = dv E.S' a / 32 % 32 := by rw [← hdv]; omega
    have e3 : b0 / 2 ^ 5 / 2 ^ 5 % 2 ^ 4 = dv E.S' a / 1024 := by rw [← hdv]; omega
    have hnl : nL E.S' a = dv E.S' a % 32 + 257 := rfl
    have hnd : nD E.S' a = dv E.S' a / 32 % 32 + 1 := rfl
    have hnc : nC E.S' a = dv E.S' a / 1024 + 4 := rfl
    -- region 5
    refine reg_lit ?_
    refine L1 (mv (v := .pointer _) rfl) ?_
    refine L1 (nilP rfl) ?_
    refine L1 (fa95_3 rfl) ?_
    refine L1 (ld82 rfl (hW.F.cellv (by decide) hbb)) ?_
    refine L1 (bi rfl rfl ((bn_mask32 (k := 5) rfl rfl h32 (by decide)).trans (congrArg (fun x : Nat => pure (Value.int .u32 (x : Int))) e1))) ?_
    refine L1 (cv82_3 rfl (wrap_s64 _ (by omega) (by omega))) ?_
    refine L1 (bi rfl rfl (bn_add (c := ((nL E.S' a : Nat) : Int)) (by omega) (by omega) (by omega))) ?_
    refine L1 (asg (v := .int _ _) rfl) ?_
    refine wpList_nil ?_
    refine then_n ?_
    refine wp_seq ?_
    refine wp_seq ?_
    -- region 6
    refine reg_lit ?_
    refine L1 (mv (v := .int _ _) rfl) ?_
    refine L1 (bi rfl rfl (bn_gtr (v := decide (286 < nL E.S' a)) (decide_eq_decide.2 (by omega)))) ?_
    refine wpList_nil ?_
    refine then_n ?_
    refine cond_d (p := 286 < nL E.S' a) rfl (fun h286 => ?_) (fun h286 => ?_)
    · skip
      refine wp_seq ?_
      -- region 7
      refine reg_lit ?_
      refine L1 (mv (v := .pointer _) rfl) ?_
      refine L1 (nilP rfl) ?_
      refine L1 (fa95_2 rfl) ?_
      refine L1 (ld2 rfl (hW.F.cellv (by decide) hro)) ?_
      refine L1 (mkI107 rfl) ?_
      refine L1 (asg (v := .iface _ _) rfl) ?_
      refine wpList_nil ?_
      refine then_n ?_
      refine wp_ret ?_
      refine then_r ?_
      refine ret1 rfl rfl ?_
      exact ⟨_, rfl, _, _, _, { a with pos := posq }.bad, kp, cr_rl hC hW (ho.rle) hZ, rfl, rfl, rfl, rfl, .inl ⟨.inr (.inr (.inr ⟨rfl, _, rfl⟩)), by show (3 : Nat) ≠ 0; decide, by rw [hpos]; exact md_big h14 (.inl h286)⟩⟩
    · skip
      refine wp_skip ?_
      refine then_n ?_
      refine wp_seq ?_
      -- region 8
      refine reg_lit ?_
      refine L1 (mv (v := .pointer _) rfl) ?_
      refine L1 (nilP rfl) ?_
      refine L1 (fa95_3 rfl) ?_
      refine L1 (ld82 rfl (hW.F.cellv (by decide) hbb)) ?_
      refine L1 (bi rfl rfl (bn_shr (x := b0) (n := 5) rfl rfl (by decide))) ?_
      refine L1 (nilP rfl) ?_
      refine L1 (fa95_3 rfl) ?_
      refine Lst82 (v := .int _ _) rfl rfl rfl hW.F (by decide) ?_
      intro w1 hb1 kp1
      have hW := hW.setF hE hb1 kp1
      have kp := kp.F kp1
      clear hb1 kp1
      have hZ := hZ.updW hW (by decide)
      have ho := hW.offs (ho.rlu (by decide) _)
      refine wpList_nil ?_
      refine then_n ?_
      refine wp_seq ?_
      -- region 9
      refine reg_lit ?_
      refine L1 (mv (v := .pointer _) rfl) ?_
      refine L1 (nilP rfl) ?_
      refine L1 (fa95_3 rfl) ?_
      refine L1 (ld82 rfl (hW.F.cellv (v := .int _ _) (by decide) rfl)) ?_
      refine L1 (bi rfl rfl ((bn_mask32 (x := b0 / 2 ^ 5) (k := 5) rfl rfl (by omega) (by decide)).trans (congrArg (fun x : Nat => pure (Value.int .u32 (x : Int))) e2))) ?_
      refine L1 (cv82_3 rfl (wrap_s64 _ (by omega) (by omega))) ?_
      refine L1 (bi rfl rfl (bn_add (c := ((nD E.S' a : Nat) : Int)) (by omega) (by omega) (by omega))) ?_
      refine L1 (asg (v := .int _ _) rfl) ?_
      refine wpList_nil ?_
      refine then_n ?_
      refine wp_seq ?_
      refine wp_seq ?_
      -- region 10
      refine reg_lit ?_
      refine L1 (mv (v := .int _ _) rfl) ?_
      refine L1 (bi rfl rfl (bn_gtr (v := decide (30 < nD E.S' a)) (decide_eq_decide.2 (by omega)))) ?_
      refine wpList_nil ?_
      refine then_n ?_
      refine cond_d (p := 30 < nD E.S' a) rfl (fun h30 => ?_) (fun h30 => ?_)
      · skip
        refine wp_seq ?_
        -- region 11
        refine reg_lit ?_
        refine L1 (mv (v := .pointer _) rfl) ?_
        refine L1 (nilP rfl) ?_
        refine L1 (fa95_2 rfl) ?_
        refine L1 (ld2 rfl (hW.F.cellv (by decide) hro)) ?_
        refine L1 (mkI107 rfl) ?_
        refine L1 (asg (v := .iface _ _) rfl) ?_
        refine wpList_nil ?_
        refine then_n ?_
        refine wp_ret ?_
        refine then_r ?_
        refine ret1 rfl rfl ?_
        exact ⟨_, rfl, _, _, _, { a with pos := posq }.bad, kp, cr_rl hC hW (ho.rle) hZ, rfl, rfl, rfl, rfl, .inl ⟨.inr (.inr (.inr ⟨rfl, _, rfl⟩)), by show (3 : Nat) ≠ 0; decide, by rw [hpos]; exact md_big h14 (.inr h30)⟩⟩
      · skip
        refine wp_skip ?_
        refine then_n ?_
        refine wp_seq ?_
        -- region 12
        refine reg_lit ?_
        refine L1 (mv (v := .pointer _) rfl) ?_
        refine L1 (nilP rfl) ?_
        refine L1 (fa95_3 rfl) ?_
        refine L1 (ld82 rfl (hW.F.cellv (v := .int _ _) (by decide) rfl)) ?_
        refine L1 (bi rfl rfl (bn_shr (x := b0 / 2 ^ 5) (n := 5) rfl rfl (by decide))) ?_
        refine L1 (nilP rfl) ?_
        refine L1 (fa95_3 rfl) ?_
        refine Lst82 (v := .int _ _) rfl rfl rfl hW.F (by decide) ?_
        intro w1 hb1 kp1
        have hW := hW.setF hE hb1 kp1
        have kp := kp.F kp1
        clear hb1 kp1
        have hZ := hZ.updW hW (by decide)
        have ho := hW.offs (ho.rlu (by decide) _)
        refine wpList_nil ?_
        refine then_n ?_
        refine wp_seq ?_
        -- region 13
        refine reg_lit ?_
        refine L1 (mv (v := .pointer _) rfl) ?_
        refine L1 (nilP rfl) ?_
        refine L1 (fa95_3 rfl) ?_
        refine L1 (ld82 rfl (hW.F.cellv (v := .int _ _) (by decide) rfl)) ?_
        refine L1 (bi rfl rfl ((bn_mask32 (x := b0 / 2 ^ 5 / 2 ^ 5) (k := 4) rfl rfl (by omega) (by decide)).trans (congrArg (fun x : Nat => pure (Value.int .u32 (x : Int))) e3))) ?_
        refine L1 (cv82_3 rfl (wrap_s64 _ (by omega) (by omega))) ?_
        refine L1 (bi rfl rfl (bn_add (c := ((nC E.S' a : Nat) : Int)) (by omega) (by omega) (by omega))) ?_
        refine L1 (asg (v := .int _ _) rfl) ?_
        refine wpList_nil ?_
        refine then_n ?_
        refine wp_seq ?_
        -- region 14
        refine reg_lit ?_
        refine L1 (mv (v := .pointer _) rfl) ?_
        refine L1 (nilP rfl) ?_
        refine L1 (fa95_3 rfl) ?_
        refine L1 (ld82 rfl (hW.F.cellv (v := .int _ _) (by decide) rfl)) ?_
        refine L1 (bi rfl rfl (bn_shr (x := b0 / 2 ^ 5 / 2 ^ 5) (n := 4) rfl rfl (by decide))) ?_
        refine L1 (nilP rfl) ?_
        refine L1 (fa95_3 rfl) ?_
        refine Lst82 (v := .int _ _) rfl rfl rfl hW.F (by decide) ?_
        intro w1 hb1 kp1
        have hW := hW.setF hE hb1 kp1
        have kp := kp.F kp1
        clear hb1 kp1
        have hZ := hZ.updW hW (by decide)
        have ho := hW.offs (ho.rlu (by decide) _)
        refine wpList_nil ?_
        refine then_n ?_
        refine wp_seq ?_
        -- region 15
        refine reg_lit ?_
        refine L1 (mv (v := .pointer _) rfl) ?_
        refine L1 (nilP rfl) ?_
        refine L1 (fa95_4 rfl) ?_
        refine L1 (ld38 rfl (hW.F.cellv (by decide) hB.nb)) ?_
        refine L1 (bi rfl rfl (bn_subu (c := ((8 * posq - a.p - 14 : Nat) : Int)) (by omega) (by omega) (by omega))) ?_
        refine L1 (nilP rfl) ?_
        refine L1 (fa95_4 rfl) ?_
        refine Lst38 (v := .int _ _) rfl rfl rfl hW.F (by decide) ?_
        intro w1 hb1 kp1
        have hW := hW.setF hE hb1 kp1
        have kp := kp.F kp1
        clear hb1 kp1
        have hZ := hZ.updW hW (by decide)
        have ho := hW.offs (ho.rlu (by decide) _)
        refine wpList_nil ?_
        have hB := Bt.advW hW hB 14 (by omega) ⟨_, hro⟩ (hfin _ (by rw [Nat.div_div_eq_div_mul, Nat.div_div_eq_div_mul])) rfl
        have hncl := nC_le E.S' a
        have hnot : ¬ (286 < nL E.S' a ∨ 30 < nD E.S' a) := by omega
        have hL57 : 257 ≤ nL E.S' a := by omega
        have hD1 : 1 ≤ nD E.S' a := by omega
        clear hfin hbb e1 e2 e3 hdv hd14 hbm hbv h32
        rw [hpos] at hW hB ho hZ
        refine then_n ?_
        refine wp_seq ?_
        refine wp_seq ?_
        -- region 16
        refine reg_lit ?_
        refine L1 (asg (v := .int _ _) rfl) ?_
        refine wpList_nil ?_
        refine then_n ?_
        refine wp_block ?_
        refine loop_fr (fun k f w' => f 0 = fp E ∧ f 4 = .int .i64 ((nL E.S' a : Nat) : Int) ∧ f 5 = .int .i64 ((nD E.S' a : Nat) : Int) ∧ f 6 = .int .i64 ((nC E.S' a : Nat) : Int) ∧ ∃ i : Nat, f 7 = .int .i64 ((i : Nat) : Int) ∧ i ≤ nC E.S' a ∧ k = nC E.S' a - i ∧ ∃ g' cs' p' pos' F, Wd E w' g' hs bs cs' pos' ∧ Bt E g' p' pos' ∧ Off RL g g' ∧ HZs g' ∧ Kp E.L w w' ∧ clLens E.S' i (a.p + 14) (rdTo a.p a.pos 14) (fun _ => 0) = some (F, p', pos') ∧ CL cs' F i i) (nC E.S' a) ⟨rfl, rfl, rfl, rfl, 0, rfl, Nat.zero_le _, rfl, _, cs, a.p + 14, _, _, hW, hB, ho, hZ, kp, rfl, CL.start cs⟩ ?_
        clear hW hB ho hZ kp hS hpp hpq hleq hpos hlt hp0 hp1 hro
        intro k f w1 HJ
        obtain ⟨s0, s4, s5, s6, i, s7, hi, rfl, g1, cs1, p1, pos1, F, hW, hB, ho, hZ, kp, hcl, hCL⟩ := HJ
        refine slots (fc s0 (fc s4 (fc s5 (fc s6 (fc s7 fnil))))) ?_
        refine wp_seq ?_
        refine wp_seq ?_
        -- region 17
        refine reg_lit ?_
        refine L1 (mv (v := .int _ _) rfl) ?_
        refine L1 (mv (v := .int _ _) rfl) ?_
        refine L1 (bi rfl rfl (bn_lss (v := decide (i < nC E.S' a)) (decide_eq_decide.2 (by omega)))) ?_
        refine wpList_nil ?_
        refine then_n ?_
        refine cond_d (p := i < nC E.S' a) rfl (fun hlt2 => ?_) (fun hlt2 => ?_)
        · skip
          refine wp_skip ?_
          refine then_n ?_
          refine wp_seq ?_
          refine wp_block ?_
          refine wp_seq ?_
          refine wp_block ?_
          refine loop_fr (fun k f w' => f 0 = fp E ∧ f 4 = .int .i64 ((nL E.S' a : Nat) : Int) ∧ f 5 = .int .i64 ((nD E.S' a : Nat) : Int) ∧ f 6 = .int .i64 ((nC E.S' a : Nat) : Int) ∧ f 7 = .int .i64 ((i : Nat) : Int) ∧ ∃ g' pos', Wd E w' g' hs bs cs1 pos' ∧ Bt E g' (p1) pos' ∧ Off RL g g' ∧ HZs g' ∧ Kp E.L w w' ∧ pos1 ≤ pos' ∧ (pos' = pos1 ∨ 8 * pos' < p1 + 3 + 8) ∧ k = E.N - pos') (E.N - pos1) ⟨rfl, rfl, rfl, rfl, rfl, _, pos1, hW, hB, ho, hZ, kp, Nat.le_refl _, .inl rfl, rfl⟩ ?_
          clear hW kp hB ho hZ
          intro k f wq HJ
          obtain ⟨t0, t4, t5, t6, t7, gq, posq, hW, hB, ho, hZ, kp, hpp, hpq, rfl⟩ := HJ
          have hp0 := hB.le
          have hp1 := hB.l32
          have hS := hSt.rl ho
          obtain ⟨ro, hro⟩ := hB.ro
          refine slots (fc t0 (fc t4 (fc t5 (fc t6 (fc t7 fnil))))) ?_
          refine wp_seq ?_
          refine wp_seq ?_
          -- region 19
          refine reg_lit ?_
          refine L1 (mv (v := .pointer _) rfl) ?_
          refine L1 (nilP rfl) ?_
          refine L1 (fa95_4 rfl) ?_
          refine L1 (ld38 rfl (hW.F.cellv (by decide) hB.nb)) ?_
          refine L1 (bi rfl rfl (bn_lss (v := decide (8 * posq - (p1) < 3)) (decide_eq_decide.2 (by omega)))) ?_
          refine wpList_nil ?_
          refine then_n ?_
          refine cond_d (p := 8 * posq - (p1) < 3) rfl (fun hlt => ?_) (fun hlt => ?_)
          · skip
            by_cases hpn : posq < E.N
            · skip
              refine wp_skip ?_
              refine then_n ?_
              refine wp_block ?_
              refine wp_seq ?_
              -- region 20
              refine reg_lit ?_
              refine L1 (mv (v := .pointer _) rfl) ?_
              refine LC (cl1 has41 rfl rfl) (more_ok E _ gq hs bs cs1 (p1) posq hE hW hS hB (by omega) hpn) ?_
              rintro v w1 ⟨rfl, g2, hW, hB, ho2, kp1⟩
              have kpS := kp1.X
              have kp := kp.trans kp1
              have ho := ho.rl ho2 (by decide)
              have hZ := hZ.low ho2 (by decide)
              refine L1 (asg (v := .nilIface) rfl) ?_
              refine wpList_nil ?_
              refine then_n ?_
              refine wp_seq ?_
              -- region 21
              refine reg_lit ?_
              refine L1 (mv (v := .nilIface) rfl) ?_
              refine L1 (en_nil rfl rfl) ?_
              refine wpList_nil ?_
              refine then_n ?_
              refine cond_f rfl ?_
              refine wp_skip ?_
              refine inb_n ?_
              refine then_n ?_
              have hle := hW.rd.le
              exact ⟨E.N - (posq + 1), _, by omega, rfl, rfl, rfl, rfl, rfl, rfl, _, posq + 1, hW, hB, ho, hZ, kp, by omega, .inr (by omega), rfl⟩
            · skip
              refine wp_skip ?_
              refine then_n ?_
              refine wp_block ?_
              refine wp_seq ?_
              -- region 20
              refine reg_lit ?_
              refine L1 (mv (v := .pointer _) rfl) ?_
              refine LC (cl1 has41 rfl rfl) (more_short E _ gq hs bs cs1 (p1) posq hE hW hS hB (by have := hW.rd.le; omega)) ?_
              rintro v w1 ⟨rfl, hW, kp1⟩
              have kp := kp.trans kp1
              have epq : posq = E.N := by have := hW.rd.le; omega
              rw [epq] at hW
              refine L1 (asg (v := (UEOFv E)) rfl) ?_
              refine wpList_nil ?_
              refine then_n ?_
              refine wp_seq ?_
              -- region 21
              refine reg_lit ?_
              refine L1 (mv (v := UEOFv E) rfl) ?_
              refine L1 (en_held (u := 131) rfl rfl) ?_
              refine wpList_nil ?_
              refine then_n ?_
              refine cond_t rfl ?_
              refine wp_seq ?_
              -- region 22
              refine reg_lit ?_
              refine L1 (mv (v := (UEOFv E)) rfl) ?_
              refine L1 (asg (v := (UEOFv E)) rfl) ?_
              refine wpList_nil ?_
              refine then_n ?_
              refine wp_ret ?_
              refine inb_r ?_
              refine then_r ?_
              refine inb_r ?_
              refine then_r ?_
              refine inb_r ?_
              refine then_r ?_
              refine then_r ?_
              refine inb_r ?_
              refine then_r ?_
              refine ret1 rfl rfl ?_
              exact ⟨_, rfl, _, _, _, a.short E.S', kp, cr_rl hC hW (ho.rle) hZ, rfl, rfl, rfl, rfl, .inl ⟨.inr (.inr (.inl ⟨rfl, rfl⟩)), by show (2 : Nat) ≠ 0; decide, md_cln h14 hnot (by have := clLens_mono (clLens_none hcl (by show 8 * E.N < _; omega)) (nC E.S' a - (i + 1)); rwa [show i + 1 + (nC E.S' a - (i + 1)) = nC E.S' a by omega] at this)⟩⟩
          · skip
            have hpos : posq = rdTo (p1) pos1 3 := rdTo_of hpp hpq (by omega)
            have hleq := hW.rd.le
            have hbv := bv_lt E.D (p1) (8 * posq - (p1))
            have h32 : bv E.D (p1) (8 * posq - (p1)) < 4294967296 := Nat.lt_of_lt_of_le hbv (Nat.pow_le_pow_right (n := 2) (by decide) (show 8 * posq - (p1) ≤ 32 by omega))
            have hbm : bv E.D (p1) (8 * posq - (p1)) % 2 ^ 3 = bv E.D (p1) 3 := bv_mod E.D (p1) (8 * posq - (p1)) 3 (by omega)
            have hbn := bv_lt E.D (p1) 3
            refine wp_exit ?_
            refine then_e ?_
            refine then_e ?_
            refine inb_same ?_
            refine then_n ?_
            refine wp_seq ?_
            have hC0 : wq.drew.cell? ⟨E.F, 1036, none⟩ = some (.pointer (some ⟨E.cb, 0, none⟩)) ∧ wq.drew.cell? ⟨2, 0 + i, none⟩ = some (.int .i64 ((ordN i : Nat) : Int)) ∧ wq.drew.cell? ⟨E.F, 3, none⟩ = some (.int .u32 ((bv E.D p1 (8 * posq - p1) : Nat) : Int)) := ⟨hW.drew.F.cellv (by decide) hS.cb, by rw [Nat.zero_add, hW.drew.gl.ord i (by omega), order_eq i (by omega)], hW.drew.F.cellv (by decide) hB.b⟩
            have hol := ordN_lt i (by omega)
            have hcbB := hE.bcb
            have hcbF := hE.Fc
            have hG6 := hW.gl.B6
            -- region 23 (its order is open)
            refine reg_mix [false, false, false, false, false, false, false, false, false, false, false, false, false, false, false, true] (fun w => w.cell? ⟨E.F, 1036, none⟩ = some (.pointer (some ⟨E.cb, 0, none⟩)) ∧ w.cell? ⟨2, 0 + i, none⟩ = some (.int .i64 ((ordN i : Nat) : Int)) ∧ w.cell? ⟨E.F, 3, none⟩ = some (.int .u32 ((bv E.D p1 (8 * posq - p1) : Nat) : Int))) mixed (by kernel_rfl) ?_ ?_
            · exact hC0
            have hW := hW.drew
            have kp := kp.drew
            refine T1 (fun w hC => mv (v := .pointer _) rfl) ?_
            refine T1 (fun w hC => nilP rfl) ?_
            refine T1 (fun w hC => fa95_8 rfl) ?_
            refine T1 (fun w hC => ld88 rfl hC.1) ?_
            refine T1 (fun w hC => mv (v := .int _ _) rfl) ?_
            refine T1 (fun w hC => ixA und98 sz3 rfl rfl (j := i) rfl (by omega)) ?_
            refine T1 (fun w hC => ld3 (v := .int .i64 ((ordN i : Nat) : Int)) rfl hC.2.1) ?_
            refine T1 (fun w hC => mv (v := .pointer _) rfl) ?_
            refine T1 (fun w hC => nilP rfl) ?_
            refine T1 (fun w hC => fa95_3 rfl) ?_
            refine T1 (fun w hC => ld82 rfl hC.2.2) ?_
            refine T1 (fun w hC => bi rfl rfl ((bn_mask32 (k := 3) rfl rfl h32 (by decide)).trans (congrArg (fun x : Nat => pure (Value.int .u32 (x : Int))) hbm))) ?_
            refine T1 (fun w hC => cv82_3 rfl (wrap_s64 _ (by omega) (by omega))) ?_
            refine T1 (fun w hC => nilP rfl) ?_
            refine T1 (fun w hC => ixA und98 sz3 rfl rfl (j := ordN i) rfl hol) ?_
            refine Est_any 3 sz3 (v := .int .i64 ((bv E.D p1 3 : Nat) : Int)) rfl rfl rfl hW.cb (by omega) ?_
            intro w2 hcb kp1
            refine ⟨⟨kp1.cell hC0.1 (by simp; exact hcbF), kp1.cell hC0.2.1 (by simp; omega), kp1.cell hC0.2.2 (by simp; exact hcbF)⟩, ?_⟩
            have hW := hW.setcb hE (hcb.congr (g' := upd cs1 (ordN i) (.int .i64 ((bv E.D p1 3 : Nat) : Int))) (fun k _ => by rw [Nat.zero_add])) kp1
            have kp := kp.cb kp1
            refine mix_nil ?_
            refine then_n ?_
            refine wp_seq ?_
            -- region 24
            refine reg_lit ?_
            refine L1 (mv (v := .pointer _) rfl) ?_
            refine L1 (nilP rfl) ?_
            refine L1 (fa95_3 rfl) ?_
            refine L1 (ld82 rfl (hW.F.cellv (by decide) hB.b)) ?_
            refine L1 (bi rfl rfl (bn_shr (n := 3) rfl rfl (by decide))) ?_
            refine L1 (nilP rfl) ?_
            refine L1 (fa95_3 rfl) ?_
            refine Lst82 (v := .int _ _) rfl rfl rfl hW.F (by decide) ?_
            intro w1 hb1 kp1
            have hW := hW.setF hE hb1 kp1
            have kp := kp.F kp1
            clear hb1 kp1
            have hZ := hZ.updW hW (by decide)
            have ho := hW.offs (ho.rlu (by decide) _)
            refine wpList_nil ?_
            refine then_n ?_
            -- region 25
            refine reg_lit ?_
            refine L1 (mv (v := .pointer _) rfl) ?_
            refine L1 (nilP rfl) ?_
            refine L1 (fa95_4 rfl) ?_
            refine L1 (ld38 rfl (hW.F.cellv (by decide) hB.nb)) ?_
            refine L1 (bi rfl rfl (bn_subu (c := ((8 * posq - p1 - 3 : Nat) : Int)) (by omega) (by omega) (by omega))) ?_
            refine L1 (nilP rfl) ?_
            refine L1 (fa95_4 rfl) ?_
            refine Lst38 (v := .int _ _) rfl rfl rfl hW.F (by decide) ?_
            intro w1 hb1 kp1
            have hW := hW.setF hE hb1 kp1
            have kp := kp.F kp1
            clear hb1 kp1
            have hZ := hZ.updW hW (by decide)
            have ho := hW.offs (ho.rlu (by decide) _)
            refine wpList_nil ?_
            have hB := Bt.advW hW hB 3 (by omega) ⟨_, hro⟩ rfl rfl
            have hcl := clLens_step hcl (by show _ ≤ 8 * E.N; omega)
            have hCL := hCL.step (x := bv E.D p1 3) (by omega) (by omega)
            rw [hpos] at hW hB ho hZ
            refine inb_n ?_
            refine then_n ?_
            -- region 18
            refine reg_lit ?_
            refine L1 (mv (v := .int _ _) rfl) ?_
            refine L1 (bi rfl rfl (bn_add (c := ((i + 1 : Nat) : Int)) (by omega) (by omega) (by omega))) ?_
            refine L1 (asg (v := .int _ _) rfl) ?_
            refine wpList_nil ?_
            refine then_n ?_
            exact ⟨nC E.S' a - (i + 1), _, by omega, rfl, rfl, rfl, rfl, rfl, i + 1, rfl, by omega, rfl, _, _, p1 + 3, _, _, hW, hB, ho, hZ, kp, hcl, hCL⟩
        · skip
          obtain rfl : i = nC E.S' a := by omega
          have hS := hSt.rl ho
          refine wp_exit ?_
          refine then_e ?_
          refine then_e ?_
          refine inb_same ?_
          refine then_n ?_
          refine wp_seq ?_
          refine wp_seq ?_
          -- region 26
          refine reg_lit ?_
          refine L1 (mv (v := .int _ _) rfl) ?_
          refine L1 (asg (v := .int _ _) rfl) ?_
          refine wpList_nil ?_
          refine then_n ?_
          refine wp_block ?_
          refine loop_fr (fun k f w' => f 0 = fp E ∧ f 4 = .int .i64 ((nL E.S' a : Nat) : Int) ∧ f 5 = .int .i64 ((nD E.S' a : Nat) : Int) ∧ ∃ m : Nat, f 9 = .int .i64 ((m : Nat) : Int) ∧ nC E.S' a ≤ m ∧ m ≤ 19 ∧ k = 19 - m ∧ ∃ cs', Wd E w' g1 hs bs cs' pos1 ∧ Kp E.L w w' ∧ CL cs' F (nC E.S' a) m) (19 - nC E.S' a) ⟨rfl, rfl, rfl, nC E.S' a, rfl, Nat.le_refl _, hncl, rfl, cs1, hW, kp, hCL⟩ ?_
          clear hW kp hCL
          intro k f w2 HJ
          obtain ⟨s0, s4, s5, m, s9, hm1, hm2, rfl, cs2, hW, kp, hCL⟩ := HJ
          refine slots (fc s0 (fc s4 (fc s5 (fc s9 fnil)))) ?_
          refine wp_seq ?_
          refine wp_seq ?_
          -- region 27
          refine reg_lit ?_
          refine L1 (mv (v := .int _ _) rfl) ?_
          refine L1 (bi rfl rfl (bn_lss (v := decide (m < 19)) (decide_eq_decide.2 (by omega)))) ?_
          refine wpList_nil ?_
          refine then_n ?_
          refine cond_d (p := m < 19) rfl (fun hlt3 => ?_) (fun hlt3 => ?_)
          · skip
            refine wp_skip ?_
            refine then_n ?_
            refine wp_seq ?_
            refine wp_block ?_
            have hC0 : w2.drew.cell? ⟨E.F, 1036, none⟩ = some (.pointer (some ⟨E.cb, 0, none⟩)) ∧ w2.drew.cell? ⟨2, 0 + m, none⟩ = some (.int .i64 ((ordN m : Nat) : Int)) := ⟨hW.drew.F.cellv (by decide) hS.cb, by rw [Nat.zero_add, hW.drew.gl.ord m hlt3, order_eq m hlt3]⟩
            have hol := ordN_lt m hlt3
            have hcbB := hE.bcb
            have hcbF := hE.Fc
            have hG6 := hW.gl.B6
            -- region 29 (its order is open)
            refine reg_mix [false, false, false, false, false, false, false, false, false, true] (fun w => w.cell? ⟨E.F, 1036, none⟩ = some (.pointer (some ⟨E.cb, 0, none⟩)) ∧ w.cell? ⟨2, 0 + m, none⟩ = some (.int .i64 ((ordN m : Nat) : Int))) mixed (by kernel_rfl) ?_ ?_
            · exact hC0
            have hW := hW.drew
            have kp := kp.drew
            refine T1 (fun w hC => mv (v := .pointer _) rfl) ?_
            refine T1 (fun w hC => nilP rfl) ?_
            refine T1 (fun w hC => fa95_8 rfl) ?_
            refine T1 (fun w hC => ld88 rfl hC.1) ?_
            refine T1 (fun w hC => mv (v := .int _ _) rfl) ?_
            refine T1 (fun w hC => ixA und98 sz3 rfl rfl (j := m) rfl hlt3) ?_
            refine T1 (fun w hC => ld3 (v := .int .i64 ((ordN m : Nat) : Int)) rfl hC.2) ?_
            refine T1 (fun w hC => nilP rfl) ?_
            refine T1 (fun w hC => ixA und98 sz3 rfl rfl (j := ordN m) rfl hol) ?_
            refine Est_any 3 sz3 (v := .int .i64 0) rfl rfl rfl hW.cb (by omega) ?_
            intro w3 hcb kp1
            refine ⟨⟨kp1.cell hC0.1 (by simp; exact hcbF), kp1.cell hC0.2 (by simp; omega)⟩, ?_⟩
            have hW := hW.setcb hE (hcb.congr (g' := upd cs2 (ordN m) (.int .i64 0)) (fun k _ => by rw [Nat.zero_add])) kp1
            have kp := kp.cb kp1
            refine mix_nil ?_
            refine inb_n ?_
            refine then_n ?_
            -- region 28
            refine reg_lit ?_
            refine L1 (mv (v := .int _ _) rfl) ?_
            refine L1 (bi rfl rfl (bn_add (c := ((m + 1 : Nat) : Int)) (by omega) (by omega) (by omega))) ?_
            refine L1 (asg (v := .int _ _) rfl) ?_
            refine wpList_nil ?_
            refine then_n ?_
            exact ⟨19 - (m + 1), _, by omega, rfl, rfl, rfl, rfl, m + 1, rfl, by omega, by omega, rfl, _, hW, kp, hCL.fill hm1 hlt3⟩
          · skip
            obtain rfl : m = 19 := by omega
            obtain ⟨cl, hcle⟩ : ∃ cl, (List.range 19).map F = cl := ⟨_, rfl⟩
            have hcll : cl.length = 19 := by rw [← hcle]; simp
            have hcl15 : ∀ s, cl.getD s 0 ≤ 15 := by rw [← hcle]; exact hCL.l15
            have hclc : ∀ j, j < cl.length → cs2 (0 + j) = .int .i64 ((cl.getD j 0 : Nat) : Int) := fun j hj => by rw [Nat.zero_add, ← hcle]; rw [hcll] at hj; exact hCL.all j hj
            have hcbF := hE.Fc
            refine wp_exit ?_
            refine then_e ?_
            refine then_e ?_
            refine inb_same ?_
            refine then_n ?_
            refine wp_seq ?_
            refine wp_seq ?_
            have hC0 : w2.drew.cell? ⟨E.F, 1036, none⟩ = some (.pointer (some ⟨E.cb, 0, none⟩)) := hW.drew.F.cellv (by decide) hS.cb
            -- region 30 (its order is open)
            refine reg_mix [false, false, false, false, false, false, false, false, false, true, false] (fun w => w.cell? ⟨E.F, 1036, none⟩ = some (.pointer (some ⟨E.cb, 0, none⟩))) mixed (by kernel_rfl) ?_ ?_
            · exact hC0
            have hW := hW.drew
            have kp := kp.drew
            refine T1 (fun w hC => mv (v := .pointer _) rfl) ?_
            refine T1 (fun w hC => nilP rfl) ?_
            refine T1 (fun w hC => fa95_5 rfl) ?_
            refine T1 (fun w hC => mv (v := .pointer _) rfl) ?_
            refine T1 (fun w hC => nilP rfl) ?_
            refine T1 (fun w hC => fa95_8 rfl) ?_
            refine T1 (fun w hC => ld88 rfl hC) ?_
            refine T1 (fun w hC => nilP rfl) ?_
            refine T1 (fun w hC => sl98 rfl rfl) ?_
            have hXl := hW.lts
            have hic := init_c _ E.F 1054 95 5 g1 E.cb 0 19 cl hW.F (by decide) hZ.1 (fun j hj => hW.cb.cellv (by omega) (hclc j hj)) (fun e => hcbF e.symm) hcl15 (by omega)
            rw [hcll] at hic
            refine EC (cl2 has53 rfl rfl rfl) hic ?_
            rintro v w3 ⟨rfl, gx', hF', hout, kp1, hHZ5, hT⟩
            refine ⟨hF'.cellv (by decide) ((hout 1036 (by decide)).trans hS.cb), ?_⟩
            have hW := hW.setF hE hF' kp1
            have kp := kp.F kp1
            have ho := ho.rlo (o := 5) (by decide) hout
            have hB := hB.low (fun j hj => hout j (by omega))
            have hZ : HZs gx' := ⟨hHZ5, hZ.2.keep fun j h1 h2 => hout j (by omega)⟩
            have hS := hSt.rl ho
            obtain ⟨ro, hro⟩ := hB.ro
            refine T1 (fun w hC => un_not rfl) ?_
            refine mix_nil ?_
            refine then_n ?_
            refine cond_b (b := !okL cl) rfl (fun hok => ?_) (fun hok => ?_)
            · skip
              have hok : okL cl = false := by simpa using hok
              refine wp_seq ?_
              -- region 31
              refine reg_lit ?_
              refine L1 (mv (v := .pointer _) rfl) ?_
              refine L1 (nilP rfl) ?_
              refine L1 (fa95_2 rfl) ?_
              refine L1 (ld2 rfl (hW.F.cellv (by decide) hro)) ?_
              refine L1 (mkI107 rfl) ?_
              refine L1 (asg (v := .iface _ _) rfl) ?_
              refine wpList_nil ?_
              refine then_n ?_
              refine wp_ret ?_
              refine then_r ?_
              refine ret1 rfl rfl ?_
              exact ⟨_, rfl, _, _, _, { a with p := p1, pos := pos1 }.bad, kp, cr_rl hC hW (ho.rle) hZ, rfl, rfl, rfl, rfl, .inl ⟨.inr (.inr (.inr ⟨rfl, _, rfl⟩)), by show (3 : Nat) ≠ 0; decide, md_clb h14 hnot hcl (by rw [hcle]; exact hok)⟩⟩
            · skip
              have hok : okL cl = true := by simpa using hok
              have hT := hT hok E (.inr hXl)
              have hmxc : mx cl ≤ 15 := mx_le15 hcl15
              have hLk : LkOk (cdL cl) := lk_ok hok hmxc (by omega) _ (Nat.le_refl _) (Nat.le_trans (mn_mx cl) hmxc)
              have hok' : okL ((List.range 19).map F) = true := by rw [hcle]; exact hok
              clear hok hout hF' kp1 hHZ5 hC0 hclc hCL hXl
              refine wp_skip ?_
              refine then_n ?_
              refine wp_seq ?_
              refine wp_seq ?_
              -- region 32
              refine reg_lit ?_
              refine L1 (mv (v := .int _ _) rfl) ?_
              refine L1 (mv (v := .int _ _) rfl) ?_
              refine L1 (bi rfl rfl (bn_add (c := ((nL E.S' a + nD E.S' a : Nat) : Int)) (by omega) (by omega) (by omega))) ?_
              refine L1 (asg (v := .int _ _) rfl) ?_
              refine L1 (asg (v := .int _ _) rfl) ?_
              refine wpList_nil ?_
              refine then_n ?_
              refine wp_block ?_
              refine loop_fr (fun k f w' => f 0 = fp E ∧ f 4 = .int .i64 ((nL E.S' a : Nat) : Int) ∧ f 5 = .int .i64 ((nD E.S' a : Nat) : Int) ∧ f 11 = .int .i64 ((nL E.S' a + nD E.S' a : Nat) : Int) ∧ ∃ l : List Nat, f 10 = .int .i64 ((l.length : Nat) : Int) ∧ l.length ≤ nL E.S' a + nD E.S' a ∧ k = nL E.S' a + nD E.S' a - l.length ∧ ∃ fuel g' bs' p' pos', Wd E w' g' hs bs' cs2 pos' ∧ Bt E g' p' pos' ∧ Off RL g g' ∧ HZs g' ∧ Kp E.L w w' ∧ HTab E w' g' 5 (cdL cl) ∧ LB bs' l ∧ nL E.S' a + nD E.S' a ≤ fuel + l.length ∧ rdLens E.S' (cdL cl) (nL E.S' a + nD E.S' a) (nL E.S' a + nD E.S' a) [] p1 pos1 = rdLens E.S' (cdL cl) (nL E.S' a + nD E.S' a) fuel l p' pos') (nL E.S' a + nD E.S' a) ⟨rfl, rfl, rfl, rfl, [], rfl, Nat.zero_le _, rfl, nL E.S' a + nD E.S' a, _, bs, p1, pos1, hW, hB, ho, hZ, kp, hT, LB.nil bs, Nat.le_refl _, rfl⟩ ?_
              clear hW hB ho hZ kp hT hS hro
              intro k f w4 HJ
              obtain ⟨s0, s4, s5, s11, l, s10, hll, rfl, fuel, g2, bs2, p2, pos2, hW, hB, ho, hZ, kp, hT, hLB, hfu, hrd⟩ := HJ
              have hS := hSt.rl ho
              refine slots (fc s0 (fc s4 (fc s5 (fc s10 (fc s11 fnil))))) ?_
              refine wp_seq ?_
              refine wp_seq ?_
              -- region 33
              refine reg_lit ?_
              refine L1 (mv (v := .int _ _) rfl) ?_
              refine L1 (mv (v := .int _ _) rfl) ?_
              refine L1 (bi rfl rfl (bn_lss (v := decide (l.length < nL E.S' a + nD E.S' a)) (decide_eq_decide.2 (by omega)))) ?_
              refine wpList_nil ?_
              refine then_n ?_
              refine cond_d (p := l.length < nL E.S' a + nD E.S' a) rfl (fun hlt5 => ?_) (fun hlt5 => ?_)
              · skip
                have hnl5 : ¬ nL E.S' a + nD E.S' a ≤ l.length := by omega
                obtain ⟨fu, rfl⟩ : ∃ fu, fuel = fu + 1 := ⟨fuel - 1, by omega⟩
                refine wp_skip ?_
                refine then_n ?_
                refine wp_block ?_
                refine wp_seq ?_
                -- region 34
                refine reg_lit ?_
                refine L1 (mv (v := .pointer _) rfl) ?_
                refine L1 (mv (v := .pointer _) rfl) ?_
                refine L1 (nilP rfl) ?_
                refine L1 (fa95_5 rfl) ?_
                refine LC (cl2 has54 rfl rfl rfl) (sym_c E _ g2 hs bs2 cs2 p2 pos2 E.F 5 (cdL cl) hE hW hS hB (.inl ⟨rfl, .inl rfl, hT⟩) hLk) ?_
                rintro v w5 hpost
                obtain ⟨x, ev, rfl, kp1, hcs⟩ := hpost.cases
                have kpS := kp1.X
                have kp := kp.trans kp1
                clear kp1 hpost
                refine L1 (mv (v := .tuple _) rfl) ?_
                refine L1 (ext2_0 rfl) ?_
                refine L1 (ext2_1 rfl) ?_
                refine L1 (asg (v := .int _ _) rfl) ?_
                refine L1 (asg (v := ev) rfl) ?_
                refine wpList_nil ?_
                rcases hcs with ⟨p3, pos3, g3, hsy, rfl, hW, hB, ho2⟩ | ⟨g3, hsy, rfl, hW, ho2⟩ | ⟨p3, pos3, g3, x1, hsy, rfl, hW, ho2⟩
                · skip
                  have hx19 := getSym_in hcl15 hsy
                  rw [hcll] at hx19
                  obtain ⟨ro, hro⟩ := hB.ro
                  have ho := ho.rl ho2 (by decide)
                  have hZ := hZ.low ho2 (by decide)
                  have hT := hT.offs kpS ho2 (by decide)
                  have hS := hSt.rl ho
                  have hbtF := hE.Fb
                  clear ho2
                  refine then_n ?_
                  refine wp_seq ?_
                  refine wp_seq ?_
                  -- region 35
                  refine reg_lit ?_
                  refine L1 (mv (v := .nilIface) rfl) ?_
                  refine L1 (en_nil rfl rfl) ?_
                  refine wpList_nil ?_
                  refine then_n ?_
                  refine cond_f rfl ?_
                  refine wp_skip ?_
                  refine then_n ?_
                  refine wp_seq ?_
                  refine wp_seq ?_
                  -- region 37
                  refine reg_lit ?_
                  refine L1 (mv (v := .int _ _) rfl) ?_
                  refine L1 (bi rfl rfl (bn_lss (v := decide (x < 16)) (decide_eq_decide.2 (by omega)))) ?_
                  refine wpList_nil ?_
                  refine then_n ?_
                  refine cond_d (p := x < 16) rfl (fun h16 => ?_) (fun h16 => ?_)
                  · skip
                    refine wp_seq ?_
                    -- region 38
                    refine reg_lit ?_
                    refine L1 (mv (v := .pointer _) rfl) ?_
                    refine L1 (nilP rfl) ?_
                    refine L1 (fa95_7 rfl) ?_
                    refine L1 (ld87 rfl (hW.F.cellv (by decide) hS.bt)) ?_
                    refine L1 (mv (v := .int _ _) rfl) ?_
                    refine L1 (mv (v := .int _ _) rfl) ?_
                    refine L1 (nilP rfl) ?_
                    refine L1 (ixA und97 sz3 rfl rfl (j := l.length) rfl (by omega)) ?_
                    refine Lst3 (v := .int .i64 ((x : Nat) : Int)) rfl rfl rfl hW.bt (by omega) ?_
                    intro w6 hbt kp1
                    have hW := hW.setbt hE (hbt.congr (g' := upd bs2 l.length (.int .i64 ((x : Nat) : Int))) (fun k _ => by rw [Nat.zero_add])) kp1
                    have hT := hT.keep (kp1.mono (by simp [Env.X])) (fun _ _ _ => rfl)
                    have kp := kp.bt kp1
                    have hLB := hLB.push (x := x) (by omega)
                    refine wpList_nil ?_
                    refine then_n ?_
                    refine wp_seq ?_
                    -- region 39
                    refine reg_lit ?_
                    refine L1 (mv (v := .int _ _) rfl) ?_
                    refine L1 (bi rfl rfl (bn_add (c := ((l.length + 1 : Nat) : Int)) (by omega) (by omega) (by omega))) ?_
                    refine L1 (asg (v := .int _ _) rfl) ?_
                    refine wpList_nil ?_
                    refine then_n ?_
                    refine wp_exit ?_
                    refine then_e ?_
                    refine inb_same ?_
                    refine then_n ?_
                    exact ⟨nL E.S' a + nD E.S' a - (l.length + 1), _, by omega, rfl, rfl, rfl, rfl, rfl, l ++ [x], by rw [List.length_append]; rfl, by rw [List.length_append]; show l.length + 1 ≤ _; omega, by rw [List.length_append]; rfl, fu, _, _, p3, pos3, hW, hB, ho, hZ, kp, hT, hLB, by rw [List.length_append]; show _ ≤ fu + (l.length + 1); omega, hrd.trans (rl_one hnl5 hsy h16)⟩
                  · skip
                    refine wp_skip ?_
                    refine then_n ?_
                    refine wp_seq ?_
                    -- region 40
                    refine reg_lit ?_
                    refine L1 (asg (v := .int _ _) rfl) ?_
                    refine wpList_nil ?_
                    refine then_n ?_
                    refine wp_seq ?_
                    -- region 41
                    refine reg_lit ?_
                    refine L1 (asg (v := .int _ _) rfl) ?_
                    refine wpList_nil ?_
                    refine then_n ?_
                    refine wp_seq ?_
                    -- region 42
                    refine reg_lit ?_
                    refine L1 (asg (v := .int _ _) rfl) ?_
                    refine wpList_nil ?_
                    refine then_n ?_
                    refine seq_cut (N := 340) (fun f w' => w5 = w' ∧ f 0 = fp E ∧ f 4 = .int .i64 ((nL E.S' a : Nat) : Int) ∧ f 5 = .int .i64 ((nD E.S' a : Nat) : Int) ∧ f 10 = .int .i64 ((l.length : Nat) : Int) ∧ f 11 = .int .i64 ((nL E.S' a + nD E.S' a : Nat) : Int) ∧ f 14 = .int .i64 ((rlR x : Nat) : Int) ∧ f 15 = .int .u64 ((rlB x : Nat) : Int) ∧ f 16 = .int .i64 ((rlV x l : Nat) : Int) ∧ ¬ (x = 16 ∧ l.length = 0)) ?_ ?_
                    · skip
                      refine wp_seq ?_
                      -- region 43
                      refine reg_lit ?_
                      refine L1 (mv (v := .int _ _) rfl) ?_
                      refine wpList_nil ?_
                      refine then_n ?_
                      refine wp_block ?_
                      refine wp_seq ?_
                      -- region 45
                      refine reg_lit ?_
                      refine L1 (bi rfl rfl (bn_eql (v := decide (x = 16)) (decide_eq_decide.2 (by omega)))) ?_
                      refine L1 (asg (v := .bool _) rfl) ?_
                      refine wpList_nil ?_
                      refine then_n ?_
                      refine cond_d (p := x = 16) rfl (fun hx16 => ?_) (fun hx16 => ?_)
                      · skip
                        subst hx16
                        refine wp_seq ?_
                        -- region 46
                        refine reg_lit ?_
                        refine L1 (asg (v := .int _ _) rfl) ?_
                        refine wpList_nil ?_
                        refine then_n ?_
                        refine wp_seq ?_
                        -- region 47
                        refine reg_lit ?_
                        refine L1 (asg (v := .int _ _) rfl) ?_
                        refine wpList_nil ?_
                        refine then_n ?_
                        refine wp_seq ?_
                        refine wp_seq ?_
                        -- region 48
                        refine reg_lit ?_
                        refine L1 (mv (v := .int _ _) rfl) ?_
                        refine L1 (bi rfl rfl (bn_eql (v := decide (l.length = 0)) (decide_eq_decide.2 (by omega)))) ?_
                        refine wpList_nil ?_
                        refine then_n ?_
                        refine cond_d (p := l.length = 0) rfl (fun hl0 => ?_) (fun hl0 => ?_)
                        · skip
                          refine wp_seq ?_
                          -- region 49
                          refine reg_lit ?_
                          refine L1 (mv (v := .pointer _) rfl) ?_
                          refine L1 (nilP rfl) ?_
                          refine L1 (fa95_2 rfl) ?_
                          refine L1 (ld2 rfl (hW.F.cellv (by decide) hro)) ?_
                          refine L1 (mkI107 rfl) ?_
                          refine L1 (asg (v := .iface _ _) rfl) ?_
                          refine wpList_nil ?_
                          refine then_n ?_
                          refine wp_ret ?_
                          refine then_r ?_
                          refine inb_r ?_
                          refine then_r ?_
                          refine inb_r ?_
                          refine then_r ?_
                          refine inb_r ?_
                          refine then_r ?_
                          refine ret1 rfl rfl ?_
                          exact ⟨_, rfl, _, _, _, { a with p := p3, pos := pos3 }.bad, kp, cr_rl hC hW (ho.rle) hZ, rfl, rfl, rfl, rfl, .inl ⟨.inr (.inr (.inr ⟨rfl, _, rfl⟩)), by show (3 : Nat) ≠ 0; decide, md_rb h14 hnot hcl hok' (by rw [hcle]; exact hrd.trans (rl_first hnl5 hsy hl0))⟩⟩
                        · skip
                          refine wp_skip ?_
                          refine then_n ?_
                          -- region 50
                          refine reg_lit ?_
                          refine L1 (mv (v := .pointer _) rfl) ?_
                          refine L1 (nilP rfl) ?_
                          refine L1 (fa95_7 rfl) ?_
                          refine L1 (ld87 rfl (hW.F.cellv (by decide) hS.bt)) ?_
                          refine L1 (mv (v := .int _ _) rfl) ?_
                          refine L1 (bi rfl rfl (bn_sub (c := ((l.length - 1 : Nat) : Int)) (by omega) (by omega) (by omega))) ?_
                          refine L1 (nilP rfl) ?_
                          refine L1 (ixA und97 sz3 rfl rfl (j := l.length - 1) rfl (by omega)) ?_
                          refine L1 (ld3 (v := .int .i64 ((l.getD (l.length - 1) 0 : Nat) : Int)) rfl (hW.bt.cellv (by omega) (by rw [Nat.zero_add]; exact hLB.cell _ (by omega)))) ?_
                          refine L1 (asg (v := .int _ _) rfl) ?_
                          refine wpList_nil ?_
                          refine inb_n ?_
                          refine then_n ?_
                          exact ⟨_, rfl, rfl, rfl, rfl, rfl, rfl, rfl, rfl, rfl, rfl, fun e => hl0 e.2⟩
                      · skip
                        refine wp_seq ?_
                        -- region 51
                        refine reg_lit ?_
                        refine L1 (bi rfl rfl (bn_eql (v := decide (x = 17)) (decide_eq_decide.2 (by omega)))) ?_
                        refine L1 (asg (v := .bool _) rfl) ?_
                        refine wpList_nil ?_
                        refine then_n ?_
                        refine cond_d (p := x = 17) rfl (fun hx17 => ?_) (fun hx17 => ?_)
                        · skip
                          subst hx17
                          refine wp_seq ?_
                          -- region 52
                          refine reg_lit ?_
                          refine L1 (asg (v := .int _ _) rfl) ?_
                          refine wpList_nil ?_
                          refine then_n ?_
                          refine wp_seq ?_
                          -- region 53
                          refine reg_lit ?_
                          refine L1 (asg (v := .int _ _) rfl) ?_
                          refine wpList_nil ?_
                          refine then_n ?_
                          -- region 54
                          refine reg_lit ?_
                          refine L1 (asg (v := .int _ _) rfl) ?_
                          refine wpList_nil ?_
                          refine inb_n ?_
                          refine then_n ?_
                          exact ⟨_, rfl, rfl, rfl, rfl, rfl, rfl, rfl, rfl, rfl, rfl, fun e => absurd e.1 (by decide)⟩
                        · skip
                          refine wp_seq ?_
                          -- region 55
                          refine reg_lit ?_
                          refine L1 (bi rfl rfl (bn_eql (v := decide (x = 18)) (decide_eq_decide.2 (by omega)))) ?_
                          refine L1 (asg (v := .bool _) rfl) ?_
                          refine wpList_nil ?_
                          refine then_n ?_
                          refine cond_d (p := x = 18) rfl (fun hx18 => ?_) (fun hx18 => ?_)
                          · skip
                            subst hx18
                            refine wp_seq ?_
                            -- region 56
                            refine reg_lit ?_
                            refine L1 (asg (v := .int _ _) rfl) ?_
                            refine wpList_nil ?_
                            refine then_n ?_
                            refine wp_seq ?_
                            -- region 57
                            refine reg_lit ?_
                            refine L1 (asg (v := .int _ _) rfl) ?_
                            refine wpList_nil ?_
                            refine then_n ?_
                            -- region 58
                            refine reg_lit ?_
                            refine L1 (asg (v := .int _ _) rfl) ?_
                            refine wpList_nil ?_
                            refine inb_n ?_
                            refine then_n ?_
                            exact ⟨_, rfl, rfl, rfl, rfl, rfl, rfl, rfl, rfl, rfl, rfl, fun e => absurd e.1 (by decide)⟩
                          · skip
                            exfalso
                            omega
                    · skip
                      rintro f _ ⟨rfl, s0, s4, s5, s10, s11, s14, s15, s16, h0⟩
                      have hrb := fun hb => rl_bshort (k := fu) hnl5 hsy h16 h0 hb
                      have hrg := fun hb hn => rl_big (k := fu) hnl5 hsy h16 h0 hb hn
                      have hrm := fun hb hn => rl_more (k := fu) hnl5 hsy h16 h0 hb hn
                      obtain ⟨nb, hnb⟩ : ∃ nb, rlB x = nb := ⟨_, rfl⟩
                      obtain ⟨rr, hrr⟩ : ∃ rr, rlR x = rr := ⟨_, rfl⟩
                      obtain ⟨v, hv⟩ : ∃ v, rlV x l = v := ⟨_, rfl⟩
                      have hnb7 : nb ≤ 7 := by rw [← hnb]; unfold rlB; split; omega; split <;> omega
                      have hrr11 : 3 ≤ rr ∧ rr ≤ 11 := by rw [← hrr]; unfold rlR; split <;> omega
                      have hv15 : v ≤ 15 := by rw [← hv]; unfold rlV; split; exact hLB.le _; omega
                      rw [hnb] at s15 hrb hrg hrm
                      rw [hrr] at s14 hrg hrm
                      rw [hv] at s16 hrm
                      refine slots (fc s0 (fc s4 (fc s5 (fc s10 (fc s11 (fc s14 (fc s15 (fc s16 fnil)))))))) ?_
                      have h2n : 2 ^ nb ≤ 2 ^ 7 := Nat.pow_le_pow_right (n := 2) (by decide) hnb7
                      have h27 : (2 : Nat) ^ 7 = 128 := rfl
                      have h2p : 0 < 2 ^ nb := Nat.two_pow_pos _
                      refine wp_seq ?_
                      refine wp_block ?_
                      refine loop_fr (fun k f w' => f 0 = fp E ∧ f 4 = .int .i64 ((nL E.S' a : Nat) : Int) ∧ f 5 = .int .i64 ((nD E.S' a : Nat) : Int) ∧ f 10 = .int .i64 ((l.length : Nat) : Int) ∧ f 11 = .int .i64 ((nL E.S' a + nD E.S' a : Nat) : Int) ∧ f 14 = .int .i64 ((rr : Nat) : Int) ∧ f 15 = .int .u64 ((nb : Nat) : Int) ∧ f 16 = .int .i64 ((v : Nat) : Int) ∧ ∃ g' pos', Wd E w' g' hs bs2 cs2 pos' ∧ Bt E g' (p3) pos' ∧ Off RL g g' ∧ HZs g' ∧ Kp E.L w w' ∧ pos3 ≤ pos' ∧ (pos' = pos3 ∨ 8 * pos' < p3 + nb + 8) ∧ k = E.N - pos' ∧ HTab E w' g' 5 (cdL cl)) (E.N - pos3) ⟨rfl, rfl, rfl, rfl, rfl, rfl, rfl, rfl, _, pos3, hW, hB, ho, hZ, kp, Nat.le_refl _, .inl rfl, rfl, hT⟩ ?_
                      clear hW kp hB ho hZ hT
                      intro k f wq HJ
                      obtain ⟨t0, t4, t5, t10, t11, t14, t15, t16, gq, posq, hW, hB, ho, hZ, kp, hpp, hpq, rfl, hT⟩ := HJ
                      have hp0 := hB.le
                      have hp1 := hB.l32
                      have hS := hSt.rl ho
                      obtain ⟨ro, hro⟩ := hB.ro
                      refine slots (fc t0 (fc t4 (fc t5 (fc t10 (fc t11 (fc t14 (fc t15 (fc t16 fnil)))))))) ?_
                      refine wp_seq ?_
                      refine wp_seq ?_
                      -- region 59
                      refine reg_lit ?_
                      refine L1 (mv (v := .pointer _) rfl) ?_
                      refine L1 (nilP rfl) ?_
                      refine L1 (fa95_4 rfl) ?_
                      refine L1 (ld38 rfl (hW.F.cellv (by decide) hB.nb)) ?_
                      refine L1 (mv (v := .int _ _) rfl) ?_
                      refine L1 (bi rfl rfl (bn_lss (v := decide (8 * posq - (p3) < nb)) (decide_eq_decide.2 (by omega)))) ?_
                      refine wpList_nil ?_
                      refine then_n ?_
                      refine cond_d (p := 8 * posq - (p3) < nb) rfl (fun hlt => ?_) (fun hlt => ?_)
                      · skip
                        by_cases hpn : posq < E.N
                        · skip
                          refine wp_skip ?_
                          refine then_n ?_
                          refine wp_block ?_
                          refine wp_seq ?_
                          -- region 60
                          refine reg_lit ?_
                          refine L1 (mv (v := .pointer _) rfl) ?_
                          refine LC (cl1 has41 rfl rfl) (more_ok E _ gq hs bs2 cs2 (p3) posq hE hW hS hB (by omega) hpn) ?_
                          rintro v w1 ⟨rfl, g2, hW, hB, ho2, kp1⟩
                          have kpS := kp1.X
                          have kp := kp.trans kp1
                          have ho := ho.rl ho2 (by decide)
                          have hZ := hZ.low ho2 (by decide)
                          have hT := hT.offs kpS ho2 (by decide)
                          refine L1 (asg (v := .nilIface) rfl) ?_
                          refine wpList_nil ?_
                          refine then_n ?_
                          refine wp_seq ?_
                          -- region 61
                          refine reg_lit ?_
                          refine L1 (mv (v := .nilIface) rfl) ?_
                          refine L1 (en_nil rfl rfl) ?_
                          refine wpList_nil ?_
                          refine then_n ?_
                          refine cond_f rfl ?_
                          refine wp_skip ?_
                          refine inb_n ?_
                          refine then_n ?_
                          have hle := hW.rd.le
                          exact ⟨E.N - (posq + 1), _, by omega, rfl, rfl, rfl, rfl, rfl, rfl, rfl, rfl, rfl, _, posq + 1, hW, hB, ho, hZ, kp, by omega, .inr (by omega), rfl, hT⟩
                        · skip
                          refine wp_skip ?_
                          refine then_n ?_
                          refine wp_block ?_
                          refine wp_seq ?_
                          -- region 60
                          refine reg_lit ?_
                          refine L1 (mv (v := .pointer _) rfl) ?_
                          refine LC (cl1 has41 rfl rfl) (more_short E _ gq hs bs2 cs2 (p3) posq hE hW hS hB (by have := hW.rd.le; omega)) ?_
                          rintro v w1 ⟨rfl, hW, kp1⟩
                          have kp := kp.trans kp1
                          have epq : posq = E.N := by have := hW.rd.le; omega
                          rw [epq] at hW
                          refine L1 (asg (v := (UEOFv E)) rfl) ?_
                          refine wpList_nil ?_
                          refine then_n ?_
                          refine wp_seq ?_
                          -- region 61
                          refine reg_lit ?_
                          refine L1 (mv (v := UEOFv E) rfl) ?_
                          refine L1 (en_held (u := 131) rfl rfl) ?_
                          refine wpList_nil ?_
                          refine then_n ?_
                          refine cond_t rfl ?_
                          refine wp_seq ?_
                          -- region 62
                          refine reg_lit ?_
                          refine L1 (mv (v := (UEOFv E)) rfl) ?_
                          refine L1 (asg (v := (UEOFv E)) rfl) ?_
                          refine wpList_nil ?_
                          refine then_n ?_
                          refine wp_ret ?_
                          refine inb_r ?_
                          refine then_r ?_
                          refine inb_r ?_
                          refine then_r ?_
                          refine inb_r ?_
                          refine then_r ?_
                          refine inb_r ?_
                          refine then_r ?_
                          refine ret1 rfl rfl ?_
                          exact ⟨_, rfl, _, _, _, a.short E.S', kp, cr_rl hC hW (ho.rle) hZ, rfl, rfl, rfl, rfl, .inl ⟨.inr (.inr (.inl ⟨rfl, rfl⟩)), by show (2 : Nat) ≠ 0; decide, md_rs h14 hnot hcl hok' (by rw [hcle]; exact hrd.trans (hrb (by show 8 * E.N < _; omega)))⟩⟩
                      · skip
                        have hpos : posq = rdTo (p3) pos3 nb := rdTo_of hpp hpq (by omega)
                        have hleq := hW.rd.le
                        have hbv := bv_lt E.D (p3) (8 * posq - (p3))
                        have h32 : bv E.D (p3) (8 * posq - (p3)) < 4294967296 := Nat.lt_of_lt_of_le hbv (Nat.pow_le_pow_right (n := 2) (by decide) (show 8 * posq - (p3) ≤ 32 by omega))
                        have hbm : bv E.D (p3) (8 * posq - (p3)) % 2 ^ nb = bv E.D (p3) nb := bv_mod E.D (p3) (8 * posq - (p3)) nb (by omega)
                        have hbn := bv_lt E.D (p3) nb
                        refine wp_exit ?_
                        refine then_e ?_
                        refine then_e ?_
                        refine inb_same ?_
                        refine then_n ?_
                        refine wp_seq ?_
                        -- region 63
                        refine reg_lit ?_
                        refine L1 (mv (v := .int _ _) rfl) ?_
                        refine L1 (mv (v := .pointer _) rfl) ?_
                        refine L1 (nilP rfl) ?_
                        refine L1 (fa95_3 rfl) ?_
                        refine L1 (ld82 rfl (hW.F.cellv (by decide) hB.b)) ?_
                        refine L1 (mv (v := .int _ _) rfl) ?_
                        refine L1 (bi rfl rfl (bn_shl32 (x := 1) rfl rfl (by omega) (by omega))) ?_
                        refine L1 (bi rfl rfl (bn_sub32 (c := ((2 ^ nb - 1 : Nat) : Int)) (by omega) (by omega) (by omega))) ?_
                        refine L1 (bi rfl rfl ((bn_mask32 (k := nb) rfl rfl h32 (by omega)).trans (congrArg (fun x : Nat => pure (Value.int .u32 (x : Int))) hbm))) ?_
                        refine L1 (cv82_3 rfl (wrap_s64 _ (by omega) (by omega))) ?_
                        refine L1 (bi rfl rfl (bn_add (c := ((rr + bv E.D p3 nb : Nat) : Int)) (by omega) (by omega) (by omega))) ?_
                        refine L1 (asg (v := .int _ _) rfl) ?_
                        refine wpList_nil ?_
                        refine then_n ?_
                        refine wp_seq ?_
                        have hT0 := hT
                        have kpq := Kp.refl E.X wq
                        -- region 64
                        refine reg_lit ?_
                        refine L1 (mv (v := .pointer _) rfl) ?_
                        refine L1 (nilP rfl) ?_
                        refine L1 (fa95_3 rfl) ?_
                        refine L1 (ld82 rfl (hW.F.cellv (by decide) hB.b)) ?_
                        refine L1 (mv (v := .int _ _) rfl) ?_
                        refine L1 (bi rfl rfl (bn_shr (n := nb) rfl rfl (by show nb ≤ 32; omega))) ?_
                        refine L1 (nilP rfl) ?_
                        refine L1 (fa95_3 rfl) ?_
                        refine Lst82 (v := .int _ _) rfl rfl rfl hW.F (by decide) ?_
                        intro w1 hb1 kp1
                        have hW := hW.setF hE hb1 kp1
                        have kp := kp.F kp1
                        have kpq := kpq.trans (kp1.mono (by simp [Env.X]))
                        clear hb1 kp1
                        have hZ := hZ.updW hW (by decide)
                        have ho := hW.offs (ho.rlu (by decide) _)
                        refine wpList_nil ?_
                        refine then_n ?_
                        refine wp_seq ?_
                        -- region 65
                        refine reg_lit ?_
                        refine L1 (mv (v := .pointer _) rfl) ?_
                        refine L1 (nilP rfl) ?_
                        refine L1 (fa95_4 rfl) ?_
                        refine L1 (ld38 rfl (hW.F.cellv (by decide) hB.nb)) ?_
                        refine L1 (mv (v := .int _ _) rfl) ?_
                        refine L1 (bi rfl rfl (bn_subu (c := ((8 * posq - p3 - nb : Nat) : Int)) (by omega) (by omega) (by omega))) ?_
                        refine L1 (nilP rfl) ?_
                        refine L1 (fa95_4 rfl) ?_
                        refine Lst38 (v := .int _ _) rfl rfl rfl hW.F (by decide) ?_
                        intro w1 hb1 kp1
                        have hW := hW.setF hE hb1 kp1
                        have kp := kp.F kp1
                        have kpq := kpq.trans (kp1.mono (by simp [Env.X]))
                        clear hb1 kp1
                        have hZ := hZ.updW hW (by decide)
                        have ho := hW.offs (ho.rlu (by decide) _)
                        refine wpList_nil ?_
                        have hB := Bt.advW hW hB nb (by omega) ⟨_, hro⟩ rfl rfl
                        have hT := hT0.offs kpq (hW.offs (((Off.refl [3, 4] gq).upd (k := 3) (by decide) _).upd (k := 4) (by decide) _)) (by decide)
                        have hS := hSt.rl ho
                        have hr2 := hB.ro
                        obtain ⟨ro2, hro2⟩ := hr2
                        obtain ⟨rep, hrep⟩ : ∃ rep, rr + bv E.D p3 nb = rep := ⟨_, rfl⟩
                        have hrep2 : 3 ≤ rep ∧ rep ≤ 138 := by omega
                        have hrg := hrg (by show _ ≤ 8 * E.N; omega)
                        have hrm := hrm (by show _ ≤ 8 * E.N; omega)
                        have hrg : _ := hrg
                        change bv E.S'.D p3 nb < 2 ^ nb at hbn
                        rw [show bv E.S'.D p3 nb = bv E.D p3 nb from rfl, hrep] at hrg hrm
                        rw [← hpos] at hrg hrm
                        clear kpq hT0
                        refine then_n ?_
                        refine wp_seq ?_
                        refine wp_seq ?_
                        -- region 66
                        refine reg_lit ?_
                        refine L1 (mv rfl) ?_
                        refine L1 (mv (v := .int .i64 ((rep : Nat) : Int)) (by show Value.int .i64 ((rr + bv E.D p3 nb : Nat) : Int) = _; rw [hrep])) ?_
                        refine L1 (bi rfl rfl (bn_add (c := ((l.length + rep : Nat) : Int)) (by omega) (by omega) (by omega))) ?_
                        refine L1 (mv (v := .int _ _) rfl) ?_
                        refine L1 (bi rfl rfl (bn_gtr (v := decide (nL E.S' a + nD E.S' a < l.length + rep)) (decide_eq_decide.2 (by omega)))) ?_
                        refine wpList_nil ?_
                        refine then_n ?_
                        refine cond_d (p := nL E.S' a + nD E.S' a < l.length + rep) rfl (fun hbig => ?_) (fun hbig => ?_)
                        · skip
                          refine wp_seq ?_
                          -- region 67
                          refine reg_lit ?_
                          refine L1 (mv (v := .pointer _) rfl) ?_
                          refine L1 (nilP rfl) ?_
                          refine L1 (fa95_2 rfl) ?_
                          refine L1 (ld2 rfl (hW.F.cellv (by decide) hro2)) ?_
                          refine L1 (mkI107 rfl) ?_
                          refine L1 (asg (v := .iface _ _) rfl) ?_
                          refine wpList_nil ?_
                          refine then_n ?_
                          refine wp_ret ?_
                          refine then_r ?_
                          refine inb_r ?_
                          refine then_r ?_
                          refine inb_r ?_
                          refine then_r ?_
                          refine ret1 rfl rfl ?_
                          exact ⟨_, rfl, _, _, _, { a with p := p3 + nb, pos := posq }.bad, kp, cr_rl hC hW (ho.rle) hZ, rfl, rfl, rfl, rfl, .inl ⟨.inr (.inr (.inr ⟨rfl, _, rfl⟩)), by show (3 : Nat) ≠ 0; decide, md_rb h14 hnot hcl hok' (by rw [hcle]; exact hrd.trans (hrg hbig))⟩⟩
                        · skip
                          have hrm := hrm hbig
                          refine wp_skip ?_
                          refine then_n ?_
                          refine wp_seq ?_
                          -- region 68
                          refine reg_lit ?_
                          refine L1 (asg (v := .int _ _) rfl) ?_
                          refine wpList_nil ?_
                          refine then_n ?_
                          refine wp_block ?_
                          obtain ⟨g5, hg5⟩ : ∃ g5, (upd (upd gq 3 (.int .u32 ((bv E.D p3 (8 * posq - p3) / 2 ^ nb : Nat) : Int))) 4 (.int .u64 ((8 * posq - p3 - nb : Nat) : Int))) = g5 := ⟨_, rfl⟩
                          rw [hg5] at hW hB ho hZ hT hS
                          refine loop_fr (fun k f w' => f 0 = fp E ∧ f 4 = .int .i64 ((nL E.S' a : Nat) : Int) ∧ f 5 = .int .i64 ((nD E.S' a : Nat) : Int) ∧ f 11 = .int .i64 ((nL E.S' a + nD E.S' a : Nat) : Int) ∧ f 14 = .int .i64 ((rep : Nat) : Int) ∧ f 16 = .int .i64 ((v : Nat) : Int) ∧ ∃ j : Nat, f 18 = .int .i64 ((j : Nat) : Int) ∧ f 10 = .int .i64 ((l.length + j : Nat) : Int) ∧ j ≤ rep ∧ k = rep - j ∧ ∃ bs', Wd E w' g5 hs bs' cs2 posq ∧ Kp E.L w w' ∧ HTab E w' g5 5 (cdL cl) ∧ LB bs' (l ++ List.replicate j v)) rep ⟨rfl, rfl, rfl, rfl, (by show Value.int .i64 ((rr + bv E.D p3 nb : Nat) : Int) = _; rw [hrep]), rfl, 0, rfl, rfl, Nat.zero_le _, rfl, bs2, hW, kp, hT, by simpa using hLB⟩ ?_
                          clear hW kp hT hLB
                          intro k f w7 HJ
                          obtain ⟨s0, s4, s5, s11, s14, s16, j, s18, s10, hj, rfl, bs3, hW, kp, hT, hLB⟩ := HJ
                          refine slots (fc s0 (fc s4 (fc s5 (fc s10 (fc s11 (fc s14 (fc s16 (fc s18 fnil)))))))) ?_
                          refine wp_seq ?_
                          refine wp_seq ?_
                          -- region 69
                          refine reg_lit ?_
                          refine L1 (mv (v := .int _ _) rfl) ?_
                          refine L1 (mv (v := .int _ _) rfl) ?_
                          refine L1 (bi rfl rfl (bn_lss (v := decide (j < rep)) (decide_eq_decide.2 (by omega)))) ?_
                          refine wpList_nil ?_
                          refine then_n ?_
                          refine cond_d (p := j < rep) rfl (fun hltj => ?_) (fun hltj => ?_)
                          · skip
                            refine wp_skip ?_
                            refine then_n ?_
                            refine wp_seq ?_
                            refine wp_block ?_
                            refine wp_seq ?_
                            -- region 71
                            refine reg_lit ?_
                            refine L1 (mv (v := .pointer _) rfl) ?_
                            refine L1 (nilP rfl) ?_
                            refine L1 (fa95_7 rfl) ?_
                            refine L1 (ld87 rfl (hW.F.cellv (by decide) hS.bt)) ?_
                            refine L1 (mv (v := .int _ _) rfl) ?_
                            refine L1 (mv (v := .int _ _) rfl) ?_
                            refine L1 (nilP rfl) ?_
                            refine L1 (ixA und97 sz3 rfl rfl (j := l.length + j) rfl (by omega)) ?_
                            refine Lst3 (v := .int .i64 ((v : Nat) : Int)) rfl rfl rfl hW.bt (by omega) ?_
                            intro w8 hbt kp1
                            have hW := hW.setbt hE (hbt.congr (g' := upd bs3 (l.length + j) (.int .i64 ((v : Nat) : Int))) (fun k _ => by rw [Nat.zero_add])) kp1
                            have hT := hT.keep (kp1.mono (by simp [Env.X])) (fun _ _ _ => rfl)
                            have kp := kp.bt kp1
                            have hLB := hLB.rep hv15
                            refine wpList_nil ?_
                            refine then_n ?_
                            -- region 72
                            refine reg_lit ?_
                            refine L1 (mv (v := .int _ _) rfl) ?_
                            refine L1 (bi rfl rfl (bn_add (c := ((l.length + (j + 1) : Nat) : Int)) (by omega) (by omega) (by omega))) ?_
                            refine L1 (asg (v := .int _ _) rfl) ?_
                            refine wpList_nil ?_
                            refine inb_n ?_
                            refine then_n ?_
                            -- region 70
                            refine reg_lit ?_
                            refine L1 (mv (v := .int _ _) rfl) ?_
                            refine L1 (bi rfl rfl (bn_add (c := ((j + 1 : Nat) : Int)) (by omega) (by omega) (by omega))) ?_
                            refine L1 (asg (v := .int _ _) rfl) ?_
                            refine wpList_nil ?_
                            refine then_n ?_
                            exact ⟨rep - (j + 1), _, by omega, rfl, rfl, rfl, rfl, rfl, rfl, rfl, j + 1, rfl, rfl, by omega, rfl, _, hW, kp, hT, hLB⟩
                          · skip
                            obtain rfl : rep = j := by omega
                            refine wp_exit ?_
                            refine then_e ?_
                            refine then_e ?_
                            refine inb_same ?_
                            refine inb_n ?_
                            refine then_n ?_
                            have hln2 : (l ++ List.replicate rep v).length = l.length + rep := by simp
                            exact ⟨nL E.S' a + nD E.S' a - (l.length + rep), _, by omega, rfl, rfl, rfl, rfl, rfl, l ++ List.replicate rep v, by rw [hln2]; rfl, by omega, by rw [hln2], fu, _, _, _, _, hW, hB, ho, hZ, kp, hT, hLB, by omega, hrd.trans hrm⟩
                · skip
                  have ho := ho.rl ho2 (by decide)
                  have hZ := hZ.low ho2 (by decide)
                  refine then_n ?_
                  refine wp_seq ?_
                  refine wp_seq ?_
                  -- region 35
                  refine reg_lit ?_
                  refine L1 (mv (v := UEOFv E) rfl) ?_
                  refine L1 (en_held (u := 131) rfl rfl) ?_
                  refine wpList_nil ?_
                  refine then_n ?_
                  refine cond_t rfl ?_
                  refine wp_seq ?_
                  -- region 36
                  refine reg_lit ?_
                  refine L1 (mv (v := (UEOFv E)) rfl) ?_
                  refine L1 (asg (v := (UEOFv E)) rfl) ?_
                  refine wpList_nil ?_
                  refine then_n ?_
                  refine wp_ret ?_
                  refine then_r ?_
                  refine inb_r ?_
                  refine then_r ?_
                  refine inb_r ?_
                  refine then_r ?_
                  refine ret1 rfl rfl ?_
                  exact ⟨_, rfl, _, _, _, a.short E.S', kp, cr_rl hC hW (ho.rle) hZ, rfl, rfl, rfl, rfl, .inl ⟨.inr (.inr (.inl ⟨rfl, rfl⟩)), by show (2 : Nat) ≠ 0; decide, md_rs h14 hnot hcl hok' (by rw [hcle]; exact hrd.trans (rl_short hnl5 hsy))⟩⟩
                · skip
                  have hZ := hZ.low ho2 (by decide)
                  refine then_n ?_
                  refine wp_seq ?_
                  refine wp_seq ?_
                  -- region 35
                  refine reg_lit ?_
                  refine L1 (mv (v := .iface _ _) rfl) ?_
                  refine L1 (en_held rfl rfl) ?_
                  refine wpList_nil ?_
                  refine then_n ?_
                  refine cond_t rfl ?_
                  refine wp_seq ?_
                  -- region 36
                  refine reg_lit ?_
                  refine L1 (mv (v := .iface _ _) rfl) ?_
                  refine L1 (asg (v := .iface _ _) rfl) ?_
                  refine wpList_nil ?_
                  refine then_n ?_
                  refine wp_ret ?_
                  refine then_r ?_
                  refine inb_r ?_
                  refine then_r ?_
                  refine inb_r ?_
                  refine then_r ?_
                  refine ret1 rfl rfl ?_
                  exact ⟨_, rfl, _, _, _, { a with p := p3, pos := pos3 }.bad, kp, cr_rl hC hW (ho.rle.trans (ho2.mono (fun k hk => (RLe_mem k).2 (by simp at hk; omega)))) hZ, rfl, rfl, rfl, rfl, .inl ⟨.inr (.inr (.inr ⟨rfl, _, rfl⟩)), by show (3 : Nat) ≠ 0; decide, md_rb h14 hnot hcl hok' (by rw [hcle]; exact hrd.trans (rl_bad hnl5 hsy))⟩⟩
              · skip
                obtain hln : l.length = nL E.S' a + nD E.S' a := by omega
                have hrk : rdLens E.S' (cdL cl) (nL E.S' a + nD E.S' a) (nL E.S' a + nD E.S' a) [] p1 pos1 = .ok l p2 pos2 := by rw [hrd]; exact rl_done (by omega)
                clear hrd hfu
                have htl : (l.take (nL E.S' a)).length = nL E.S' a := by rw [List.length_take]; omega
                have hdl : (l.drop (nL E.S' a)).length = nL E.S' a + nD E.S' a - nL E.S' a := by rw [List.length_drop, hln]
                have hbtF := hE.Fb
                have hmx1 : mx (l.take (nL E.S' a)) ≤ 15 := mx_le15 (hLB.take15 _)
                have hmx2 : mx (l.drop (nL E.S' a)) ≤ 15 := mx_le15 (hLB.drop15 _)
                have hl256 := hLB.le 256
                clear hT hLk
                refine wp_exit ?_
                refine then_e ?_
                refine then_e ?_
                refine inb_same ?_
                refine then_n ?_
                refine wp_seq ?_
                refine wp_seq ?_
                have hC0 : w4.drew.cell? ⟨E.F, 1035, none⟩ = some (.pointer (some ⟨E.bt, 0, none⟩)) := hW.drew.F.cellv (by decide) hS.bt
                -- region 73
                refine reg_mix [false, false, false, false, false, false, false, false, false, false, true, false, false, false, false, false, false, false, false, false, false, false, false, false, false, false, true, false, false] (fun w => w.cell? ⟨E.F, 1035, none⟩ = some (.pointer (some ⟨E.bt, 0, none⟩))) mixed (by kernel_rfl) ?_ ?_
                · exact hC0
                have hW := hW.drew
                have kp := kp.drew
                obtain hok1 | hok1 : okL (l.take (nL E.S' a)) = false ∨ okL (l.take (nL E.S' a)) = true := by cases okL (l.take (nL E.S' a)) <;> simp
                · skip
                  refine T1 (fun w hC => mv (v := .pointer _) rfl) ?_
                  refine T1 (fun w hC => nilP rfl) ?_
                  refine T1 (fun w hC => fa95_5 rfl) ?_
                  refine T1 (fun w hC => mv (v := .pointer _) rfl) ?_
                  refine T1 (fun w hC => nilP rfl) ?_
                  refine T1 (fun w hC => fa95_7 rfl) ?_
                  refine T1 (fun w hC => ld87 rfl hC) ?_
                  refine T1 (fun w hC => nilP rfl) ?_
                  refine T1 (fun w hC => mv (v := .int _ _) rfl) ?_
                  refine T1 (fun w hC => sl97 (l := 0) (h := nL E.S' a) rfl rfl rfl rfl rfl (by omega) (by omega) (by omega)) ?_
                  have hXl := hW.lts
                  have hic := init_c _ E.F 1054 95 5 g2 E.bt 0 316 (l.take (nL E.S' a)) hW.F (by decide) hZ.1 (fun j hj => hW.bt.cellv (by omega) (hLB.take j hj)) (fun e => hbtF e.symm) (hLB.take15 _) (by omega)
                  rw [htl] at hic
                  refine EC (cl2 has53 rfl rfl rfl) hic ?_
                  rintro v1 w5 ⟨hv1, gx1, hF1, hout1, kp1, hHZ1, hT1⟩
                  rw [hok1] at hv1
                  subst hv1
                  refine ⟨hF1.cellv (by decide) ((hout1 1035 (by decide)).trans hS.bt), ?_⟩
                  have hW := hW.setF hE hF1 kp1
                  have kp := kp.F kp1
                  have ho := ho.rlo (o := 5) (by decide) hout1
                  have hB := hB.low (fun j hj => hout1 j (by omega))
                  have hZ : HZs gx1 := ⟨hHZ1, hZ.2.keep fun j h1 h2 => hout1 j (by omega)⟩
                  have hS := hSt.rl ho
                  obtain ⟨ro, hro⟩ := hB.ro
                  refine T1 (fun w hC => un_not rfl) ?_
                  refine T1 (fun w hC => mv (v := .bool _) rfl) ?_
                  refine Tskip (t := 294) (b := false) rfl (by decide) rfl ?_
                  refine Tskip (t := 294) (b := false) rfl (by decide) rfl ?_
                  refine Tskip (t := 294) (b := false) rfl (by decide) rfl ?_
                  refine Tskip (t := 294) (b := false) rfl (by decide) rfl ?_
                  refine Tskip (t := 294) (b := false) rfl (by decide) rfl ?_
                  refine Tskip (t := 294) (b := false) rfl (by decide) rfl ?_
                  refine Tskip (t := 294) (b := false) rfl (by decide) rfl ?_
                  refine Tskip (t := 294) (b := false) rfl (by decide) rfl ?_
                  refine Tskip (t := 294) (b := false) rfl (by decide) rfl ?_
                  refine Tskip (t := 294) (b := false) rfl (by decide) rfl ?_
                  refine Tskip (t := 294) (b := false) rfl (by decide) rfl ?_
                  refine Tskip (t := 294) (b := false) rfl (by decide) rfl ?_
                  refine Tskip (t := 294) (b := false) rfl (by decide) rfl ?_
                  refine Eskip (t := 294) (b := false) rfl (by decide) rfl ?_
                  refine Tskip (t := 294) (b := false) rfl (by decide) rfl ?_
                  refine T1 (fun w hC => pk_t rfl rfl) ?_
                  refine mix_nil ?_
                  refine then_n ?_
                  refine cond_t rfl ?_
                  refine wp_seq ?_
                  -- region 74
                  refine reg_lit ?_
                  refine L1 (mv (v := .pointer _) rfl) ?_
                  refine L1 (nilP rfl) ?_
                  refine L1 (fa95_2 rfl) ?_
                  refine L1 (ld2 rfl (hW.F.cellv (by decide) hro)) ?_
                  refine L1 (mkI107 rfl) ?_
                  refine L1 (asg (v := .iface _ _) rfl) ?_
                  refine wpList_nil ?_
                  refine then_n ?_
                  refine wp_ret ?_
                  refine then_r ?_
                  refine ret1 rfl rfl ?_
                  exact ⟨_, rfl, _, _, _, { a with p := p2, pos := pos2 }.bad, kp, cr_rl hC hW (ho.rle) hZ, rfl, rfl, rfl, rfl, .inl ⟨.inr (.inr (.inr ⟨rfl, _, rfl⟩)), by show (3 : Nat) ≠ 0; decide, md_kb h14 hnot hcl hok' (by rw [hcle]; exact hrk) (.inl hok1)⟩⟩
                · skip
                  refine T1 (fun w hC => mv (v := .pointer _) rfl) ?_
                  refine T1 (fun w hC => nilP rfl) ?_
                  refine T1 (fun w hC => fa95_5 rfl) ?_
                  refine T1 (fun w hC => mv (v := .pointer _) rfl) ?_
                  refine T1 (fun w hC => nilP rfl) ?_
                  refine T1 (fun w hC => fa95_7 rfl) ?_
                  refine T1 (fun w hC => ld87 rfl hC) ?_
                  refine T1 (fun w hC => nilP rfl) ?_
                  refine T1 (fun w hC => mv (v := .int _ _) rfl) ?_
                  refine T1 (fun w hC => sl97 (l := 0) (h := nL E.S' a) rfl rfl rfl rfl rfl (by omega) (by omega) (by omega)) ?_
                  have hXl := hW.lts
                  have hic := init_c _ E.F 1054 95 5 g2 E.bt 0 316 (l.take (nL E.S' a)) hW.F (by decide) hZ.1 (fun j hj => hW.bt.cellv (by omega) (hLB.take j hj)) (fun e => hbtF e.symm) (hLB.take15 _) (by omega)
                  rw [htl] at hic
                  refine EC (cl2 has53 rfl rfl rfl) hic ?_
                  rintro v1 w5 ⟨hv1, gx1, hF1, hout1, kp1, hHZ1, hT1⟩
                  rw [hok1] at hv1
                  subst hv1
                  refine ⟨hF1.cellv (by decide) ((hout1 1035 (by decide)).trans hS.bt), ?_⟩
                  have hW := hW.setF hE hF1 kp1
                  have kp := kp.F kp1
                  have ho := ho.rlo (o := 5) (by decide) hout1
                  have hB := hB.low (fun j hj => hout1 j (by omega))
                  have hZ : HZs gx1 := ⟨hHZ1, hZ.2.keep fun j h1 h2 => hout1 j (by omega)⟩
                  have hS := hSt.rl ho
                  obtain ⟨ro, hro⟩ := hB.ro
                  refine T1 (fun w hC => un_not rfl) ?_
                  refine T1 (fun w hC => mv (v := .bool _) rfl) ?_
                  have hT1 := hT1 hok1 E (.inr hXl)
                  obtain hok2 | hok2 : okL (l.drop (nL E.S' a)) = false ∨ okL (l.drop (nL E.S' a)) = true := by cases okL (l.drop (nL E.S' a)) <;> simp
                  · skip
                    refine T1g (t := 294) (b := false) rfl (by decide) rfl (fun w hC => mv (v := .pointer _) rfl) ?_
                    refine T1g (t := 294) (b := false) rfl (by decide) rfl (fun w hC => nilP rfl) ?_
                    refine T1g (t := 294) (b := false) rfl (by decide) rfl (fun w hC => fa95_6 rfl) ?_
                    refine T1g (t := 294) (b := false) rfl (by decide) rfl (fun w hC => mv (v := .pointer _) rfl) ?_
                    refine T1g (t := 294) (b := false) rfl (by decide) rfl (fun w hC => nilP rfl) ?_
                    refine T1g (t := 294) (b := false) rfl (by decide) rfl (fun w hC => fa95_7 rfl) ?_
                    refine T1g (t := 294) (b := false) rfl (by decide) rfl (fun w hC => ld87 rfl hC) ?_
                    refine T1g (t := 294) (b := false) rfl (by decide) rfl (fun w hC => nilP rfl) ?_
                    refine T1g (t := 294) (b := false) rfl (by decide) rfl (fun w hC => mv (v := .int _ _) rfl) ?_
                    refine T1g (t := 294) (b := false) rfl (by decide) rfl (fun w hC => mv (v := .int _ _) rfl) ?_
                    refine T1g (t := 294) (b := false) rfl (by decide) rfl (fun w hC => mv (v := .int _ _) rfl) ?_
                    refine T1g (t := 294) (b := false) rfl (by decide) rfl (fun w hC => bi rfl rfl (bn_add (c := ((nL E.S' a + nD E.S' a : Nat) : Int)) (by omega) (by omega) (by omega))) ?_
                    refine T1g (t := 294) (b := false) rfl (by decide) rfl (fun w hC => sl97 (l := nL E.S' a) (h := nL E.S' a + nD E.S' a) rfl rfl rfl rfl rfl (by omega) (by omega) (by omega)) ?_
                    have hXl := hW.lts
                    have hic := init_c _ E.F 1054 95 520 gx1 E.bt (nL E.S' a) (316 - (nL E.S' a)) (l.drop (nL E.S' a)) hW.F (by decide) hZ.2 (fun j hj => hW.bt.cellv (by omega) (hLB.drop j hj)) (fun e => hbtF e.symm) (hLB.drop15 _) (by omega)
                    rw [hdl] at hic
                    refine ECg (t := 294) (b := false) rfl (by decide) rfl (cl2 has53 rfl rfl rfl) hic ?_
                    rintro v2 w6 ⟨hv2, gx2, hF2, hout2, kp2, hHZ2, hT2⟩
                    rw [hok2] at hv2
                    subst hv2
                    refine ⟨hF2.cellv (by decide) ((hout2 1035 (by decide)).trans hS.bt), ?_⟩
                    have hW := hW.setF hE hF2 kp2
                    have kp := kp.F kp2
                    have ho := ho.rlo (o := 520) (by decide) hout2
                    have hB := hB.low (fun j hj => hout2 j (by omega))
                    have hZ : HZs gx2 := ⟨hZ.1.keep fun j h1 h2 => hout2 j (by omega), hHZ2⟩
                    have hS := hSt.rl ho
                    obtain ⟨ro, hro⟩ := hB.ro
                    refine T1g (t := 294) (b := false) rfl (by decide) rfl (fun w hC => un_not rfl) ?_
                    refine T1 (fun w hC => pk_f rfl rfl) ?_
                    refine mix_nil ?_
                    refine then_n ?_
                    refine cond_t rfl ?_
                    refine wp_seq ?_
                    -- region 74
                    refine reg_lit ?_
                    refine L1 (mv (v := .pointer _) rfl) ?_
                    refine L1 (nilP rfl) ?_
                    refine L1 (fa95_2 rfl) ?_
                    refine L1 (ld2 rfl (hW.F.cellv (by decide) hro)) ?_
                    refine L1 (mkI107 rfl) ?_
                    refine L1 (asg (v := .iface _ _) rfl) ?_
                    refine wpList_nil ?_
                    refine then_n ?_
                    refine wp_ret ?_
                    refine then_r ?_
                    refine ret1 rfl rfl ?_
                    exact ⟨_, rfl, _, _, _, { a with p := p2, pos := pos2 }.bad, kp, cr_rl hC hW (ho.rle) hZ, rfl, rfl, rfl, rfl, .inl ⟨.inr (.inr (.inr ⟨rfl, _, rfl⟩)), by show (3 : Nat) ≠ 0; decide, md_kb h14 hnot hcl hok' (by rw [hcle]; exact hrk) (.inr hok2)⟩⟩
                  · skip
                    refine T1g (t := 294) (b := false) rfl (by decide) rfl (fun w hC => mv (v := .pointer _) rfl) ?_
                    refine T1g (t := 294) (b := false) rfl (by decide) rfl (fun w hC => nilP rfl) ?_
                    refine T1g (t := 294) (b := false) rfl (by decide) rfl (fun w hC => fa95_6 rfl) ?_
                    refine T1g (t := 294) (b := false) rfl (by decide) rfl (fun w hC => mv (v := .pointer _) rfl) ?_
                    refine T1g (t := 294) (b := false) rfl (by decide) rfl (fun w hC => nilP rfl) ?_
                    refine T1g (t := 294) (b := false) rfl (by decide) rfl (fun w hC => fa95_7 rfl) ?_
                    refine T1g (t := 294) (b := false) rfl (by decide) rfl (fun w hC => ld87 rfl hC) ?_
                    refine T1g (t := 294) (b := false) rfl (by decide) rfl (fun w hC => nilP rfl) ?_
                    refine T1g (t := 294) (b := false) rfl (by decide) rfl (fun w hC => mv (v := .int _ _) rfl) ?_
                    refine T1g (t := 294) (b := false) rfl (by decide) rfl (fun w hC => mv (v := .int _ _) rfl) ?_
                    refine T1g (t := 294) (b := false) rfl (by decide) rfl (fun w hC => mv (v := .int _ _) rfl) ?_
                    refine T1g (t := 294) (b := false) rfl (by decide) rfl (fun w hC => bi rfl rfl (bn_add (c := ((nL E.S' a + nD E.S' a : Nat) : Int)) (by omega) (by omega) (by omega))) ?_
                    refine T1g (t := 294) (b := false) rfl (by decide) rfl (fun w hC => sl97 (l := nL E.S' a) (h := nL E.S' a + nD E.S' a) rfl rfl rfl rfl rfl (by omega) (by omega) (by omega)) ?_
                    have hXl := hW.lts
                    have hic := init_c _ E.F 1054 95 520 gx1 E.bt (nL E.S' a) (316 - (nL E.S' a)) (l.drop (nL E.S' a)) hW.F (by decide) hZ.2 (fun j hj => hW.bt.cellv (by omega) (hLB.drop j hj)) (fun e => hbtF e.symm) (hLB.drop15 _) (by omega)
                    rw [hdl] at hic
                    refine ECg (t := 294) (b := false) rfl (by decide) rfl (cl2 has53 rfl rfl rfl) hic ?_
                    rintro v2 w6 ⟨hv2, gx2, hF2, hout2, kp2, hHZ2, hT2⟩
                    rw [hok2] at hv2
                    subst hv2
                    refine ⟨hF2.cellv (by decide) ((hout2 1035 (by decide)).trans hS.bt), ?_⟩
                    have hW := hW.setF hE hF2 kp2
                    have kp := kp.F kp2
                    have ho := ho.rlo (o := 520) (by decide) hout2
                    have hB := hB.low (fun j hj => hout2 j (by omega))
                    have hZ : HZs gx2 := ⟨hZ.1.keep fun j h1 h2 => hout2 j (by omega), hHZ2⟩
                    have hS := hSt.rl ho
                    obtain ⟨ro, hro⟩ := hB.ro
                    refine T1g (t := 294) (b := false) rfl (by decide) rfl (fun w hC => un_not rfl) ?_
                    refine T1 (fun w hC => pk_f rfl rfl) ?_
                    refine mix_nil ?_
                    have hT1 := hT1.keep (kp2.mono (by simp [Env.X])) (fun j h1 h2 => hout2 j (by omega))
                    have hT2 := hT2 hok2 E (.inr hXl)
                    have hrk' : rdLens E.S' (cdL ((List.range 19).map F)) (nL E.S' a + nD E.S' a) (nL E.S' a + nD E.S' a) [] p1 pos1 = .ok l p2 pos2 := by rw [hcle]; exact hrk
                    have hmd2 := md_ok h14 hnot hcl hok' hrk' hok1 hok2
                    have hm15 : max (mn (l.take (nL E.S' a))) (l.getD 256 0) ≤ 15 := by have := mn_mx (l.take (nL E.S' a)); omega
                    have hLk1 : LkOk ⟨max (mn (l.take (nL E.S' a))) (l.getD 256 0), lkL (l.take (nL E.S' a))⟩ := lk_ok hok1 hmx1 (by omega) _ (Nat.le_max_left _ _) hm15
                    have hLk2 : LkOk (cdL (l.drop (nL E.S' a))) := lk_ok hok2 hmx2 (by omega) _ (Nat.le_refl _) (Nat.le_trans (mn_mx _) hmx2)
                    refine then_n ?_
                    refine cond_f rfl ?_
                    refine wp_skip ?_
                    refine then_n ?_
                    refine wp_seq ?_
                    refine wp_seq ?_
                    -- region 75 (its order is open)
                    refine reg_still mixed (by kernel_rfl) ?_
                    have hW := hW.drew
                    have kp := kp.drew
                    have hT1 := hT1.keep ((Kp.refl E.X _).drew) (fun _ _ _ => rfl)
                    have hT2 := hT2.keep ((Kp.refl E.X _).drew) (fun _ _ _ => rfl)
                    refine S1 (mv (v := .pointer _) rfl) ?_
                    refine S1 (nilP rfl) ?_
                    refine S1 (fa95_5 rfl) ?_
                    refine S1 (fb86_0 rfl) ?_
                    refine S1 (ld3 (v := .int .i64 ((mn (l.take (nL E.S' a)) : Nat) : Int)) rfl (hW.F.cellv (by decide) hT1.1)) ?_
                    refine S1 (mv (v := .pointer _) rfl) ?_
                    refine S1 (nilP rfl) ?_
                    refine S1 (fa95_7 rfl) ?_
                    refine S1 (ld87 rfl (hW.F.cellv (by decide) hS.bt)) ?_
                    refine S1 (nilP rfl) ?_
                    refine S1 (ixA und97 sz3 rfl rfl (j := 256) rfl (by decide)) ?_
                    refine S1 (ld3 (v := .int .i64 ((l.getD 256 0 : Nat) : Int)) rfl (hW.bt.cellv (by decide) (hLB.cell 256 (by omega)))) ?_
                    refine S1 (bi rfl rfl (bn_lss (v := decide (mn (l.take (nL E.S' a)) < l.getD 256 0)) (decide_eq_decide.2 (by omega)))) ?_
                    refine still_nil ?_
                    refine then_n ?_
                    refine cond_d (p := mn (l.take (nL E.S' a)) < l.getD 256 0) rfl (fun hmin => ?_) (fun hmin => ?_)
                    · skip
                      -- region 76
                      refine reg_lit ?_
                      refine L1 (mv (v := .pointer _) rfl) ?_
                      refine L1 (mv (v := .pointer _) rfl) ?_
                      refine L1 (nilP rfl) ?_
                      refine L1 (fa95_7 rfl) ?_
                      refine L1 (ld87 rfl (hW.F.cellv (by decide) hS.bt)) ?_
                      refine L1 (nilP rfl) ?_
                      refine L1 (ixA und97 sz3 rfl rfl (j := 256) rfl (by decide)) ?_
                      refine L1 (ld3 (v := .int .i64 ((l.getD 256 0 : Nat) : Int)) rfl (hW.bt.cellv (by decide) (hLB.cell 256 (by omega)))) ?_
                      refine L1 (nilP rfl) ?_
                      refine L1 (fa95_5 rfl) ?_
                      refine L1 (fb86_0 rfl) ?_
                      refine Lst3 (v := .int .i64 ((l.getD 256 0 : Nat) : Int)) rfl rfl rfl hW.F (by decide) ?_
                      intro w8 hF8 kp8
                      have hW := hW.setF hE hF8 kp8
                      have kpx := kp8.mono (L' := E.X) (by simp [Env.X])
                      have kp := kp.F kp8
                      have hT1 : HTab E w8 (upd gx2 5 (.int .i64 ((l.getD 256 0 : Nat) : Int))) 5 ⟨max (mn (l.take (nL E.S' a))) (l.getD 256 0), lkL (l.take (nL E.S' a))⟩ := by rw [Nat.max_eq_right (Nat.le_of_lt hmin)]; exact hT1.min kpx
                      have hT2 := hT2.offs kpx ((Off.refl [5] gx2).upd (k := 5) (by decide) (.int .i64 ((l.getD 256 0 : Nat) : Int))) (by decide)
                      have hB := hB.off ((Off.refl [5] gx2).upd (k := 5) (by decide) (.int .i64 ((l.getD 256 0 : Nat) : Int))) (by decide)
                      have hZ : HZs (upd gx2 5 (.int .i64 ((l.getD 256 0 : Nat) : Int))) := ⟨hz_min (o := 5) (g := gx2) (m := l.getD 256 0) (by omega), hZ.2.keep fun j h1 h2 => upd_ne _ _ _ _ (by omega)⟩
                      have ho := hW.offs (ho.rlu (by decide) _)
                      refine wpList_nil ?_
                      refine then_n ?_
                      refine wp_seq ?_
                      -- region 77
                      refine reg_lit ?_
                      refine L1 (asg (v := .nilIface) rfl) ?_
                      refine wpList_nil ?_
                      refine then_n ?_
                      refine wp_ret ?_
                      refine ret1 rfl rfl ?_
                      exact ⟨_, rfl, _, _, _, { a with p := p2, pos := pos2, md := .huff ⟨max (mn (l.take (nL E.S' a))) (l.getD 256 0), lkL (l.take (nL E.S' a))⟩ (some (cdL (l.drop (nL E.S' a)))) none }, kp, cr_rl hC hW ho.rle hZ, rfl, rfl, rfl, rfl, .inr ⟨rfl, herr, _, _, hmd2, rfl, hLk1, hLk2, hT1, hT2, hB, fun j hj => ho.rlf j hj⟩⟩
                    · skip
                      have hT1 : HTab E w6.drew gx2 5 ⟨max (mn (l.take (nL E.S' a))) (l.getD 256 0), lkL (l.take (nL E.S' a))⟩ := by rw [Nat.max_eq_left (by omega)]; exact hT1
                      refine wp_skip ?_
                      refine then_n ?_
                      refine wp_seq ?_
                      -- region 77
                      refine reg_lit ?_
                      refine L1 (asg (v := .nilIface) rfl) ?_
                      refine wpList_nil ?_
                      refine then_n ?_
                      refine wp_ret ?_
                      refine ret1 rfl rfl ?_
                      exact ⟨_, rfl, _, _, _, { a with p := p2, pos := pos2, md := .huff ⟨max (mn (l.take (nL E.S' a))) (l.getD 256 0), lkL (l.take (nL E.S' a))⟩ (some (cdL (l.drop (nL E.S' a)))) none }, kp, cr_rl hC hW ho.rle hZ, rfl, rfl, rfl, rfl, .inr ⟨rfl, herr, _, _, hmd2, rfl, hLk1, hLk2, hT1, hT2, hB, fun j hj => ho.rlf j hj⟩⟩
end Go.Proofs.YtejeloeaklpinaaDoor

/- FnCuts: its walk, and that of the probe that is read behind it (printed by gen/g_cut.py). -/
namespace Go.Proofs.YtejeloeaklpinaaDoor
open Go.ChangeShapes Go.WideShapes Go.ChangeAt Go.RowKit
/-- All that is asked of the codes holds. -/
theorem hc_all : HC := ⟨fixed_c, huff_c, dyn_c⟩
theorem hc_of (data dict : List Nat) : HCof data dict := fun _ _ _ => hc_all
theorem sz25 (w : World) : (sizeOf 25).run Tryd.prog w = .ok 1 w := by kernel_rfl
theorem ag25 (w : World) : (isAgg 25).run Tryd.prog w = .ok false w := by kernel_rfl
section
variable {ρ : Operand → Value} {d : Option Nat} {x y z u v : Operand} {ty : TypeId} {pos : String} {af : Array Edge} {gd : Option (Nat × Bool)} {w : World}
theorem ld25 {a : Addr} {v : Value} (hx : ρ x = .pointer (some a)) (hc : w.cell? a = some v) : (execOp ρ ⟨d, .load 25 x, ty, pos, af, gd⟩).run Tryd.prog w = .ok (.value v) w := ld_any 25 (ag25 w) hx hc
theorem bs6 {x5 : Operand} {h0 h1 h2 h3 h4 h5 : Int} (hx : ρ x = .int .u8 h0) (hy : ρ y = .int .u8 h1) (hz : ρ z = .int .u8 h2) (hu : ρ u = .int .u8 h3) (hv : ρ v = .int .u8 h4) (h5' : ρ x5 = .int .u8 h5) : (execOp ρ ⟨d, .buildSlice 22 6 #[(0, x), (1, y), (2, z), (3, u), (4, v), (5, x5)], ty, pos, af, gd⟩).run Tryd.prog w = .ok (.value (.slice (some ⟨w.heap.size, 0, none⟩) 6 6)) (w.alloc (.cells #[.int .u8 h0, .int .u8 h1, .int .u8 h2, .int .u8 h3, .int .u8 h4, .int .u8 h5] 5)) := by
  simp only [execOp, List.map_toArray, List.map_cons, List.map_nil, hx, hy, hz, hu, hv, h5']
  kernel_rfl
end
theorem probe_eq : stUp ([[65]] : List (List Nat)) ([[65]] : List (List Nat)).length = [1, 1, 0, 254, 255, 65] := by decide
theorem probe_law {r : List Nat} {c left : Nat} (hI : InfR [1, 1, 0, 254, 255, 65] [] [] r c left) : c = 0 ∧ left = 0 ∧ r = [65] := by
  rw [← probe_eq] at hI
  exact st_law (by intro k x hx; cases k <;> simp at hx; omega) (by simp [whUp]) (by intro k; cases k <;> simp) (by simp) (by simp) hI
theorem str_A : bstr [65] = ⟨#[65]⟩ := by decide
/-- Numbers of two bytes that came in. -/
def AgS (w : World) (pa : Option Addr) (zs : List Int) : Prop := ∀ j, j < zs.length → ∃ ad, pa = some ad ∧ w.cell? (ad.add j) = some (.int .i16 (zs.getD j 0))
/-- The list of sizes as values. -/
def ints (zs : List Int) : List Value := zs.map (Value.int .i64)
theorem ints_take (zs : List Int) {i : Nat} (h : i < zs.length) : ints (zs.take (i + 1)) = ints (zs.take i) ++ [.int .i64 (zs.getD i 0)] := by
  unfold ints
  rw [List.take_succ_eq_append_getElem h, List.map_append, List.getD_eq_getElem?_getD, List.getElem?_eq_getElem h]
  rfl
theorem ints_len (zs : List Int) : (ints zs).length = zs.length := by simp [ints]
theorem ints_get (zs : List Int) {j : Nat} (h : j < zs.length) : (ints zs).getD j undef = .int .i64 (zs.getD j 0) := by
  unfold ints
  rw [List.getD_eq_getElem?_getD, List.getElem?_map, List.getD_eq_getElem?_getD, List.getElem?_eq_getElem h]
  rfl
attribute [local irreducible] wpList wpStill wpMix Code.wp Calls fr

theorem sl6 (w : World) : Sl (w.alloc (.cells #[.int .u8 1, .int .u8 1, .int .u8 0, .int .u8 254, .int .u8 255, .int .u8 65] 5)) (.slice (some ⟨w.heap.size, 0, none⟩) 6 6) [1, 1, 0, 254, 255, 65] := by
  refine .inr ⟨w.heap.size, 6, fun k => .int .u8 (([1, 1, 0, 254, 255, 65].getD k 0 : Nat) : Int), rfl, Bk.newOf w _ 5 6 _ rfl, Nat.le_refl _, by decide, fun k hk => rfl⟩
theorem probe_w (E0 : Env) (w : World) (hG : Gl E0 w) : Ret 10 [] w fun v w' => v = .bool true ∧ Kp [] w w' := by
  have kp := Kp.refl [] w
  refine calls_fr (N := 21) Tryd.func10 rfl rfl (by simp) rfl ?_
  refine wp_seq ?_
  -- region 0
  refine reg_lit ?_
  refine L1 (asg (v := .bool _) rfl) ?_
  refine wpList_nil ?_
  refine then_n ?_
  refine wp_seq ?_
  -- region 1
  refine reg_lit ?_
  refine L1 (bs6 rfl rfl rfl rfl rfl rfl) ?_
  have hb := sl6 w
  have kp := kp.alloc (.cells #[.int .u8 1, .int .u8 1, .int .u8 0, .int .u8 254, .int .u8 255, .int .u8 65] 5)
  refine LC (cl3 has9 rfl rfl rfl rfl) (inflate_c E0 _ (hG.kp kp (by simp)) _ (.slice none 0 0) [1, 1, 0, 254, 255, 65] [] hb.ag ⟨by decide, by decide⟩ (Ag.nil _) Bytes.nil none 0 [] (by simp) (by simp) (hc_of _ _)) ?_
  rintro v w3 ⟨r, c, left, ov, rfl, hSl3, hI, kp3, hown3⟩
  obtain ⟨rfl, rfl, rfl⟩ := probe_law hI
  have kp := kp.trans kp3
  refine L1 (mv (v := .tuple _) rfl) ?_
  refine L1 (ext3_0 rfl) ?_
  refine L1 (ext3_1 rfl) ?_
  refine L1 (ext3_2 rfl) ?_
  refine L1 (asg (v := ov) rfl) ?_
  refine L1 (asg (v := .int _ _) rfl) ?_
  refine L1 (asg (v := .int _ _) rfl) ?_
  refine wpList_nil ?_
  refine then_n ?_
  refine wp_seq ?_
  -- region 2
  refine reg_lit ?_
  refine L1 (mv (v := .int _ _) rfl) ?_
  refine L1 (bi rfl rfl (bn_eql (v := true) (decide_eq_true rfl))) ?_
  refine L1 (mv (v := .bool _) rfl) ?_
  refine L1g (t := 12) (b := true) rfl (by decide) rfl (mv (v := .int _ _) rfl) ?_
  refine L1g (t := 12) (b := true) rfl (by decide) rfl (bi rfl rfl (bn_eql (v := true) (decide_eq_true rfl))) ?_
  refine L1 (pk_t rfl rfl) ?_
  refine L1 (mv (v := .bool _) rfl) ?_
  refine L1g (t := 16) (b := true) rfl (by decide) rfl (mv (v := ov) rfl) ?_
  refine L1g (t := 16) (b := true) rfl (by decide) rfl (cvs rfl hSl3.ag) ?_
  refine L1g (t := 16) (b := true) rfl (by decide) rfl (bis (v := true) rfl rfl str_A) ?_
  refine L1 (pk_t rfl rfl) ?_
  refine L1 (asg (v := .bool _) rfl) ?_
  refine wpList_nil ?_
  refine then_n ?_
  refine wp_ret ?_
  refine ret1 rfl rfl ?_
  exact ⟨_, rfl, rfl, kp⟩
theorem fnCuts_w (E0 : Env) (w : World) (hG : Gl E0 w) (dv xv : Value) (data dict : List Nat) (hA : Ag w dv data) (hD : Bytes data) (hX : Ag w xv dict) (hXb : Bytes dict) (pa : Option Addr) (pc : Nat) (zs : List Int) (hZ : AgS w pa zs) (hz16 : ∀ z ∈ zs, -32768 ≤ z ∧ z ≤ 32767) (hzl : zs.length ≤ 1048576) :
    Ret 3 [dv, xv, .slice pa zs.length pc] w fun v w' => v = .bool true ∧ Kp [] w w' := by
  have kp := Kp.refl [] w
  refine calls_fr (N := 71) Tryd.func3 rfl rfl (by simp) rfl ?_
  refine wp_seq ?_
  -- region 0
  refine reg_lit ?_
  refine L1 (asg (v := .bool _) rfl) ?_
  refine wpList_nil ?_
  refine then_n ?_
  refine wp_seq ?_
  -- region 1
  refine reg_lit ?_
  refine L1 bsi0 ?_
  have hS := sv0 w
  have hsS : ∀ k, (Value.slice (some ⟨w.heap.size, 0, none⟩) 0 0).ownBlock = some k → w.heap.size ≤ k := by intro k hk; simp only [Value.ownBlock, Option.some.injEq] at hk; omega
  have kp := kp.alloc (.cells #[] 3)
  refine L1 (asg (v := .slice _ _ _) rfl) ?_
  refine wpList_nil ?_
  refine then_n ?_
  refine wp_seq ?_
  refine wp_seq ?_
  -- region 2
  refine reg_lit ?_
  refine L1 (mv (v := .slice _ _ _) rfl) ?_
  refine L1 (ln und23 rfl) ?_
  refine L1 (mv (v := .int _ _) rfl) ?_
  refine wpList_nil ?_
  refine then_n ?_
  refine wp_block ?_
  refine loop_fr (fun k f w' => f 0 = dv ∧ f 1 = xv ∧ f 17 = .slice pa zs.length pc ∧ f 18 = .int .i64 (zs.length : Int) ∧ ∃ (i : Nat) (sv : Value), f 19 = .int .i64 (i : Int) ∧ f 7 = sv ∧ i ≤ zs.length ∧ k = zs.length - i ∧ Sv w' sv (ints (zs.take i)) ∧ (∀ k, sv.ownBlock = some k → w.heap.size ≤ k) ∧ Kp [] w w') zs.length ⟨rfl, rfl, rfl, rfl, 0, _, rfl, rfl, Nat.zero_le _, rfl, hS, hsS, kp⟩ ?_
  clear hS hsS kp
  intro k f w1 HJ
  obtain ⟨s0, s1, s17, s18, i, sv, s19, s7, hi, rfl, hS, hsS, kp⟩ := HJ
  refine slots (fc s0 (fc s1 (fc s7 (fc s17 (fc s18 (fc s19 fnil)))))) ?_
  refine wp_seq ?_
  -- region 3
  refine reg_lit ?_
  refine L1 (bi rfl rfl (bn_lss (v := decide (i < zs.length)) (decide_eq_decide.2 (by omega)))) ?_
  refine wpList_nil ?_
  refine then_n ?_
  refine wp_seq ?_
  refine cond_d (p := i < zs.length) rfl (fun hlt => ?_) (fun hlt => ?_)
  · skip
    obtain ⟨ad, rfl, hcell⟩ := hZ i hlt
    have hb := hz16 (zs.getD i 0) (by rw [List.getD_eq_getElem?_getD, List.getElem?_eq_getElem hlt]; exact List.getElem_mem hlt)
    have hwsz := kp.size
    refine wp_skip ?_
    refine then_n ?_
    refine wp_seq ?_
    refine wp_block ?_
    refine wp_seq ?_
    -- region 4
    refine reg_lit ?_
    refine L1 (ixg und23 sz25 rfl rfl rfl hlt) ?_
    refine L1 (ld25 (v := .int .i16 (zs.getD i 0)) rfl (kp.cell hcell (by simp))) ?_
    refine L1 (asg (v := .int _ _) rfl) ?_
    refine wpList_nil ?_
    refine then_n ?_
    -- region 5
    refine reg_lit ?_
    refine L1 (mv (v := sv) rfl) ?_
    refine L1 (mv (v := .int _ _) rfl) ?_
    refine L1 (cv25_3 rfl (wrap_s64 _ (by omega) (by omega))) ?_
    refine Lapv1 (v := sv) rfl rfl (by intro t h; cases h; decide) hS (by rw [ints_len, List.length_take]; omega) (by decide) ?_
    intro sv2 u2 w2 hS2 kp2 hown2
    rw [← ints_take zs hlt] at hS2
    have kp := kp.transNew kp2 (obk_ge hsS)
    have hsS2 : ∀ k, sv2.ownBlock = some k → w.heap.size ≤ k := fun k hk => by
      rcases hown2 k hk with h | h
      · exact hsS k h
      · exact Nat.le_trans hwsz h
    refine L1 (asg (v := sv2) rfl) ?_
    refine wpList_nil ?_
    refine inb_n ?_
    refine then_n ?_
    -- region 6
    refine reg_lit ?_
    refine L1 (bi rfl rfl (bn_add (c := ((i + 1 : Nat) : Int)) (by omega) (by omega) (by omega))) ?_
    refine L1 (mv (v := .int _ _) rfl) ?_
    refine wpList_nil ?_
    refine then_n ?_
    exact ⟨zs.length - (i + 1), _, by omega, rfl, rfl, rfl, rfl, rfl, i + 1, sv2, rfl, rfl, by omega, rfl, hS2, hsS2, kp⟩
  · skip
    obtain rfl : i = zs.length := by omega
    rw [List.take_length] at hS
    obtain ⟨sa, sc, rfl, hat⟩ := hS.at
    rw [ints_len] at hat ⊢
    refine wp_exit ?_
    refine then_e ?_
    refine then_e ?_
    refine inb_same ?_
    refine then_n ?_
    refine wp_seq ?_
    -- region 7
    refine reg_lit ?_
    refine L1 (mv (v := dv) rfl) ?_
    refine L1 (mv (v := xv) rfl) ?_
    refine LC (cl3 has9 rfl rfl rfl rfl) (inflate_c E0 _ (hG.kp kp (by simp)) dv xv data dict (hA.kp kp) hD (hX.kp kp) hXb none 0 [] (by simp) (by simp) (hc_of _ _)) ?_
    rintro v w3 ⟨r1, c1, left1, ov1, rfl, hSl1, hI1, kp3, hown3⟩
    have hkp1 := kp3
    have kp := kp.trans kp3
    refine L1 (mv (v := .tuple _) rfl) ?_
    refine L1 (ext3_0 rfl) ?_
    refine L1 (ext3_1 rfl) ?_
    refine L1 (ext3_2 rfl) ?_
    refine L1 (asg (v := ov1) rfl) ?_
    refine L1 (asg (v := .int _ _) rfl) ?_
    refine L1 (asg (v := .int _ _) rfl) ?_
    refine wpList_nil ?_
    refine then_n ?_
    refine wp_seq ?_
    -- region 8
    refine reg_lit ?_
    refine L1 (mv (v := dv) rfl) ?_
    refine L1 (mv (v := xv) rfl) ?_
    refine L1 (mv (v := (.slice sa zs.length sc)) rfl) ?_
    refine LC (cl3 has9 rfl rfl rfl rfl) (inflate_c E0 _ (hG.kp kp (by simp)) dv xv data dict (hA.kp kp) hD (hX.kp kp) hXb sa sc zs (fun z hz => by have := hz16 z hz; omega) (fun j hj => ?_) (hc_of _ _)) ?_
    · obtain ⟨b, h1, h2⟩ := hat j hj
      exact ⟨_, h1, rfl, by simp only [Nat.zero_add]; rw [hkp1.cell h2 (by simp), ints_get zs hj]⟩
    rintro v w4 ⟨r2, c2, left2, ov2, rfl, hSl2, hI2, kp4, hown4⟩
    have hSl1 := hSl1.kp kp4 (by simp)
    have kp := kp.trans kp4
    refine L1 (mv (v := .tuple _) rfl) ?_
    refine L1 (ext3_0 rfl) ?_
    refine L1 (ext3_1 rfl) ?_
    refine L1 (ext3_2 rfl) ?_
    refine L1 (asg (v := ov2) rfl) ?_
    refine L1 (asg (v := .int _ _) rfl) ?_
    refine L1 (asg (v := .int _ _) rfl) ?_
    refine wpList_nil ?_
    by_cases hs1 : c1 = 3
    · skip
      have hs : c1 = 3 ∨ c2 = 3 := .inl hs1
      have hlen : 8 < data.length := by
        rcases Nat.lt_or_ge 8 data.length with h | h
        · exact h
        · exact absurd hs (by simp only [not_or]; exact ⟨hI1.no3 h, hI2.no3 h⟩)
      obtain ⟨da, dc, rfl, _⟩ := hA
      refine then_n ?_
      refine wp_seq ?_
      refine wp_seq ?_
      -- region 9
      refine reg_lit ?_
      refine L1 (mv (v := .int _ _) rfl) ?_
      refine L1 (bi rfl rfl (bn_eql (v := true) (decide_eq_true (by omega)))) ?_
      refine L1 (mv (v := .bool _) rfl) ?_
      refine Lskip (t := 46) (b := false) rfl (by decide) rfl ?_
      refine Lskip (t := 46) (b := false) rfl (by decide) rfl ?_
      refine L1 (pk_t rfl rfl) ?_
      refine wpList_nil ?_
      refine then_n ?_
      refine cond_t rfl ?_
      refine wp_seq ?_
      -- region 10
      refine reg_lit ?_
      refine L1 (mv (v := .slice _ _ _) rfl) ?_
      refine L1 (ln und22 rfl) ?_
      refine L1 (bi rfl rfl (bn_gtr (v := true) (decide_eq_true (by omega)))) ?_
      refine L1 (asg (v := .bool _) rfl) ?_
      refine wpList_nil ?_
      refine then_n ?_
      refine wp_ret ?_
      refine then_r ?_
      refine ret1 rfl rfl ?_
      exact ⟨_, rfl, rfl, kp⟩
    · skip
      by_cases hs2 : c2 = 3
      · skip
        have hs : c1 = 3 ∨ c2 = 3 := .inr hs2
        have hlen : 8 < data.length := by
          rcases Nat.lt_or_ge 8 data.length with h | h
          · exact h
          · exact absurd hs (by simp only [not_or]; exact ⟨hI1.no3 h, hI2.no3 h⟩)
        obtain ⟨da, dc, rfl, _⟩ := hA
        refine then_n ?_
        refine wp_seq ?_
        refine wp_seq ?_
        -- region 9
        refine reg_lit ?_
        refine L1 (mv (v := .int _ _) rfl) ?_
        refine L1 (bi rfl rfl (bn_eql (v := false) (decide_eq_false (by omega)))) ?_
        refine L1 (mv (v := .bool _) rfl) ?_
        refine L1g (t := 46) (b := false) rfl (by decide) rfl (mv (v := .int _ _) rfl) ?_
        refine L1g (t := 46) (b := false) rfl (by decide) rfl (bi rfl rfl (bn_eql (v := true) (decide_eq_true (by omega)))) ?_
        refine L1 (pk_f rfl rfl) ?_
        refine wpList_nil ?_
        refine then_n ?_
        refine cond_t rfl ?_
        refine wp_seq ?_
        -- region 10
        refine reg_lit ?_
        refine L1 (mv (v := .slice _ _ _) rfl) ?_
        refine L1 (ln und22 rfl) ?_
        refine L1 (bi rfl rfl (bn_gtr (v := true) (decide_eq_true (by omega)))) ?_
        refine L1 (asg (v := .bool _) rfl) ?_
        refine wpList_nil ?_
        refine then_n ?_
        refine wp_ret ?_
        refine then_r ?_
        refine ret1 rfl rfl ?_
        exact ⟨_, rfl, rfl, kp⟩
      · skip
        obtain ⟨rfl, rfl, rfl⟩ := hI1.det hI2 hs1 hs2
        refine then_n ?_
        refine wp_seq ?_
        refine wp_seq ?_
        -- region 9
        refine reg_lit ?_
        refine L1 (mv (v := .int _ _) rfl) ?_
        refine L1 (bi rfl rfl (bn_eql (v := false) (decide_eq_false (by omega)))) ?_
        refine L1 (mv (v := .bool _) rfl) ?_
        refine L1g (t := 46) (b := false) rfl (by decide) rfl (mv (v := .int _ _) rfl) ?_
        refine L1g (t := 46) (b := false) rfl (by decide) rfl (bi rfl rfl (bn_eql (v := false) (decide_eq_false (by omega)))) ?_
        refine L1 (pk_f rfl rfl) ?_
        refine wpList_nil ?_
        refine then_n ?_
        refine cond_f rfl ?_
        refine wp_skip ?_
        refine then_n ?_
        refine wp_seq ?_
        -- region 11
        refine reg_lit ?_
        refine L1 (mv (v := .int _ _) rfl) ?_
        refine L1 (mv (v := .int _ _) rfl) ?_
        refine L1 (bi rfl rfl (bn_eql (v := true) (decide_eq_true rfl))) ?_
        refine L1 (mv (v := .bool _) rfl) ?_
        refine L1g (t := 56) (b := true) rfl (by decide) rfl (mv (v := .int _ _) rfl) ?_
        refine L1g (t := 56) (b := true) rfl (by decide) rfl (mv (v := .int _ _) rfl) ?_
        refine L1g (t := 56) (b := true) rfl (by decide) rfl (bi rfl rfl (bn_eql (v := true) (decide_eq_true rfl))) ?_
        refine L1 (pk_t rfl rfl) ?_
        refine L1 (mv (v := .bool _) rfl) ?_
        refine L1g (t := 61) (b := true) rfl (by decide) rfl (mv (v := ov1) rfl) ?_
        refine L1g (t := 61) (b := true) rfl (by decide) rfl (cvs rfl hSl1.ag) ?_
        refine L1g (t := 61) (b := true) rfl (by decide) rfl (mv (v := ov2) rfl) ?_
        refine L1g (t := 61) (b := true) rfl (by decide) rfl (cvs rfl hSl2.ag) ?_
        refine L1g (t := 61) (b := true) rfl (by decide) rfl (bis (v := true) rfl rfl rfl) ?_
        refine L1 (pk_t rfl rfl) ?_
        refine L1 (mv (v := .bool _) rfl) ?_
        refine LCg (t := 68) (b := true) rfl (by decide) rfl (cl0 has10 rfl) (probe_w E0 _ (hG.kp kp (by simp))) ?_
        rintro v w5 ⟨rfl, kp5⟩
        have kp := kp.trans kp5
        refine L1 (pk_t rfl rfl) ?_
        refine L1 (asg (v := .bool _) rfl) ?_
        refine wpList_nil ?_
        refine then_n ?_
        refine wp_ret ?_
        refine ret1 rfl rfl ?_
        exact ⟨_, rfl, rfl, kp⟩
end Go.Proofs.YtejeloeaklpinaaDoor

/- What a reader that is set anew wants: statements in an open order told in another order of their operations; the new cells; methods. -/
namespace Go.Proofs.YtejeloeaklpinaaDoor
section
variable {P : Program} {ops : Array Oper} {md : Region.Mode} {C : World → Prop}
/-- The operations at these places, in this order. -/
def pk (ops : Array Oper) : List Nat → List Oper
  | [] => []
  | k :: ks => match ops[k]? with
    | some o => o :: pk ops ks
    | none => pk ops ks
def mixFP (md : Region.Mode) (ops : Array Oper) : List Bool → List Nat → Array Bool → Bool
  | _, [], listed => (Region.ready md ops listed).isEmpty
  | true :: fs, k :: ks, listed => (ops[k]?).isSome && decide (Region.ready md ops listed = [k]) && mixFP md ops fs ks (listed.setIfInBounds k true)
  | false :: fs, k :: ks, listed => (ops[k]?).isSome && ((Region.ready md ops listed).contains k && Region.free md ops listed k) && mixFP md ops fs ks (listed.setIfInBounds k true)
  | [], _ :: _, _ => false
theorem aE_mixP {Q : Act → World → Prop} (hsel : Region.noSelect ops = true) :
    ∀ (ks : List Nat) (fs : List Bool) (listed : Array Bool) (a : Act) (w : World), C w → mixFP md ops fs ks listed = true → wpMix P ops C Q (pk ops ks) fs a w → aE P md ops C Q ks.length listed a w
  | [], _, listed, a, w, hC, hB, h => by
    refine ⟨?_, ?_⟩
    · simpa [mixFP] using hB
    · simpa [wpMix, pk] using h
  | k :: ks, true :: fs, listed, a, w, hC, hB, h => by
    simp only [mixFP, Bool.and_eq_true, decide_eq_true_eq] at hB
    obtain ⟨⟨hs, hr⟩, hB'⟩ := hB
    obtain ⟨o, h0⟩ := Option.isSome_iff_exists.1 hs
    refine ⟨fun h1 => (by rw [hr] at h1; cases h1), fun i hi => ?_⟩
    rw [hr] at hi
    have hik : i = k := by simpa using hi
    subst hik
    simp only [eOp, h0]
    simp only [pk, h0] at h
    unfold wpMix at h
    unfold eOper at h ⊢
    split
    · rename_i hw; rw [if_pos hw] at h
      exact uponE_mono (fun a' w' hh => ⟨hh.1, aE_mixP hsel ks fs _ a' w' hh.1 hB' hh.2⟩) h
    · rename_i hw; rw [if_neg hw] at h
      exact aE_mixP hsel ks fs _ _ _ hC hB' h
  | k :: ks, false :: fs, listed, a, w, hC, hB, h => by
    simp only [mixFP, Bool.and_eq_true] at hB
    obtain ⟨⟨hs, hr, hf⟩, hB'⟩ := hB
    obtain ⟨o, h0⟩ := Option.isSome_iff_exists.1 hs
    simp only [pk, h0] at h
    unfold wpMix at h
    obtain ⟨v, hy, hK⟩ := h
    exact aE_first h0 (Region.noSelect_spec hsel) _ listed a w hC (Region.free_spec h0 hf) (by simpa using hr) hy
      (aE_mixP hsel ks fs _ _ w hC hB' hK)
  | _ :: _, [], _, _, _, _, hB, _ => by simp [mixFP] at hB
def mixBP (ops : Array Oper) (fs : List Bool) (ks : List Nat) : Bool := Region.noSelect ops && decide (ks.length = ops.size) && mixFP .any ops fs ks (Array.replicate ops.size false)
/-- A statement whose order is open, with effects, told in another order. -/
theorem reg_mixP {Q : Exit → Act → World → Prop} {N : Nat} {f : Nat → Value} {w : World} {id : Nat} {l : List Oper} (ks : List Nat) (fs : List Bool) (C : World → Prop) (hm : P.follows .mixedOrders = true) (hB : mixBP l.toArray fs ks = true)
    (hC : C w.drew) (h : wpMix P l.toArray C (Q .normal) (pk l.toArray ks) fs (fr N f) w.drew) : (Code.region id l.toArray true).wp P Q (fr N f) w := by
  simp only [mixBP, Bool.and_eq_true, decide_eq_true_eq] at hB
  obtain ⟨⟨hs, hn⟩, hl⟩ := hB
  refine wp_region_any hm (wpAny_of_aE (C := C) (Q := Q .normal) (fun _ _ h => h) _ _ _ _ ?_)
  have := aE_mixP (md := .any) hs ks fs (Array.replicate l.toArray.size false) (fr N f) w.drew hC (by simpa using hl) h
  rw [hn] at this
  exact this
end
/-- The cells of a reader that is set anew, ahead of its source and its window. -/
def rs95 (bt cb H : Nat) (wr rd : Int) (full : Bool) (k : Nat) : Value :=
  if k = 1035 then .pointer (some ⟨bt, 0, none⟩) else if k = 1036 then .pointer (some ⟨cb, 0, none⟩) else if k = 1037 then .slice (some ⟨H, 0, none⟩) 32768 32768
  else if k = 1038 then .int .i64 wr else if k = 1039 then .int .i64 rd else if k = 1040 then .bool full else if k = 1045 then fnv 35 else g95 k
theorem one_ite {c : Prop} [Decidable c] {a b : Value} (h1 : a.oneCell' = true) (h2 : b.oneCell' = true) : (if c then a else b).oneCell' = true := by
  by_cases h : c
  · rw [if_pos h]; exact h1
  · rw [if_neg h]; exact h2
theorem g95_one (k : Nat) : (g95 k).oneCell' = true := by
  unfold g95
  exact one_ite rfl (one_ite rfl (one_ite rfl (one_ite rfl (one_ite rfl (one_ite rfl (one_ite rfl (one_ite rfl rfl)))))))
theorem rs95_one (bt cb H : Nat) (wr rd : Int) (full : Bool) (k : Nat) : (rs95 bt cb H wr rd full k).oneCell' = true := by
  unfold rs95
  exact one_ite rfl (one_ite rfl (one_ite rfl (one_ite rfl (one_ite rfl (one_ite rfl (one_ite rfl (g95_one k)))))))
theorem sz95 (w : World) : (sizeOf 95).run Tryd.prog w = .ok 1054 w := by kernel_rfl
theorem ag90 (w : World) : (isAgg 90).run Tryd.prog w = .ok true w := by kernel_rfl
section
variable {ρ : Operand → Value} {d : Option Nat} {x y z u v : Operand} {ty : TypeId} {pos : String} {af : Array Edge} {gd : Option (Nat × Bool)} {w : World}
theorem ld90 {b k : Nat} {v0 v1 v2 v3 : Value} (hx : ρ x = .pointer (some ⟨b, k, none⟩)) (h0 : w.cell? ⟨b, k, none⟩ = some v0) (h1 : w.cell? ⟨b, k + 1, none⟩ = some v1) (h2 : w.cell? ⟨b, k + 2, none⟩ = some v2) (h3 : w.cell? ⟨b, k + 3, none⟩ = some v3) :
    (execOp ρ ⟨d, .load 90 x, ty, pos, af, gd⟩).run Tryd.prog w = .ok (.value (.agg #[v0, v1, v2, v3])) w := by
  have hl := run_loadCells_list (P := Tryd.prog) (w := w) ⟨b, k, none⟩ [v0, v1, v2, v3] (fun j v hv => by
    rw [Addr.add_lit]
    match j, hv with
    | 0, hv => simp at hv; subst hv; exact h0
    | 1, hv => simp at hv; subst hv; exact h1
    | 2, hv => simp at hv; subst hv; exact h2
    | 3, hv => simp at hv; subst hv; exact h3
    | j + 4, hv => simp at hv)
  simp only [List.length_cons, List.length_nil] at hl
  simp [execOp, hx, Instr.loadAt, Instr.sureAddr, loadVar, ag90, sz90, hl]
theorem bd95 {bt cb H : Nat} {wr rd : Int} {full : Bool} (hx : ρ x = .pointer none) (hy : ρ y = .pointer (some ⟨bt, 0, none⟩)) (hz : ρ z = .pointer (some ⟨cb, 0, none⟩)) (hu : ρ u = .agg #[.slice (some ⟨H, 0, none⟩) 32768 32768, .int .i64 wr, .int .i64 rd, .bool full]) (hv : ρ v = fnv 35) :
    (execOp ρ ⟨d, .build 95 #[(1, x), (7, y), (8, z), (9, u), (11, v)], ty, pos, af, gd⟩).run Tryd.prog w = .ok (.value (.agg ((List.range 1054).map (rs95 bt cb H wr rd full)).toArray)) w := by
  simp only [execOp, List.map_toArray, List.map_cons, List.map_nil, hx, hy, hz, hu, hv]
  kernel_rfl
theorem ta66 {a : Addr} (hx : ρ x = .iface 99 (.pointer (some a))) : (execOp ρ ⟨d, .typeAssert x 48 66 false, ty, pos, af, gd⟩).run Tryd.prog w = .ok (.value (.iface 99 (.pointer (some a)))) w := by
  show (Instr.typeAssert (ρ x) 48 66 false >>= fun v => pure (Next.value v)).run Tryd.prog w = _
  rw [hx]
  kernel_rfl
theorem nilM99s {a : Addr} (hx : ρ x = .func (.method "Reset") #[.iface 99 (.pointer (some a))] #[]) : (execOp ρ ⟨d, .nilCheck x, ty, pos, af, gd⟩).run Tryd.prog w = .ok (.value (.func (.method "Reset") #[.iface 99 (.pointer (some a))] #[])) w := by
  simp only [execOp, hx]
  kernel_rfl
end
theorem inv2 {N : Nat} {f : Nat → Value} {g : FuncId} {fn : Func} (H : Has g fn) {r o1 o2 : Operand} {m : String} {ts : Array TypeId} {t : TypeId} {v v' v1 v2 : Value} {d : Option Nat} {ty : TypeId} {pos : String} {af : Array Edge} {gd : Option (Nat × Bool)} {w : World} (hr : ev N f r = .iface t v)
    (hm : ∀ w, (method (158 + Made.depth) t v m).run Tryd.prog w = .ok (g, v') w) (h1 : ev N f o1 = v1) (h2 : ev N f o2 = v2) :
    (execOp (ev N f) ⟨d, .call ⟨.invoke r m, #[o1, o2], ts⟩, ty, pos, af, gd⟩).run Tryd.prog w = .ok (.enter g #[v', v1, v2]) w := by
  have h3 : ¬ fn.name = "runtime.NumGoroutine" := by simpa using H.name
  have h4 : ¬ fn.body = none := by intro he; have := H.body; rw [he] at this; cases this
  simp [execOp, resolve, hr, h1, h2, invoke, callMethod, hm, callFunc, H.func, h4, h3]
theorem meth_rs99 (a : Addr) (w : World) : (method (158 + Made.depth) 99 (.pointer (some a)) "Reset").run Tryd.prog w = .ok (91, .pointer (some a)) w := by kernel_rfl
theorem InitP.congr {F H : Nat} {w : World} {g g2 : Nat → Value} {xs : List Nat} (h : InitP F H w g xs) (hg : ∀ k, k ∉ [1037, 1038, 1039, 1040] → g k = g2 k) : InitP F H w g2 xs := by
  obtain ⟨g', hs, h1, h2, h3, h4⟩ := h
  exact ⟨g', hs, h1, h2, fun k hk => (h3 k hk).trans (hg k hk), h4⟩
theorem rs_gI {bt cb H R : Nat} {wr rd : Int} {full : Bool} (k : Nat) (hk : k ∉ [1037, 1038, 1039, 1040]) : upd (upd (rs95 bt cb H wr rd full) 1 (.pointer none)) 0 (.iface 43 (.pointer (some ⟨R, 0, none⟩))) k = gI R bt cb k := by
  simp only [List.mem_cons, List.not_mem_nil, or_false, not_or] at hk
  unfold gI upd rs95
  by_cases h0 : k = 0
  · subst h0; rfl
  · by_cases h1 : k = 1
    · subst h1; rfl
    · by_cases h2 : k = 1045
      · subst h2; rfl
      · by_cases h3 : k = 1036
        · subst h3; rfl
        · by_cases h4 : k = 1035
          · subst h4; rfl
          · simp only [h0, h1, h2, h3, h4, hk.1, hk.2.1, hk.2.2.1, hk.2.2.2, if_false]
attribute [local irreducible] wpList wpStill wpMix Code.wp Calls fr
section
variable {ops : Array Oper} {N : Nat} {L : List (Nat × Value)} {B f : Nat → Value} {w : World} {rest : List Oper} {C : World → Prop} {fs : List Bool} {Q : Act → World → Prop} {dd : Nat} {x y : Operand} {ty : TypeId} {pos : String} {af : Array Edge} {b k n : Nat} {T : TypeId} {g : Nat → Value} {v : Value} {i : Int}
theorem Est95 {bt cb H : Nat} {wr rd : Int} {full : Bool} (hx : ev N f x = .pointer (some ⟨b, 0, none⟩)) (hy : ev N f y = .agg ((List.range 1054).map (rs95 bt cb H wr rd full)).toArray) (hB : Bk w b 1054 T g)
    (K : ∀ w1, Bk w1 b 1054 T (rs95 bt cb H wr rd full) → Kp [b] w w1 → C w1 ∧ wpMix Tryd.prog ops C Q rest fs (fr N f) w1) : wpMix Tryd.prog ops C Q (⟨none, .store 95 x y, ty, pos, af, none⟩ :: rest) (true :: fs) (fr N f) w := by
  have hlen : ((List.range 1054).map (rs95 bt cb H wr rd full)).length = 1054 := by simp
  have hone : ∀ v ∈ (List.range 1054).map (rs95 bt cb H wr rd full), v.oneCell' = true := fun v hv => by obtain ⟨k, _, rfl⟩ := List.mem_map.1 hv; exact rs95_one _ _ _ _ _ _ _
  have hst := run_storeCells_cells (P := Tryd.prog) b 0 ((List.range 1054).map (rs95 bt cb H wr rd full)) 0 w (fun j hj => by
      rw [hlen] at hj
      rw [Nat.add_zero, hB.cell (k := 0 + j) (by omega)]; rfl) (fun j _ => hB.frozen _) hone
  have hb : Bk (w.setCells b 0 ((List.range 1054).map (rs95 bt cb H wr rd full))) b 1054 T (rs95 bt cb H wr rd full) := (hB.setCells ((List.range 1054).map (rs95 bt cb H wr rd full)) 0).congr fun j hj => by
    rw [hlen, if_pos (by omega), List.getD_eq_getElem?_getD, List.getElem?_map, List.getElem?_range (by omega)]
    rfl
  obtain ⟨h4, h5⟩ := K _ hb (Kp.setCells (by simp) _ _ (Kp.refl [b] w))
  refine E0 ?_ h4 h5
  generalize hzs : (List.range 1054).map (rs95 bt cb H wr rd full) = zs at *
  have hl2 : zs.toArray.size = 1054 := by simp [hlen]
  simp only [execOp, hx, hy]
  simp [Instr.storeAt, Instr.sureAddr, storeVar, sz95, hlen, Value.cells, hst]
theorem Emk22 (hx : ev N (fl L B) x = .int .i64 i) (hi : i = (n : Int)) (hn : n ≤ 1000000)
    (K : ∀ X w1, w.heap.size = X → Bk w1 X n 5 (fun _ => .int .u8 0) → Kp [] w w1 → w1.heap.size = X + 1 → C w1 ∧ wpMix Tryd.prog ops C Q rest fs (fr N (fl ((dd, .slice (some ⟨X, 0, none⟩) n n) :: L) B)) w1) :
    wpMix Tryd.prog ops C Q (⟨some dd, .makeSlice 22 x x, ty, pos, af, none⟩ :: rest) (true :: fs) (fr N (fl L B)) w := by
  subst hi
  have hr := run_make_row' (P := Tryd.prog) 22 5 (.int .u8 0) 1 und22 (by kernel_rfl) rfl .i64 .i64 n (by omega) (by omega) w
  obtain ⟨h4, h5⟩ := K _ (w.alloc (.cells (madeCells #[.int .u8 0] n) 5)) rfl (by obtain ⟨C, h1, h2, h3⟩ := World.rowIs_made w (.int .u8 0) n 5; exact ⟨C, h1, h2, h3⟩) ((Kp.refl [] w).alloc _) (by simp)
  exact E1 (by simp [execOp, hx, hr]) h4 h5
end
end Go.Proofs.YtejeloeaklpinaaDoor

/- A reader that is set anew; FnReset: their walks (printed by gen/g_rst.py). -/
namespace Go.Proofs.YtejeloeaklpinaaDoor
open Go.ChangeShapes Go.WideShapes Go.ChangeAt Go.RowKit
theorem mkE_ok2 {E0 : Env} {w w2 : World} (hG : Gl E0 w) {F R S H bt cb : Nat} {data : List Nat} (hD : Bytes data) (hS : S < w2.heap.size) (hSB : E0.B ≤ S ∨ S = 0) (hS2 : S = 0 ∨ (S ≠ F ∧ S ≠ H ∧ S ≠ bt ∧ S ≠ cb ∧ S ≠ R)) (h0 : E0.B ≤ F) (h1 : F < bt) (h2 : bt < cb) (h3 : cb < H) (h4 : H < R) :
    (mkE E0.B E0.aE E0.aU F R S H bt cb data).Ok := by
  have hB := hG.B6
  refine ⟨?_, ?_, ?_, ?_, ?_, ?_, ?_, ?_, ?_, ?_, ?_, ?_, ?_, ?_, ?_, ?_, ?_, ?_, ?_, ?_, fun k => getD_lt hD.1 k, hD.2⟩ <;> simp only [mkE] <;> omega
attribute [local irreducible] wpList wpStill wpMix Code.wp Calls fr

theorem reset_c (E : Env) (w : World) (a : A) (hE : E.Ok) (hR : Rep E w a) (R2 : Nat) (dv : Value) (xs : List Nat) (hS : Sl w dv xs) (hx : ∀ x ∈ xs, x < 256) (h47 : xs.length ≤ 140737488355328) (hDF : ∀ k, dv.ownBlock = some k → k ≠ E.F ∧ k ≠ E.H) :
    Ret 91 [fp E, .iface 43 (.pointer (some ⟨R2, 0, none⟩)), dv] w fun v w' => v = .nilIface ∧ InitP E.F E.H w' (gI R2 E.bt E.cb) xs ∧ Kp [E.F, E.H] w w' := by
  obtain ⟨g, hs, bs, cs, hC, _, _⟩ := hR
  obtain ⟨q, rd0, e1, e2, e3, e4, hDD⟩ := hC.D
  have hF := hC.W.F
  have hH := hC.W.H
  have hSc := hC.S
  have hV := hC.V
  have kp := Kp.refl [E.F, E.H] w
  clear hC
  generalize (a.out.length % 32768) = wr at *
  refine calls_fr (N := 34) Tryd.func91 rfl rfl (by simp [fp]) rfl ?_
  refine wp_seq ?_
  -- region 0
  refine reg_lit ?_
  refine L1 (asg (v := .nilIface) rfl) ?_
  refine wpList_nil ?_
  refine then_n ?_
  refine wp_seq ?_
  have hC0 : (fun w => w.cell? ⟨E.F, 1, none⟩ = some (.pointer none) ∧ w.cell? ⟨E.F, 1035, none⟩ = some (.pointer (some ⟨E.bt, 0, none⟩)) ∧ w.cell? ⟨E.F, 1036, none⟩ = some (.pointer (some ⟨E.cb, 0, none⟩)) ∧ w.cell? ⟨E.F, 1037, none⟩ = some (.slice (some ⟨E.H, 0, none⟩) 32768 32768) ∧ w.cell? ⟨E.F, 1037 + 1, none⟩ = some (.int .i64 ((wr : Nat) : Int)) ∧ w.cell? ⟨E.F, 1037 + 2, none⟩ = some (.int .i64 ((rd0 : Nat) : Int)) ∧ w.cell? ⟨E.F, 1037 + 3, none⟩ = some (.bool (decide (0 < q)))) w.drew := ⟨hF.drew.cellv (by decide) hSc.rb, hF.drew.cellv (by decide) hSc.bt, hF.drew.cellv (by decide) hSc.cb, hF.drew.cellv (by decide) hSc.hi, hF.drew.cellv (by decide) hDD.wr, hF.drew.cellv (by decide) hDD.rd, hF.drew.cellv (by decide) hDD.full⟩
  -- region 1 (its order is open)
  refine reg_mix [false, false, false, false, false, false, false, false, false, false, false, false, false, false, false, false, false, false, false, true] (fun w => w.cell? ⟨E.F, 1, none⟩ = some (.pointer none) ∧ w.cell? ⟨E.F, 1035, none⟩ = some (.pointer (some ⟨E.bt, 0, none⟩)) ∧ w.cell? ⟨E.F, 1036, none⟩ = some (.pointer (some ⟨E.cb, 0, none⟩)) ∧ w.cell? ⟨E.F, 1037, none⟩ = some (.slice (some ⟨E.H, 0, none⟩) 32768 32768) ∧ w.cell? ⟨E.F, 1037 + 1, none⟩ = some (.int .i64 ((wr : Nat) : Int)) ∧ w.cell? ⟨E.F, 1037 + 2, none⟩ = some (.int .i64 ((rd0 : Nat) : Int)) ∧ w.cell? ⟨E.F, 1037 + 3, none⟩ = some (.bool (decide (0 < q)))) mixed (by kernel_rfl) ?_ ?_
  · exact hC0
  have hF := hF.drew
  have hH := hH.drew
  have kp := kp.drew
  refine T1 (fun w hC => mv (v := .pointer _) rfl) ?_
  refine T1 (fun w hC => mv (v := .pointer _) rfl) ?_
  refine T1 (fun w hC => nilP rfl) ?_
  refine T1 (fun w hC => fa95_1 rfl) ?_
  refine T1 (fun w hC => ld81 rfl hC.1) ?_
  refine T1 (fun w hC => mv (v := .pointer _) rfl) ?_
  refine T1 (fun w hC => nilP rfl) ?_
  refine T1 (fun w hC => fa95_7 rfl) ?_
  refine T1 (fun w hC => ld87 rfl hC.2.1) ?_
  refine T1 (fun w hC => mv (v := .pointer _) rfl) ?_
  refine T1 (fun w hC => nilP rfl) ?_
  refine T1 (fun w hC => fa95_8 rfl) ?_
  refine T1 (fun w hC => ld88 rfl hC.2.2.1) ?_
  refine T1 (fun w hC => mv (v := .pointer _) rfl) ?_
  refine T1 (fun w hC => nilP rfl) ?_
  refine T1 (fun w hC => fa95_9 rfl) ?_
  refine T1 (fun w hC => ld90 rfl hC.2.2.2.1 hC.2.2.2.2.1 hC.2.2.2.2.2.1 hC.2.2.2.2.2.2) ?_
  refine T1 (fun w hC => bd95 rfl rfl rfl rfl rfl) ?_
  refine T1 (fun w hC => nilP rfl) ?_
  refine Est95 rfl rfl hF ?_
  intro w1 hF kp1
  refine ⟨⟨hF.cellv (by decide) rfl, hF.cellv (by decide) rfl, hF.cellv (by decide) rfl, hF.cellv (by decide) rfl, hF.cellv (by decide) rfl, hF.cellv (by decide) rfl, hF.cellv (by decide) rfl⟩, ?_⟩
  have hH := hH.kp kp1 (by simp; exact fun e => hE.FH e.symm)
  have kp := kp.trans (kp1.mono (by simp))
  refine mix_nil ?_
  refine then_n ?_
  refine wp_seq ?_
  -- region 2
  refine reg_lit ?_
  refine L1 (mv (v := .pointer _) rfl) ?_
  refine L1 (mv (v := .iface _ _) rfl) ?_
  refine LC (cl2 has34 rfl rfl rfl) (makeReader_c _ E.F R2 _ hF) ?_
  rintro v w2 ⟨rfl, hF, kp2⟩
  have hH := hH.kp kp2 (by simp; exact fun e => hE.FH e.symm)
  have kp := kp.trans (kp2.mono (by simp))
  refine wpList_nil ?_
  refine then_n ?_
  refine wp_seq ?_
  -- region 3
  refine reg_lit ?_
  refine L1 (mv (v := .pointer _) rfl) ?_
  refine L1 (nilP rfl) ?_
  refine L1 (fa95_9 rfl) ?_
  refine L1 (mv (v := dv) rfl) ?_
  refine LC (cl3 has36 rfl rfl rfl rfl) (init_r _ E.F _ hF E.H hs hE.FH hH hV.byte rfl dv xs (hS.kp kp (by intro b hb; have := hDF b hb; simp; exact this)) hx h47 hDF) ?_
  rintro v w3 ⟨rfl, hI, kp3⟩
  have kp := kp.trans kp3
  refine wpList_nil ?_
  refine then_n ?_
  refine wp_seq ?_
  -- region 4
  refine reg_lit ?_
  refine L1 (asg (v := .nilIface) rfl) ?_
  refine wpList_nil ?_
  refine then_n ?_
  refine wp_ret ?_
  refine ret1 rfl rfl ?_
  exact ⟨_, rfl, rfl, hI.congr rs_gI, kp⟩
theorem again_c (E0 : Env) (w : World) (hG : Gl E0 w) (fv dv xv : Value) (first data dict : List Nat) (hA1 : Ag w fv first) (hD1 : Bytes first) (hA2 : Ag w dv data) (hD2 : Bytes data) (hA3 : Ag w xv dict) (hD3 : Bytes dict) :
    Ret 13 [fv, dv, xv] w fun v w' => ∃ r c ov, v = .tuple #[ov, .int .i64 ((c : Nat) : Int)] ∧ Sl w' ov r ∧ (∃ left, InfR data dict [] r c left) ∧ Kp [] w w' := by
  have kp0 := Kp.refl [] w
  refine calls_fr (N := 53) Tryd.func13 rfl rfl (by simp) rfl ?_
  refine wp_seq ?_
  -- region 0
  refine reg_lit ?_
  refine L1 (asg (v := .slice _ _ _) rfl) ?_
  refine L1 (asg (v := .int _ _) rfl) ?_
  refine wpList_nil ?_
  refine then_n ?_
  refine wp_seq ?_
  -- region 1
  refine reg_lit ?_
  refine L1 (mv (v := fv) rfl) ?_
  refine LC (cl1 has15 rfl rfl) (copied_c _ _ first hA1 hD1.2) ?_
  rintro v1 w1 ⟨hSl, kp1, hown1⟩
  obtain ⟨va, vc, rfl⟩ := hSl.val
  have hB1 := hG.le
  refine LC (cl1 has14 rfl rfl) (newReader_c _ va first.length vc) ?_
  rintro v w2 ⟨rfl, hRb, kp2, hsz2⟩
  have hSl2 := hSl.kp kp2 (by simp)
  have hs1 := kp1.size
  obtain ⟨R, hRe⟩ : ∃ R, R = w1.heap.size := ⟨_, rfl⟩
  rw [← hRe] at hRb hsz2 ⊢
  refine L1 (mkI43 rfl) ?_
  refine LC (cl1 has24 rfl rfl) (nr_raw _ R) ?_
  rintro v w3 ⟨F, H, bt, cb, rfl, hF, hFb, hbc, hcH, hI, hbt, hcb, kp3⟩
  have hG2 := (hG.kp kp1 (by simp)).kp kp2 (by simp)
  have hSl3 := hSl2.kp kp3 (by simp)
  have hG3 := hG2.kp kp3 (by simp)
  have hR3 := hRb.kp kp3 (by simp)
  have hE : (mkE E0.B E0.aE E0.aU F R (ownOf (.slice va first.length vc)) H bt cb first).Ok := mkE_ok hG2 hD1 hSl2 (fun k hk => by have := hown1 k hk; omega) (fun k hk => by have := hSl.lt hk; omega) (by omega) (by omega) hF hFb hbc hcH
  have hFlt : F < w3.heap.size := by obtain ⟨g, hs, hbF, _⟩ := hI; exact hbF.lt
  have hRep := rep_new (mkE E0.B E0.aE E0.aU F R (ownOf (.slice va first.length vc)) H bt cb first) w3 [] _ _ (by simp) hI hbt hcb (mkE_rd (E0 := E0) hSl3 hR3 rfl rfl rfl) (mkE_gl hG3) ⟨hFlt, hFlt⟩
  have hs2 := kp2.size
  have hs3 := kp3.size
  have hSlt : ownOf (.slice va first.length vc) < w3.heap.size := by
    unfold ownOf
    split
    · rename_i b hb; have := hSl.lt hb; omega
    · omega
  have kp : Kp [] w w3 := (kp1.trans kp2).trans kp3
  have hwF : w.heap.size ≤ F ∧ w.heap.size ≤ R := by omega
  obtain ⟨E, hEe⟩ : ∃ E, (mkE E0.B E0.aE E0.aU F R (ownOf (.slice va first.length vc)) H bt cb first) = E := ⟨_, rfl⟩
  have hEF : E.F = F ∧ E.R = R ∧ E.H = H ∧ E.bt = bt ∧ E.cb = cb ∧ E.S = ownOf (.slice va first.length vc) ∧ E.B = E0.B := by rw [← hEe]; exact ⟨rfl, rfl, rfl, rfl, rfl, rfl, rfl⟩
  rw [hEe] at hE hRep
  have hRep : Rep (E.re E.buf E.own) w3 (A0 []) := hRep
  have hPn : Pend (A0 []) := fun h => absurd h (Nat.lt_irrefl _)
  refine L1 (asg (v := (.iface 99 (.pointer (some ⟨F, 0, none⟩)))) rfl) ?_
  refine wpList_nil ?_
  refine then_n ?_
  refine seq_cut (N := 53) (fun f w' => f 1 = dv ∧ f 2 = xv ∧ f 8 = .iface 99 (.pointer (some ⟨F, 0, none⟩)) ∧ ∃ a b o, Rep (E.re b o) w' a ∧ Pend a ∧ w3.heap.size ≤ w'.heap.size ∧ Kp [] w w') ?_ ?_
  · skip
    refine wp_seq ?_
    -- region 2
    refine reg_lit ?_
    refine L1 (asg (v := .int _ _) rfl) ?_
    refine wpList_nil ?_
    refine then_n ?_
    refine wp_block ?_
    refine loop_fr (fun k f w' => f 1 = dv ∧ f 2 = xv ∧ f 8 = .iface 99 (.pointer (some ⟨F, 0, none⟩)) ∧ ∃ i : Nat, f 9 = .int .i64 (i : Int) ∧ i ≤ 100 ∧ k = 100 - i ∧ ∃ a b o, Rep (E.re b o) w' a ∧ Pend a ∧ w3.heap.size ≤ w'.heap.size ∧ Kp [] w w') 100 ⟨rfl, rfl, rfl, 0, rfl, Nat.zero_le _, rfl, _, _, _, hRep, hPn, Nat.le_refl _, kp⟩ ?_
    clear hRep hPn kp
    intro k f w4 HJ
    obtain ⟨s1, s2, s8, i, s9, hi, rfl, a, b0, o0, hRn, hPn, hszn, kp⟩ := HJ
    refine slots (fc s1 (fc s2 (fc s8 (fc s9 fnil)))) ?_
    refine wp_seq ?_
    refine wp_seq ?_
    -- region 3
    refine reg_lit ?_
    refine L1 (mv (v := .int _ _) rfl) ?_
    refine L1 (bi rfl rfl (bn_lss (v := decide (i < 100)) (decide_eq_decide.2 (by omega)))) ?_
    refine wpList_nil ?_
    refine then_n ?_
    refine cond_d (p := i < 100) rfl (fun hlt => ?_) (fun hlt => ?_)
    · skip
      refine wp_skip ?_
      refine then_n ?_
      refine wp_seq ?_
      refine wp_block ?_
      refine wp_seq ?_
      -- region 5 (its order is open)
      refine reg_mixP [0, 2, 3, 4, 1, 5, 6, 7, 8, 9, 10] [false, false, false, false, true, true, false, false, false, false, false] (fun _ => True) mixed (by kernel_rfl) ?_ ?_
      · exact trivial
      have hRn := hRn.drew
      have kp := kp.drew
      refine T1 (fun w hC => mv (v := (.iface 99 (.pointer (some ⟨F, 0, none⟩)))) rfl) ?_
      refine T1 (fun w hC => mkM rfl) ?_
      refine T1 (fun w hC => nilM99 rfl) ?_
      refine T1 (fun w hC => mv (v := (.iface 99 (.pointer (some ⟨F, 0, none⟩)))) rfl) ?_
      refine Emk22 (n := 64) rfl rfl (by decide) ?_
      intro bf w5 hbf hb kp1 hsz5
      refine ⟨trivial, ?_⟩
      have hws := kp.size
      have hd4w : w4.drew.heap.size = w4.heap.size := rfl
      have hR2 := hRn.re kp1 (b1 := bf) (o1 := bf) (.inl (by show w4.drew.heap.size ≤ bf; omega)) (.inl (by show w4.drew.heap.size ≤ bf; omega)) (by omega) (by omega)
      have hU : (E.re bf bf).OkB := okB_new (E := E) (o := bf) hRn (by rw [hEF.2.2.2.2.2.1]; omega) (by omega)
      have hR2 : Rep (E.re bf bf) w5 a := hR2
      have kp := kp.trans kp1
      have hfp : Value.pointer (some ⟨F, 0, none⟩) = fp (E.re bf bf) := by show _ = Value.pointer (some ⟨E.F, 0, none⟩); rw [hEF.1]
      refine EC (inv1 has90 rfl (meth_rd99 _) rfl) (by rw [hfp]; exact read_c (E.re bf bf) w5 a (hE.re bf bf) hU hR2 0 64 64 64 5 _ hb (by omega) hPn (fun c hc hn => hc_all)) ?_
      rintro v w6 ⟨k, er, a2, ev2, rfl, hev, hreads, hRn, hPn, hb3, kp2⟩
      refine ⟨trivial, ?_⟩
      have hsz6 := kp2.size
      have kp := kp.transNew kp2 (fun j hj hlt2 => by simp only [Env.L, List.mem_cons, List.not_mem_nil, or_false] at hj; have h1 : j = bf ∨ j = E.F ∨ j = E.H ∨ j = E.R ∨ j = E.bt ∨ j = E.cb := hj; rw [hEF.1, hEF.2.1, hEF.2.2.1, hEF.2.2.2.1, hEF.2.2.2.2.1] at h1; omega)
      have hszn : w3.heap.size ≤ w6.heap.size := by have : w4.drew.heap.size = w4.heap.size := rfl; omega
      refine T1 (fun w hC => mv (v := .tuple _) rfl) ?_
      refine T1 (fun w hC => ext2_0 rfl) ?_
      refine T1 (fun w hC => ext2_1 rfl) ?_
      refine T1 (fun w hC => asg (v := .int _ _) rfl) ?_
      refine T1 (fun w hC => asg (v := ev2) rfl) ?_
      refine mix_nil ?_
      by_cases her : er = 0
      · skip
        obtain rfl : ev2 = .nilIface := errNil hev her
        refine then_n ?_
        refine wp_seq ?_
        -- region 6
        refine reg_lit ?_
        refine L1 (mv (v := .nilIface) rfl) ?_
        refine L1 (en_nil rfl rfl) ?_
        refine wpList_nil ?_
        refine then_n ?_
        refine cond_f rfl ?_
        refine wp_skip ?_
        refine inb_n ?_
        refine then_n ?_
        -- region 4
        refine reg_lit ?_
        refine L1 (mv (v := .int _ _) rfl) ?_
        refine L1 (bi rfl rfl (bn_add (c := ((i + 1 : Nat) : Int)) (by omega) (by omega) (by omega))) ?_
        refine L1 (asg (v := .int _ _) rfl) ?_
        refine wpList_nil ?_
        refine then_n ?_
        exact ⟨100 - (i + 1), _, by omega, rfl, rfl, rfl, rfl, i + 1, rfl, by omega, rfl, _, _, _, hRn, hPn, hszn, kp⟩
      · skip
        obtain ⟨et, ex, rfl⟩ := errIface hev her
        refine then_n ?_
        refine wp_seq ?_
        -- region 6
        refine reg_lit ?_
        refine L1 (mv (v := .iface _ _) rfl) ?_
        refine L1 (en_held rfl rfl) ?_
        refine wpList_nil ?_
        refine then_n ?_
        refine cond_t rfl ?_
        refine wp_exit ?_
        refine inb_other (by decide) ?_
        refine then_e ?_
        refine then_e ?_
        refine inb_same ?_
        refine then_n ?_
        exact ⟨_, rfl, rfl, rfl, rfl, _, _, _, hRn, hPn, hszn, kp⟩
    · skip
      refine wp_exit ?_
      refine then_e ?_
      refine then_e ?_
      refine inb_same ?_
      refine then_n ?_
      exact ⟨_, rfl, rfl, rfl, rfl, _, _, _, hRn, hPn, hszn, kp⟩
  · skip
    clear hRep hPn kp
    rintro f w4 ⟨s1, s2, s8, a, b0, o0, hRn, hPn, hszn, kp⟩
    refine slots (fc s1 (fc s2 (fc s8 fnil))) ?_
    refine wp_seq ?_
    refine wp_seq ?_
    have hl4a := hRn.ltL
    -- region 7 (its order is open)
    refine reg_mixP [0, 1, 2, 6, 8, 9, 10, 3, 4, 5, 7, 11, 12] [false, false, false, false, false, false, false, true, true, false, true, true, false] (fun _ => True) mixed (by kernel_rfl) ?_ ?_
    · exact trivial
    have hRn := hRn.drew
    have kp := kp.drew
    refine T1 (fun w hC => mv (v := (.iface 99 (.pointer (some ⟨F, 0, none⟩)))) rfl) ?_
    refine T1 (fun w hC => ta66 rfl) ?_
    refine T1 (fun w hC => mv (v := dv) rfl) ?_
    refine T1 (fun w hC => mv (v := xv) rfl) ?_
    refine T1 (fun w hC => mkM rfl) ?_
    refine T1 (fun w hC => nilM99s rfl) ?_
    refine T1 (fun w hC => mv (v := (.iface 99 (.pointer (some ⟨F, 0, none⟩)))) rfl) ?_
    have hws := kp.size
    refine EC (cl1 has15 rfl rfl) (copied_c _ _ data (hA2.kp kp) hD2.2) ?_
    rintro v5 w5 ⟨hSd, kp5, hown5⟩
    refine ⟨trivial, ?_⟩
    obtain ⟨sa5, sc5, rfl⟩ := hSd.val
    have hRn := hRn.keep kp5
    have kp := kp.trans kp5
    have hs5 := kp5.size
    have hSd5 : ∀ b, (Value.slice sa5 data.length sc5).ownBlock = some b → b < w5.heap.size := fun b hb => hSd.lt hb
    refine EC (cl1 has14 rfl rfl) (newReader_c _ sa5 data.length sc5) ?_
    rintro v w6 ⟨rfl, hR2, kp6, hsz6⟩
    refine ⟨trivial, ?_⟩
    have hSd := hSd.kp kp6 (by simp)
    have hRn := hRn.keep kp6
    have kp := kp.trans kp6
    obtain ⟨R2, hR2e⟩ : ∃ R2, R2 = w5.heap.size := ⟨_, rfl⟩
    rw [← hR2e] at hR2 hsz6 ⊢
    refine T1 (fun w hC => mkI43 rfl) ?_
    refine EC (cl1 has15 rfl rfl) (copied_c _ _ dict (hA3.kp kp) hD3.2) ?_
    rintro v7 w7 ⟨hSx, kp7, hown7⟩
    refine ⟨trivial, ?_⟩
    have hSd := hSd.kp kp7 (by simp)
    have hR2 := hR2.kp kp7 (by simp)
    have hRn := hRn.keep kp7
    have kp := kp.trans kp7
    have hs7 := kp7.size
    have hfp : Value.pointer (some ⟨F, 0, none⟩) = fp (E.re b0 o0) := by show _ = Value.pointer (some ⟨E.F, 0, none⟩); rw [hEF.1]
    have hlL := hRn.ltL
    have hl4 : E.F < w4.heap.size ∧ E.H < w4.heap.size ∧ E.bt < w4.heap.size ∧ E.cb < w4.heap.size := ⟨hl4a E.F (by simp [Env.L, Env.re]), hl4a E.H (by simp [Env.L, Env.re]), hl4a E.bt (by simp [Env.L, Env.re]), hl4a E.cb (by simp [Env.L, Env.re])⟩
    rw [hEF.1, hEF.2.2.1, hEF.2.2.2.1, hEF.2.2.2.2.1] at hl4
    have hd4 : w4.drew.heap.size = w4.heap.size := rfl
    refine EC (inv2 has91 rfl (meth_rs99 _) rfl rfl) (by rw [hfp]; exact reset_c (E.re b0 o0) w7 a (hE.re b0 o0) hRn R2 v7 dict hSx hD3.1 hD3.2 (fun k hk => by have := hown7 k hk; show k ≠ E.F ∧ k ≠ E.H; rw [hEF.1, hEF.2.2.1]; omega)) ?_
    rintro v w8 ⟨rfl, hI, kp8⟩
    refine ⟨trivial, ?_⟩
    have hI : InitP F H w8 (gI R2 bt cb) dict := by have h : InitP E.F E.H w8 (gI R2 E.bt E.cb) dict := hI; rw [hEF.1, hEF.2.2.1, hEF.2.2.2.1, hEF.2.2.2.2.1] at h; exact h
    have kp8 : Kp [F, H] w7 w8 := by have h : Kp [E.F, E.H] w7 w8 := kp8; rw [hEF.1, hEF.2.2.1] at h; exact h
    obtain ⟨gq, hsq, bsq, csq, hCq, _, _⟩ := hRn
    have hbtq : Bk w7 bt 316 97 bsq := by have h : Bk w7 E.bt 316 97 bsq := hCq.W.bt; rw [hEF.2.2.2.1] at h; exact h
    have hcbq : Bk w7 cb 19 98 csq := by have h : Bk w7 E.cb 19 98 csq := hCq.W.cb; rw [hEF.2.2.2.2.1] at h; exact h
    have hbt8 := hbtq.kp kp8 (by simp; omega)
    have hcb8 := hcbq.kp kp8 (by simp; omega)
    have hown5' := hown5
    have hSd8 := hSd.kp kp8 (by intro b hb; have := hown5 b hb; simp; omega)
    have hR8 := hR2.kp kp8 (by simp; omega)
    have kpN : Kp [] w w8 := kp.transNew kp8 (by intro j hj _; simp at hj; omega)
    have hG8 := hG.kp kpN (by simp)
    have hs8 := kp8.size
    have hSlt5 : ownOf (.slice sa5 data.length sc5) < R2 ∧ (ownOf (.slice sa5 data.length sc5) = 0 ∨ w4.heap.size ≤ ownOf (.slice sa5 data.length sc5)) := by
      unfold ownOf
      split
      · rename_i b hb; have h1 := hown5 b hb; have h2 := hSd5 b hb; exact ⟨by omega, .inr (by omega)⟩
      · exact ⟨by omega, .inl rfl⟩
    have hF8 : F < w8.heap.size := by omega
    have hE2 : (mkE E0.B E0.aE E0.aU F R2 (ownOf (.slice sa5 data.length sc5)) H bt cb data).Ok := mkE_ok2 (w2 := w8) hG hD2 (by omega) (by omega) (by omega) (by omega) hFb hbc hcH (by omega)
    have hRep2 := rep_new (mkE E0.B E0.aE E0.aU F R2 (ownOf (.slice sa5 data.length sc5)) H bt cb data) w8 dict _ _ hD3.1 hI hbt8 hcb8 (mkE_rd (E0 := E0) hSd8 hR8 rfl rfl rfl) (mkE_gl hG8) ⟨hF8, hF8⟩
    refine T1 (fun w hC => asg (v := .nilIface) rfl) ?_
    refine mix_nil ?_
    refine then_n ?_
    refine wp_seq ?_
    -- region 8
    refine reg_lit ?_
    refine L1 (mv (v := .nilIface) rfl) ?_
    refine L1 (en_nil rfl rfl) ?_
    refine wpList_nil ?_
    refine then_n ?_
    refine cond_f rfl ?_
    refine wp_skip ?_
    refine then_n ?_
    refine wp_seq ?_
    -- region 10
    refine reg_lit ?_
    refine L1 (mv (v := (.iface 99 (.pointer (some ⟨F, 0, none⟩)))) rfl) ?_
    refine LC (cl2 has16 rfl rfl rfl) (drained_c (mkE E0.B E0.aE E0.aU F R2 (ownOf (.slice sa5 data.length sc5)) H bt cb data) w8 (A0 dict) hE2 (by show ownOf (.slice sa5 data.length sc5) < w8.heap.size; omega) hRep2 (fun h => absurd h (Nat.lt_irrefl _)) none 0 [] (by simp) (by simp) (fun _ _ _ => hc_all)) ?_
    rintro v w9 ⟨r, c, a', b, o, ov, rfl, hSl9, hR9, hP9, hfar, hdr, hown9, kp9⟩
    have kp : Kp [] w w9 := kpN.transNew kp9 (by intro j hj hlt2; simp only [mkE, Env.L, List.mem_cons, List.not_mem_nil, or_false] at hj; omega)
    refine L1 (ext2_0 rfl) ?_
    refine L1 (ext2_1 rfl) ?_
    refine L1 (asg (v := ov) rfl) ?_
    refine L1 (asg (v := .int _ _) rfl) ?_
    refine wpList_nil ?_
    refine then_n ?_
    refine wp_ret ?_
    refine ret2 rfl rfl rfl ?_
    exact ⟨_, rfl, r, c, ov, rfl, hSl9, ⟨_, a', hdr, rfl⟩, kp⟩
theorem fnReset_w (E0 : Env) (w : World) (hG : Gl E0 w) (fv dv xv : Value) (first data dict : List Nat) (hA1 : Ag w fv first) (hD1 : Bytes first) (hA2 : Ag w dv data) (hD2 : Bytes data) (hA3 : Ag w xv dict) (hD3 : Bytes dict) :
    Ret 8 [fv, dv, xv] w fun v w' => v = .bool true ∧ Kp [] w w' := by
  have kp := Kp.refl [] w
  refine calls_fr (N := 39) Tryd.func8 rfl rfl (by simp) rfl ?_
  refine wp_seq ?_
  -- region 0
  refine reg_lit ?_
  refine L1 (asg (v := .bool _) rfl) ?_
  refine wpList_nil ?_
  refine then_n ?_
  refine wp_seq ?_
  -- region 1
  refine reg_lit ?_
  refine L1 (mv (v := fv) rfl) ?_
  refine L1 (mv (v := dv) rfl) ?_
  refine L1 (mv (v := xv) rfl) ?_
  refine LC (cl3 has13 rfl rfl rfl rfl) (again_c E0 _ hG fv dv xv first data dict hA1 hD1 hA2 hD2 hA3 hD3) ?_
  rintro v w1 ⟨r1, c1, ov1, rfl, hSl1, ⟨left1, hI1⟩, kp1⟩
  have kp := kp.trans kp1
  refine L1 (mv (v := .tuple _) rfl) ?_
  refine L1 (ext2_0 rfl) ?_
  refine L1 (ext2_1 rfl) ?_
  refine L1 (asg (v := ov1) rfl) ?_
  refine L1 (asg (v := .int _ _) rfl) ?_
  refine wpList_nil ?_
  refine then_n ?_
  refine wp_seq ?_
  -- region 2
  refine reg_lit ?_
  refine L1 (mv (v := dv) rfl) ?_
  refine L1 (mv (v := xv) rfl) ?_
  refine LC (cl3 has9 rfl rfl rfl rfl) (inflate_c E0 _ (hG.kp kp (by simp)) dv xv data dict (hA2.kp kp) hD2 (hA3.kp kp) hD3 none 0 [] (by simp) (by simp) (hc_of _ _)) ?_
  rintro v w3 ⟨r2, c2, left2, ov2, rfl, hSl2, hI2, kp3, hown3⟩
  obtain ⟨z1, hd1, _⟩ := hI1
  obtain ⟨z2, hd2, _⟩ := hI2
  obtain ⟨rfl, rfl, _⟩ := hd1.det hd2
  have hSl1 := hSl1.kp kp3 (by simp)
  have kp := kp.trans kp3
  refine L1 (mv (v := .tuple _) rfl) ?_
  refine L1 (ext3_0 rfl) ?_
  refine L1 (ext3_1 rfl) ?_
  refine L1 (ext3_2 rfl) ?_
  refine L1 (asg (v := ov2) rfl) ?_
  refine L1 (asg (v := .int _ _) rfl) ?_
  refine L1 (asg (v := .int _ _) rfl) ?_
  refine wpList_nil ?_
  refine then_n ?_
  refine wp_seq ?_
  -- region 3
  refine reg_lit ?_
  refine L1 (mv (v := .int _ _) rfl) ?_
  refine L1 (mv (v := .int _ _) rfl) ?_
  refine L1 (bi rfl rfl (bn_eql (v := true) (decide_eq_true rfl))) ?_
  refine L1 (mv (v := .bool _) rfl) ?_
  refine L1g (t := 29) (b := true) rfl (by decide) rfl (mv (v := ov1) rfl) ?_
  refine L1g (t := 29) (b := true) rfl (by decide) rfl (cvs rfl hSl1.ag) ?_
  refine L1g (t := 29) (b := true) rfl (by decide) rfl (mv (v := ov2) rfl) ?_
  refine L1g (t := 29) (b := true) rfl (by decide) rfl (cvs rfl hSl2.ag) ?_
  refine L1g (t := 29) (b := true) rfl (by decide) rfl (bis (v := true) rfl rfl rfl) ?_
  refine L1 (pk_t rfl rfl) ?_
  refine L1 (mv (v := .bool _) rfl) ?_
  refine LCg (t := 36) (b := true) rfl (by decide) rfl (cl0 has10 rfl) (probe_w E0 _ (hG.kp kp (by simp))) ?_
  rintro v w5 ⟨rfl, kp5⟩
  have kp := kp.trans kp5
  refine L1 (pk_t rfl rfl) ?_
  refine L1 (asg (v := .bool _) rfl) ?_
  refine wpList_nil ?_
  refine then_n ?_
  refine wp_ret ?_
  refine ret1 rfl rfl ?_
  exact ⟨_, rfl, rfl, kp⟩
end Go.Proofs.YtejeloeaklpinaaDoor

/- A world that fits: the listed variables as their initialisers lay them. -/
namespace Go.Proofs.YtejeloeaklpinaaDoor
open Go.ChangeShapes Go.WideShapes Go.ChangeAt Go.RowKit
theorem ownKn : ownKnob Tryd.prog.godebug = none := by kernel_rfl
/-- So many blocks has the settled world. -/
noncomputable def low : Nat := (World.holding Tryd.prog default ⟨#[], #[], []⟩).heap.size
noncomputable def laidWorld (os : Os) : World :=
  let w0 := World.holding Tryd.prog os ⟨#[.cells #[.string ⟨#[69, 79, 70]⟩] 150, .cells #[.string ⟨#[117, 110, 101, 120, 112, 101, 99, 116, 101, 100, 32, 69, 79, 70]⟩] 150, .cells #[.string ⟨#[115, 104, 111, 114, 116, 32, 98, 117, 102, 102, 101, 114]⟩] 150], #[], []⟩
  let put (g : Nat) (c : Array Value) (w : World) : World := { w with heap := w.heap.modify g fun
      | .cells _ t frozen => .cells c t frozen
      | o => o }
  put 0 #[.iface 131 (.pointer (some ⟨low, 0, none⟩))] (put 1 #[.iface 131 (.pointer (some ⟨low + 1, 0, none⟩))] (put 3 #[.iface 131 (.pointer (some ⟨low + 2, 0, none⟩))]
    (put 2 #[.int .i64 16, .int .i64 17, .int .i64 18, .int .i64 0, .int .i64 8, .int .i64 7, .int .i64 9, .int .i64 6, .int .i64 10, .int .i64 5, .int .i64 11, .int .i64 4, .int .i64 12, .int .i64 3, .int .i64 13, .int .i64 2, .int .i64 14, .int .i64 1, .int .i64 15] w0)))
theorem laid_met (os : Os) (args : Array Value) : laidMet Tryd.prog laidL ((laidWorld os).forCall (fun _ _ => 0) ⟨#[], args, []⟩).memory :=
  laidMet_of_run' 8 (by kernel_rfl) (by kernel_rfl)
end Go.Proofs.YtejeloeaklpinaaDoor

/- FnReset: for every stream that was read ahead, every stream and every dictionary the law answers true, the arguments and the listed variables as they were; the listed variables start as the program's text lays them. -/
namespace Go.Proofs.YtejeloeaklpinaaDoor
open Go.ChangeShapes Go.WideShapes Go.ChangeAt Go.RowKit
theorem rst_reads (os : Os) {H : Type} (enc : TypeId × Value → H) : DataW.whole enc Tryd.prog ((laidWorld os).forCall (fun _ _ => 0) ⟨#[], #[.slice none 0 0, .slice none 0 0, .slice none 0 0], []⟩).memory Tryd.f8.params.toList Rows.fnResetSpec.vars false [Value.slice none 0 0, Value.slice none 0 0, Value.slice none 0 0] 8 = some ([.nil, .nil, .nil], [Rows.laid_loop_example_pub_g03122_pub_flate_codeOrder], (List.range 19).map (MemPlace.cell 2 ·)) := by kernel_rfl
theorem rst_par : ∀ t ∈ Tryd.f8.params.toList, Tryd.prog.readableRec t = true ∧ t < Tryd.prog.types.size := by
  rw [Tryd.params8]
  intro t ht
  simp at ht
  subst ht
  exact ⟨by kernel_rfl, of_decide_eq_true (by kernel_rfl)⟩
theorem bytes5' : Tryd.prog.bytesOf 5 = 1 := by kernel_rfl
set_option maxRecDepth 100000 in
theorem rst_lifted (os : Os) (started : os.Started) (H : Type) (enc : TypeId × Value → H) (F : Stop.Interp) :
    ReturnsInHanded {} Tryd.checked os 8 .any ((OpenSpec.ofChange Rows.fnResetSpec).preRow enc Tryd.prog Tryd.f8 Rows.fnResetRow.domain false Rows.fnResetRow.laid) (((OpenSpec.ofChange Rows.fnResetSpec).at F).post enc Tryd.prog Tryd.f8 false true false false) := by
  have hx := rst_reads os enc
  refine returnsInHanded_of_row (C := Tryd.checked) (s := OpenSpec.ofChange Rows.fnResetSpec) ownKn started (by kernel_rfl) Tryd.func8
    (witness_row_at (enc := enc) (C := Tryd.checked) false (laidWorld os) #[.slice none 0 0, .slice none 0 0, .slice none 0 0] rfl (by kernel_rfl) (by kernel_rfl) (by kernel_rfl)
      (OpenSpec.preRow_of_cond 8 hx (by kernel_rfl) (fun k hk => by cases hk) (by kernel_rfl) (laid_met os _))) ?_
  intro W base args ds gs before hval hW _ _ hsz hL _ _
  have hW' := hW
  obtain ⟨p, q, hA0, hV, rfl, hfz, hnd⟩ := hW
  have hA : DataW.TrodAll enc Tryd.prog W 0 (fun _ => true) true Tryd.f8.params.toList args.toList ds p := hA0
  have hval' : ∀ (j : Nat) t v, Tryd.f8.params[j]? = some t → args[j]? = some v → Value.okWide Tryd.prog W .any base t v := hval
  rw [Tryd.params8] at hA hval'
  obtain ⟨v0, v1, v2, d0, d1, d2, p0, p1, p2, rfl, rfl, rfl, h0, h1, h2⟩ := trodAll_three hA
  obtain ⟨first, hA1, hb1, hl1⟩ := openBytes (hval' 0 22 v0 rfl rfl) h0
  obtain ⟨data, hA2, hb2, hl2⟩ := openBytes (hval' 1 22 v1 rfl rfl) h1
  obtain ⟨dict, hA3, hb3, hl3⟩ := openBytes (hval' 2 22 v2 rfl rfl) h2
  obtain ⟨E0, hG, _⟩ := gl_of_laid (W := W) hL
  have hL1 : first.length ≤ 140737488355328 := by
    rcases hl1 with h | ⟨el, rs, rfl, h⟩
    · omega
    · have := sized_slice (P := Tryd.prog) (j := 0) (t := 22) (e := 5) hsz (by rw [Tryd.params8]; rfl) rfl und22
      rw [bytes5'] at this
      simp only [reachBytes] at this
      omega
  have hL2 : data.length ≤ 140737488355328 := by
    rcases hl2 with h | ⟨el, rs, rfl, h⟩
    · omega
    · have := sized_slice (P := Tryd.prog) (j := 1) (t := 22) (e := 5) hsz (by rw [Tryd.params8]; rfl) rfl und22
      rw [bytes5'] at this
      simp only [reachBytes] at this
      omega
  have hL3 : dict.length ≤ 140737488355328 := by
    rcases hl3 with h | ⟨el, rs, rfl, h⟩
    · omega
    · have := sized_slice (P := Tryd.prog) (j := 2) (t := 22) (e := 5) hsz (by rw [Tryd.params8]; rfl) rfl und22
      rw [bytes5'] at this
      simp only [reachBytes] at this
      omega
  obtain ⟨g, rfl⟩ : ∃ g, gs = [g] := by
    have hV' : DataW.TrodVars enc Tryd.prog W (fun _ => true) ["loop.example/pub-g03122/pub/flate.codeOrder"] gs q := hV
    obtain ⟨_, _, _, _, d, _, rfl, _⟩ := trodVars_one hV'
    exact ⟨d, rfl⟩
  refine (fnReset_w E0 W hG v0 v1 v2 first data dict hA1 ⟨hb1, hL1⟩ hA2 ⟨hb2, hL2⟩ hA3 ⟨hb3, hL3⟩).mono fun e W' ⟨v, he, hv, kp⟩ => ?_
  subst hv
  exact ⟨_, he, post_true (s := Rows.fnResetSpec) hW' kp rfl rfl rst_par rfl⟩
theorem rst_said : Rows.FnResetSaid :=
  OpenClaim.holds_of_cond 8 Tryd.f8 rfl rfl rfl rfl rfl rfl rfl ⟨rfl, rfl, rfl, rfl, rfl⟩ rfl rfl rfl rfl rfl (by kernel_rfl) Tryd.func8 (by kernel_rfl)
    (of_decide_eq_true (by kernel_rfl)) (by unfold Func.isWrapper; first | (rw [if_pos (by decide +kernel)]; kernel_rfl) | (rw [if_neg (by decide +kernel)]; exact ⟨rfl, rfl⟩))
    (fun os started H enc _ F => by rw [OpenClaim.pre_eq_preRow]; exact rst_lifted os started H enc F)
theorem rst_plain (f : FuncId) (fn : Func) (hf : Tryd.pinned.checked.prog.funcNamed Rows.fnResetRow.func = some f) (hfn : Tryd.pinned.checked.prog.funcs[f]? = some fn) :
    true = Tryd.pinned.checked.prog.looks [] ∧ ∀ (j : Nat) t, fn.params[j]? = some t → Tryd.pinned.checked.prog.wantsStandIn t = false := by
  obtain rfl : f = 8 := Option.some.inj ((show Tryd.prog.funcNamed Rows.fnResetRow.func = some 8 by kernel_rfl).symm.trans hf) |>.symm
  obtain rfl : fn = Tryd.f8 := (Option.some.inj (Tryd.func8.symm.trans hfn)).symm
  refine ⟨by kernel_rfl, fun j t ht => ?_⟩
  rw [Tryd.params8] at ht
  have hm := Array.mem_of_getElem? ht
  simp at hm
  subst hm
  exact (show Tryd.prog.wantsStandIn 22 = false by kernel_rfl)
theorem reset_card : Rows.FnResetCardSaid :=
  Claim7.holds_tied_plain_at .later [] _ _ _ _ rst_said (fun _ h => by cases h) (by kernel_rfl) (fun _ h => by cases h) fnReset_row_tie rfl ⟨rfl, rfl⟩ (by kernel_rfl) rfl rst_plain (by kernel_rfl)
end Go.Proofs.YtejeloeaklpinaaDoor
