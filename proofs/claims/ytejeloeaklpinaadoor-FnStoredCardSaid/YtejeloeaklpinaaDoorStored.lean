/- Blocks that are as they stand: their head. Its walks are printed by gen/g_stored.py. -/
import Derived.Test.YtejeloeaklpinaaDoorData2
import Derived.Test.YtejeloeaklpinaaDoorOps5
namespace Go.Proofs.YtejeloeaklpinaaDoor
attribute [local irreducible] wpList wpStill wpMix Code.wp Calls fr
theorem Wd.setFR' {E : Env} {w w1 : World} {g hs bs cs g' : Nat → Value} {pos pos' : Nat} (h : Wd E w g hs bs cs pos) (hE : E.Ok) (hF : Bk w1 E.F 1054 95 g') (hR : Rd E w1 pos') (k : Kp [E.R, E.F] w w1) : Wd E w1 g' hs bs cs pos' :=
  h.setFR hE hF hR (k.mono (by simp))
/-- The reader's block behind the two stores and the four bytes. -/
def gs0 (E : Env) (g : Nat → Value) (pos k : Nat) : Nat → Value := cpd E (upd (upd g 4 (.int .u64 0)) 3 (.int .u32 0)) 1041 pos k
theorem gs0_off (E : Env) (g : Nat → Value) (pos k : Nat) (hk : k ≤ 4) : Off [3, 4, 1041, 1042, 1043, 1044] g (gs0 E g pos k) := by
  intro j hj
  simp only [List.mem_cons, List.not_mem_nil, or_false, not_or] at hj
  unfold gs0 cpd
  rw [if_neg (by omega), upd_ne _ _ _ _ (by omega), upd_ne _ _ _ _ (by omega)]

theorem db_short (E : Env) (w : World) (g hs bs cs : Nat → Value) (pos : Nat) (ro : Int) (hE : E.Ok) (hW : Wd E w g hs bs cs pos) (hS : Stc E g) (hro : g 2 = .int .i64 ro) (hle : pos ≤ E.N) (hp : E.N < pos + 4) :
    Ret 42 [fp E] w fun v w' => v = .tuple #[] ∧ ∃ g', Wd E w' g' hs bs cs E.N ∧ g' 1048 = UEOFv E ∧ Off [2, 3, 4, 1041, 1042, 1043, 1044, 1048] g g' ∧ Kp E.L w w' := by
  have kp := Kp.refl E.L w
  have hN := hE.N47
  refine calls_fr (N := 98) Tryd.func42 rfl rfl (by simp [fp]) rfl ?_
  refine wp_seq ?_
  -- region 0
  refine reg_lit ?_
  refine L1 (mv (v := .pointer _) rfl) ?_
  refine L1 (nilP rfl) ?_
  refine L1 (fa95_4 rfl) ?_
  refine Lst38 (v := .int _ _) rfl rfl rfl hW.F (by decide) ?_
  intro w1 hb1 kp1
  have hW := hW.setF hE hb1 kp1
  have kp := kp.F kp1
  clear hb1 kp1
  refine wpList_nil ?_
  refine then_n ?_
  refine wp_seq ?_
  -- region 1
  refine reg_lit ?_
  refine L1 (mv (v := .pointer _) rfl) ?_
  refine L1 (nilP rfl) ?_
  refine L1 (fa95_3 rfl) ?_
  refine Lst82 (v := .int _ _) rfl rfl rfl hW.F (by decide) ?_
  intro w1 hb1 kp1
  have hW := hW.setF hE hb1 kp1
  have kp := kp.F kp1
  clear hb1 kp1
  refine wpList_nil ?_
  refine then_n ?_
  refine wp_seq ?_
  -- region 2 (its order is open)
  refine reg_mix [false, false, false, false, false, false, false, false, true, false, false, false, false, false] (fun w => w.cell? ⟨E.F, 0, none⟩ = some (.iface 43 (.pointer (some ⟨E.R, 0, none⟩)))) mixed (by kernel_rfl) ?_ ?_
  · exact (hW.drew.F.cellv (by decide) hS.r)
  have hW := hW.drew
  have kp := kp.drew
  refine T1 (fun w hC => mv (v := .pointer _) rfl) ?_
  refine T1 (fun w hC => nilP rfl) ?_
  refine T1 (fun w hC => fa95_0 rfl) ?_
  refine T1 (fun w hC => ld80 (v := .iface _ _) rfl hC) ?_
  refine T1 (fun w hC => mv (v := .pointer _) rfl) ?_
  refine T1 (fun w hC => nilP rfl) ?_
  refine T1 (fun w hC => fa95_10 rfl) ?_
  refine T1 (fun w hC => sl91 rfl rfl rfl) ?_
  refine EC (cl2 has49 rfl rfl rfl) (rdf_short' E _ pos hE hW.gl hW.rd E.F 1041 4 4 1054 95 _ hW.F hE.FR hE.FS hE.bF (by omega) (by omega) (by omega) (by decide) (by omega)) ?_
  rintro v w1 ⟨ex, hex, rfl, hrd, hh, kp1⟩
  have hW := hW.setFR' hE hh hrd kp1
  have kp := kp.trans (kp1.mono (by simp [Env.L]))
  clear kp1 hh hrd
  refine ⟨hW.F.cellv (by decide) ((gs0_off E g pos _ (by omega) _ (by decide)).trans hS.r), ?_⟩
  refine T1 (fun w hC => mv (v := .tuple _) rfl) ?_
  refine T1 (fun w hC => ext2_0 rfl) ?_
  refine T1 (fun w hC => ext2_1 rfl) ?_
  refine T1 (fun w hC => asg (v := .int _ _) rfl) ?_
  refine T1 (fun w hC => asg (v := .iface _ _) rfl) ?_
  refine mix_nil ?_
  refine then_n ?_
  refine wp_seq ?_
  -- region 3
  refine reg_lit ?_
  refine L1 (mv (v := .pointer _) rfl) ?_
  refine L1 (nilP rfl) ?_
  refine L1 (fa95_2 rfl) ?_
  refine L1 (ld2 rfl (hW.F.cellv (by decide) hro)) ?_
  refine L1 (mv (v := .int _ _) rfl) ?_
  refine L1 (bi rfl rfl (bn_addw)) ?_
  refine L1 (nilP rfl) ?_
  refine L1 (fa95_2 rfl) ?_
  refine Lst2 (v := .int _ _) rfl rfl rfl hW.F (by decide) ?_
  intro w1 hb1 kp1
  have hW := hW.setF hE hb1 kp1
  have kp := kp.F kp1
  clear hb1 kp1
  refine wpList_nil ?_
  refine then_n ?_
  refine wp_seq ?_
  refine wp_seq ?_
  -- region 4
  refine reg_lit ?_
  refine L1 (mv (v := .iface _ _) rfl) ?_
  refine L1 (en_held rfl rfl) ?_
  refine wpList_nil ?_
  refine then_n ?_
  refine cond_t rfl ?_
  refine wp_seq ?_
  -- region 5
  refine reg_lit ?_
  refine L1 (mv (v := .pointer _) rfl) ?_
  refine L1 (mv (v := .iface _ _) rfl) ?_
  refine LC (cl1 has48 rfl rfl) (noEOF_any E _ hW.gl ex hex) ?_
  rintro v w1 ⟨rfl, rfl⟩
  refine L1 (nilP rfl) ?_
  refine L1 (fa95_14 rfl) ?_
  refine Lst62 (v := (UEOFv E)) rfl rfl rfl hW.F (by decide) ?_
  intro w1 hb1 kp1
  have hW := hW.setF hE hb1 kp1
  have kp := kp.F kp1
  clear hb1 kp1
  refine wpList_nil ?_
  refine then_n ?_
  refine wp_ret ?_
  refine then_r ?_
  refine ret0 rfl ?_
  exact ⟨_, rfl, rfl, _, hW, rfl, (((gs0_off E g pos _ (by omega)).mono (by simp)).upd (by simp) _).upd (by simp) _, kp⟩
theorem db_bad (E : Env) (w : World) (g hs bs cs : Nat → Value) (pos : Nat) (ro : Int) (hE : E.Ok) (hW : Wd E w g hs bs cs pos) (hS : Stc E g) (hro : g 2 = .int .i64 ro) (hp : pos + 4 ≤ E.N) (hb : E.d pos + 256 * E.d (pos + 1) + (E.d (pos + 2) + 256 * E.d (pos + 3)) ≠ 65535) :
    Ret 42 [fp E] w fun v w' => v = .tuple #[] ∧ ∃ g', Wd E w' g' hs bs cs (pos + 4) ∧ (∃ x, g' 1048 = .iface 107 (.int .i64 x)) ∧ Off [2, 3, 4, 1041, 1042, 1043, 1044, 1048] g g' ∧ Kp E.L w w' := by
  have kp := Kp.refl E.L w
  have hN := hE.N47
  refine calls_fr (N := 98) Tryd.func42 rfl rfl (by simp [fp]) rfl ?_
  have hd := hE.d8
  have hd0 := hd pos
  have hd1 := hd (pos + 1)
  have hd2 := hd (pos + 2)
  have hd3 := hd (pos + 3)
  refine wp_seq ?_
  -- region 0
  refine reg_lit ?_
  refine L1 (mv (v := .pointer _) rfl) ?_
  refine L1 (nilP rfl) ?_
  refine L1 (fa95_4 rfl) ?_
  refine Lst38 (v := .int _ _) rfl rfl rfl hW.F (by decide) ?_
  intro w1 hb1 kp1
  have hW := hW.setF hE hb1 kp1
  have kp := kp.F kp1
  clear hb1 kp1
  refine wpList_nil ?_
  refine then_n ?_
  refine wp_seq ?_
  -- region 1
  refine reg_lit ?_
  refine L1 (mv (v := .pointer _) rfl) ?_
  refine L1 (nilP rfl) ?_
  refine L1 (fa95_3 rfl) ?_
  refine Lst82 (v := .int _ _) rfl rfl rfl hW.F (by decide) ?_
  intro w1 hb1 kp1
  have hW := hW.setF hE hb1 kp1
  have kp := kp.F kp1
  clear hb1 kp1
  refine wpList_nil ?_
  refine then_n ?_
  refine wp_seq ?_
  -- region 2 (its order is open)
  refine reg_mix [false, false, false, false, false, false, false, false, true, false, false, false, false, false] (fun w => w.cell? ⟨E.F, 0, none⟩ = some (.iface 43 (.pointer (some ⟨E.R, 0, none⟩)))) mixed (by kernel_rfl) ?_ ?_
  · exact (hW.drew.F.cellv (by decide) hS.r)
  have hW := hW.drew
  have kp := kp.drew
  refine T1 (fun w hC => mv (v := .pointer _) rfl) ?_
  refine T1 (fun w hC => nilP rfl) ?_
  refine T1 (fun w hC => fa95_0 rfl) ?_
  refine T1 (fun w hC => ld80 (v := .iface _ _) rfl hC) ?_
  refine T1 (fun w hC => mv (v := .pointer _) rfl) ?_
  refine T1 (fun w hC => nilP rfl) ?_
  refine T1 (fun w hC => fa95_10 rfl) ?_
  refine T1 (fun w hC => sl91 rfl rfl rfl) ?_
  refine EC (cl2 has49 rfl rfl rfl) (rdf_ok E _ pos hE hW.gl hW.rd E.F 1041 4 4 1054 95 _ hW.F hE.FR hE.FS hE.bF (by omega) (by omega) (by omega) (by decide) (by omega)) ?_
  rintro v w1 ⟨rfl, hrd, hh, kp1⟩
  have hW := hW.setFR' hE hh hrd kp1
  have kp := kp.trans (kp1.mono (by simp [Env.L]))
  clear kp1 hh hrd
  refine ⟨hW.F.cellv (by decide) ((gs0_off E g pos 4 (by omega) _ (by decide)).trans hS.r), ?_⟩
  have c0 : gs0 E g pos 4 1041 = .int .u8 (E.d (pos)) := rfl
  have c1 : gs0 E g pos 4 1042 = .int .u8 (E.d (pos + 1)) := rfl
  have c2 : gs0 E g pos 4 1043 = .int .u8 (E.d (pos + 2)) := rfl
  have c3 : gs0 E g pos 4 1044 = .int .u8 (E.d (pos + 3)) := rfl
  refine T1 (fun w hC => mv (v := .tuple _) rfl) ?_
  refine T1 (fun w hC => ext2_0 rfl) ?_
  refine T1 (fun w hC => ext2_1 rfl) ?_
  refine T1 (fun w hC => asg (v := .int _ _) rfl) ?_
  refine T1 (fun w hC => asg (v := .nilIface) rfl) ?_
  refine mix_nil ?_
  refine then_n ?_
  refine wp_seq ?_
  -- region 3
  refine reg_lit ?_
  refine L1 (mv (v := .pointer _) rfl) ?_
  refine L1 (nilP rfl) ?_
  refine L1 (fa95_2 rfl) ?_
  refine L1 (ld2 rfl (hW.F.cellv (by decide) hro)) ?_
  refine L1 (mv (v := .int _ _) rfl) ?_
  refine L1 (bi rfl rfl (bn_addw)) ?_
  refine L1 (nilP rfl) ?_
  refine L1 (fa95_2 rfl) ?_
  refine Lst2 (v := .int _ _) rfl rfl rfl hW.F (by decide) ?_
  intro w1 hb1 kp1
  have hW := hW.setF hE hb1 kp1
  have kp := kp.F kp1
  clear hb1 kp1
  refine wpList_nil ?_
  refine then_n ?_
  refine wp_seq ?_
  refine wp_seq ?_
  -- region 4
  refine reg_lit ?_
  refine L1 (mv (v := .nilIface) rfl) ?_
  refine L1 (en_nil rfl rfl) ?_
  refine wpList_nil ?_
  refine then_n ?_
  refine cond_f rfl ?_
  refine wp_skip ?_
  refine then_n ?_
  refine wp_seq ?_
  -- region 6 (its order is open)
  refine reg_still mixed (by kernel_rfl) ?_
  have hW := hW.drew
  have kp := kp.drew
  refine S1 (mv (v := .pointer _) rfl) ?_
  refine S1 (nilP rfl) ?_
  refine S1 (fa95_10 rfl) ?_
  refine S1 (ixA und91 sz5 rfl rfl (j := 0) rfl (by decide)) ?_
  refine S1 (ld5 rfl (hW.F.cellv (by decide) c0)) ?_
  refine S1 (cv5_3 rfl (wrap_s64 _ (by omega) (by omega))) ?_
  refine S1 (mv (v := .pointer _) rfl) ?_
  refine S1 (nilP rfl) ?_
  refine S1 (fa95_10 rfl) ?_
  refine S1 (ixA und91 sz5 rfl rfl (j := 1) rfl (by decide)) ?_
  refine S1 (ld5 rfl (hW.F.cellv (by decide) c1)) ?_
  refine S1 (cv5_3 rfl (wrap_s64 _ (by omega) (by omega))) ?_
  refine S1 (bi rfl rfl (bn_shl64 (n := 8) rfl rfl (by omega) (by omega))) ?_
  refine S1 (bi rfl rfl ((bn_or64 rfl rfl (by omega) (by omega)).trans (congrArg (fun x : Nat => pure (Value.int .i64 (x : Int))) (or_bytes _ _ hd0)))) ?_
  refine S1 (asg (v := .int _ _) rfl) ?_
  refine still_nil ?_
  refine then_n ?_
  refine wp_seq ?_
  -- region 7 (its order is open)
  refine reg_still mixed (by kernel_rfl) ?_
  have hW := hW.drew
  have kp := kp.drew
  refine S1 (mv (v := .pointer _) rfl) ?_
  refine S1 (nilP rfl) ?_
  refine S1 (fa95_10 rfl) ?_
  refine S1 (ixA und91 sz5 rfl rfl (j := 2) rfl (by decide)) ?_
  refine S1 (ld5 rfl (hW.F.cellv (by decide) c2)) ?_
  refine S1 (cv5_3 rfl (wrap_s64 _ (by omega) (by omega))) ?_
  refine S1 (mv (v := .pointer _) rfl) ?_
  refine S1 (nilP rfl) ?_
  refine S1 (fa95_10 rfl) ?_
  refine S1 (ixA und91 sz5 rfl rfl (j := 3) rfl (by decide)) ?_
  refine S1 (ld5 rfl (hW.F.cellv (by decide) c3)) ?_
  refine S1 (cv5_3 rfl (wrap_s64 _ (by omega) (by omega))) ?_
  refine S1 (bi rfl rfl (bn_shl64 (n := 8) rfl rfl (by omega) (by omega))) ?_
  refine S1 (bi rfl rfl ((bn_or64 rfl rfl (by omega) (by omega)).trans (congrArg (fun x : Nat => pure (Value.int .i64 (x : Int))) (or_bytes _ _ hd2)))) ?_
  refine S1 (asg (v := .int _ _) rfl) ?_
  refine still_nil ?_
  refine then_n ?_
  refine wp_seq ?_
  refine wp_seq ?_
  -- region 8
  refine reg_lit ?_
  refine L1 (mv (v := .int _ _) rfl) ?_
  refine L1 (cv3_37 rfl (wrap_u16n _ (by omega) (by omega))) ?_
  refine L1 (mv (v := .int _ _) rfl) ?_
  refine L1 (un_xor rfl (by omega)) ?_
  refine L1 (cv3_37 rfl (wrap_u16x _ (by omega))) ?_
  refine L1 (bi rfl rfl (bn_neq (v := true) (decide_eq_false (by omega)))) ?_
  refine wpList_nil ?_
  refine then_n ?_
  refine cond_t rfl ?_
  refine wp_seq ?_
  -- region 9
  refine reg_lit ?_
  refine L1 (mv (v := .pointer _) rfl) ?_
  refine L1 (mv (v := .pointer _) rfl) ?_
  refine L1 (nilP rfl) ?_
  refine L1 (fa95_2 rfl) ?_
  refine L1 (ld2 rfl (hW.F.cellv (v := .int _ _) (by decide) rfl)) ?_
  refine L1 (mkI107 rfl) ?_
  refine L1 (nilP rfl) ?_
  refine L1 (fa95_14 rfl) ?_
  refine Lst62 (v := .iface _ _) rfl rfl rfl hW.F (by decide) ?_
  intro w1 hb1 kp1
  have hW := hW.setF hE hb1 kp1
  have kp := kp.F kp1
  clear hb1 kp1
  refine wpList_nil ?_
  refine then_n ?_
  refine wp_ret ?_
  refine then_r ?_
  refine ret0 rfl ?_
  exact ⟨_, rfl, rfl, _, hW, ⟨_, rfl⟩, (((gs0_off E g pos _ (by omega)).mono (by simp)).upd (by simp) _).upd (by simp) _, kp⟩
theorem db_zero_more (E : Env) (w : World) (g hs bs cs : Nat → Value) (pos : Nat) (ro : Int) (hE : E.Ok) (hW : Wd E w g hs bs cs pos) (hS : Stc E g) (hro : g 2 = .int .i64 ro) (hp : pos + 4 ≤ E.N) (hb : E.d pos + 256 * E.d (pos + 1) + (E.d (pos + 2) + 256 * E.d (pos + 3)) = 65535) (hz : E.d pos + 256 * E.d (pos + 1) = 0) (no fl0 wr : Nat) (hnx : nx wr < 32768) (hDw : Dw E g no fl0 wr) (hf : g 1047 = .bool false) :
    Ret 42 [fp E] w fun v w' => v = .tuple #[] ∧ ∃ g', Wd E w' g' hs bs cs (pos + 4) ∧ (∃ x, g' 2 = .int .i64 x) ∧ g' 3 = .int .u32 0 ∧ g' 4 = .int .u64 0 ∧ g' 1045 = fnv 35 ∧ Dw E g' no no (nx wr) ∧ TR E g' fl0 no ∧ Off [2, 3, 4, 1041, 1042, 1043, 1044, 1038, 1039, 1040, 1049, 1045] g g' ∧ Kp E.L w w' := by
  have kp := Kp.refl E.L w
  have hN := hE.N47
  refine calls_fr (N := 98) Tryd.func42 rfl rfl (by simp [fp]) rfl ?_
  have hd := hE.d8
  have hd0 := hd pos
  have hd1 := hd (pos + 1)
  have hd2 := hd (pos + 2)
  have hd3 := hd (pos + 3)
  refine wp_seq ?_
  -- region 0
  refine reg_lit ?_
  refine L1 (mv (v := .pointer _) rfl) ?_
  refine L1 (nilP rfl) ?_
  refine L1 (fa95_4 rfl) ?_
  refine Lst38 (v := .int _ _) rfl rfl rfl hW.F (by decide) ?_
  intro w1 hb1 kp1
  have hW := hW.setF hE hb1 kp1
  have kp := kp.F kp1
  clear hb1 kp1
  refine wpList_nil ?_
  refine then_n ?_
  refine wp_seq ?_
  -- region 1
  refine reg_lit ?_
  refine L1 (mv (v := .pointer _) rfl) ?_
  refine L1 (nilP rfl) ?_
  refine L1 (fa95_3 rfl) ?_
  refine Lst82 (v := .int _ _) rfl rfl rfl hW.F (by decide) ?_
  intro w1 hb1 kp1
  have hW := hW.setF hE hb1 kp1
  have kp := kp.F kp1
  clear hb1 kp1
  refine wpList_nil ?_
  refine then_n ?_
  refine wp_seq ?_
  -- region 2 (its order is open)
  refine reg_mix [false, false, false, false, false, false, false, false, true, false, false, false, false, false] (fun w => w.cell? ⟨E.F, 0, none⟩ = some (.iface 43 (.pointer (some ⟨E.R, 0, none⟩)))) mixed (by kernel_rfl) ?_ ?_
  · exact (hW.drew.F.cellv (by decide) hS.r)
  have hW := hW.drew
  have kp := kp.drew
  refine T1 (fun w hC => mv (v := .pointer _) rfl) ?_
  refine T1 (fun w hC => nilP rfl) ?_
  refine T1 (fun w hC => fa95_0 rfl) ?_
  refine T1 (fun w hC => ld80 (v := .iface _ _) rfl hC) ?_
  refine T1 (fun w hC => mv (v := .pointer _) rfl) ?_
  refine T1 (fun w hC => nilP rfl) ?_
  refine T1 (fun w hC => fa95_10 rfl) ?_
  refine T1 (fun w hC => sl91 rfl rfl rfl) ?_
  refine EC (cl2 has49 rfl rfl rfl) (rdf_ok E _ pos hE hW.gl hW.rd E.F 1041 4 4 1054 95 _ hW.F hE.FR hE.FS hE.bF (by omega) (by omega) (by omega) (by decide) (by omega)) ?_
  rintro v w1 ⟨rfl, hrd, hh, kp1⟩
  have hW := hW.setFR' hE hh hrd kp1
  have kp := kp.trans (kp1.mono (by simp [Env.L]))
  clear kp1 hh hrd
  refine ⟨hW.F.cellv (by decide) ((gs0_off E g pos 4 (by omega) _ (by decide)).trans hS.r), ?_⟩
  have c0 : gs0 E g pos 4 1041 = .int .u8 (E.d (pos)) := rfl
  have c1 : gs0 E g pos 4 1042 = .int .u8 (E.d (pos + 1)) := rfl
  have c2 : gs0 E g pos 4 1043 = .int .u8 (E.d (pos + 2)) := rfl
  have c3 : gs0 E g pos 4 1044 = .int .u8 (E.d (pos + 3)) := rfl
  refine T1 (fun w hC => mv (v := .tuple _) rfl) ?_
  refine T1 (fun w hC => ext2_0 rfl) ?_
  refine T1 (fun w hC => ext2_1 rfl) ?_
  refine T1 (fun w hC => asg (v := .int _ _) rfl) ?_
  refine T1 (fun w hC => asg (v := .nilIface) rfl) ?_
  refine mix_nil ?_
  refine then_n ?_
  refine wp_seq ?_
  -- region 3
  refine reg_lit ?_
  refine L1 (mv (v := .pointer _) rfl) ?_
  refine L1 (nilP rfl) ?_
  refine L1 (fa95_2 rfl) ?_
  refine L1 (ld2 rfl (hW.F.cellv (by decide) hro)) ?_
  refine L1 (mv (v := .int _ _) rfl) ?_
  refine L1 (bi rfl rfl (bn_addw)) ?_
  refine L1 (nilP rfl) ?_
  refine L1 (fa95_2 rfl) ?_
  refine Lst2 (v := .int _ _) rfl rfl rfl hW.F (by decide) ?_
  intro w1 hb1 kp1
  have hW := hW.setF hE hb1 kp1
  have kp := kp.F kp1
  clear hb1 kp1
  refine wpList_nil ?_
  refine then_n ?_
  refine wp_seq ?_
  refine wp_seq ?_
  -- region 4
  refine reg_lit ?_
  refine L1 (mv (v := .nilIface) rfl) ?_
  refine L1 (en_nil rfl rfl) ?_
  refine wpList_nil ?_
  refine then_n ?_
  refine cond_f rfl ?_
  refine wp_skip ?_
  refine then_n ?_
  refine wp_seq ?_
  -- region 6 (its order is open)
  refine reg_still mixed (by kernel_rfl) ?_
  have hW := hW.drew
  have kp := kp.drew
  refine S1 (mv (v := .pointer _) rfl) ?_
  refine S1 (nilP rfl) ?_
  refine S1 (fa95_10 rfl) ?_
  refine S1 (ixA und91 sz5 rfl rfl (j := 0) rfl (by decide)) ?_
  refine S1 (ld5 rfl (hW.F.cellv (by decide) c0)) ?_
  refine S1 (cv5_3 rfl (wrap_s64 _ (by omega) (by omega))) ?_
  refine S1 (mv (v := .pointer _) rfl) ?_
  refine S1 (nilP rfl) ?_
  refine S1 (fa95_10 rfl) ?_
  refine S1 (ixA und91 sz5 rfl rfl (j := 1) rfl (by decide)) ?_
  refine S1 (ld5 rfl (hW.F.cellv (by decide) c1)) ?_
  refine S1 (cv5_3 rfl (wrap_s64 _ (by omega) (by omega))) ?_
  refine S1 (bi rfl rfl (bn_shl64 (n := 8) rfl rfl (by omega) (by omega))) ?_
  refine S1 (bi rfl rfl ((bn_or64 rfl rfl (by omega) (by omega)).trans (congrArg (fun x : Nat => pure (Value.int .i64 (x : Int))) (or_bytes _ _ hd0)))) ?_
  refine S1 (asg (v := .int _ _) rfl) ?_
  refine still_nil ?_
  refine then_n ?_
  refine wp_seq ?_
  -- region 7 (its order is open)
  refine reg_still mixed (by kernel_rfl) ?_
  have hW := hW.drew
  have kp := kp.drew
  refine S1 (mv (v := .pointer _) rfl) ?_
  refine S1 (nilP rfl) ?_
  refine S1 (fa95_10 rfl) ?_
  refine S1 (ixA und91 sz5 rfl rfl (j := 2) rfl (by decide)) ?_
  refine S1 (ld5 rfl (hW.F.cellv (by decide) c2)) ?_
  refine S1 (cv5_3 rfl (wrap_s64 _ (by omega) (by omega))) ?_
  refine S1 (mv (v := .pointer _) rfl) ?_
  refine S1 (nilP rfl) ?_
  refine S1 (fa95_10 rfl) ?_
  refine S1 (ixA und91 sz5 rfl rfl (j := 3) rfl (by decide)) ?_
  refine S1 (ld5 rfl (hW.F.cellv (by decide) c3)) ?_
  refine S1 (cv5_3 rfl (wrap_s64 _ (by omega) (by omega))) ?_
  refine S1 (bi rfl rfl (bn_shl64 (n := 8) rfl rfl (by omega) (by omega))) ?_
  refine S1 (bi rfl rfl ((bn_or64 rfl rfl (by omega) (by omega)).trans (congrArg (fun x : Nat => pure (Value.int .i64 (x : Int))) (or_bytes _ _ hd2)))) ?_
  refine S1 (asg (v := .int _ _) rfl) ?_
  refine still_nil ?_
  refine then_n ?_
  refine wp_seq ?_
  refine wp_seq ?_
  -- region 8
  refine reg_lit ?_
  refine L1 (mv (v := .int _ _) rfl) ?_
  refine L1 (cv3_37 rfl (wrap_u16n _ (by omega) (by omega))) ?_
  refine L1 (mv (v := .int _ _) rfl) ?_
  refine L1 (un_xor rfl (by omega)) ?_
  refine L1 (cv3_37 rfl (wrap_u16x _ (by omega))) ?_
  refine L1 (bi rfl rfl (bn_neq (v := false) (decide_eq_true (by omega)))) ?_
  refine wpList_nil ?_
  refine then_n ?_
  refine cond_f rfl ?_
  refine wp_skip ?_
  refine then_n ?_
  refine wp_seq ?_
  refine wp_seq ?_
  -- region 10
  refine reg_lit ?_
  refine L1 (mv (v := .int _ _) rfl) ?_
  refine L1 (bi rfl rfl (bn_eql (v := true) (decide_eq_true (by omega)))) ?_
  refine wpList_nil ?_
  refine then_n ?_
  refine cond_t rfl ?_
  refine wp_seq ?_
  -- region 11
  refine reg_lit ?_
  refine L1 (mv (v := .pointer _) rfl) ?_
  refine L1 (mv (v := .pointer _) rfl) ?_
  refine L1 (nilP rfl) ?_
  refine L1 (fa95_9 rfl) ?_
  refine LC (cl1 has50 rfl rfl) (rf_c E _ _ hs bs cs (pos + 4) no fl0 wr hE hW (hDw.off ((gs0_off E g pos 4 (by omega)).mono (by decide) |>.upd (k := 2) (by decide) _ : Off [2, 3, 4, 1041, 1042, 1043, 1044] g _) (by decide))) ?_
  rintro v w1 ⟨hv, g1, hW, hD1, ho, kp1⟩
  have kp := kp.trans kp1
  refine L1 (nilP rfl) ?_
  refine L1 (fa95_15 rfl) ?_
  refine Lst22 (v := v) rfl rfl (by obtain ⟨_, _, _, rfl, _⟩ := hv; rfl) hW.F (by decide) ?_
  intro w1 hb1 kp1
  have hW := hW.setF hE hb1 kp1
  have kp := kp.F kp1
  have ho1 : Off [2, 3, 4, 1041, 1042, 1043, 1044, 1038, 1039, 1040, 1049] g _ := ((((gs0_off E g pos 4 (by omega)).mono (by decide) |>.upd (k := 2) (by decide) _ : Off [2, 3, 4, 1041, 1042, 1043, 1044] g _).mono (by decide)).trans (ho.mono (by decide))).upd (k := 1049) (by decide) v
  have hD2 := hD1.off ((Off.refl [1049] g1).upd (k := 1049) (by decide) v) (by decide)
  have h3 : g1 3 = .int .u32 0 := (ho 3 (by decide)).trans rfl
  have h4 : g1 4 = .int .u64 0 := (ho 4 (by decide)).trans rfl
  have h2 : ∃ x, g1 2 = .int .i64 x := ⟨_, (ho 2 (by decide)).trans rfl⟩
  refine wpList_nil ?_
  refine then_n ?_
  refine wp_seq ?_
  -- region 12
  refine reg_lit ?_
  refine L1 (mv (v := .pointer _) rfl) ?_
  refine LC (cl1 has51 rfl rfl) (finish_more E _ _ hs bs cs (pos + 4) hE hW ((ho1 _ (by decide)).trans hf)) ?_
  rintro v w1 ⟨rfl, g2, hW, h45, ho2, kp1⟩
  have kp := kp.trans kp1
  refine wpList_nil ?_
  refine then_n ?_
  refine wp_ret ?_
  refine then_r ?_
  refine ret0 rfl ?_
  refine ⟨_, rfl, rfl, g2, hW, ?_, (ho2 _ (by decide)).trans h3, (ho2 _ (by decide)).trans h4, h45, hD2.off ho2 (by decide), ?_, (ho1.mono (by decide)).trans (ho2.mono (by decide)), kp⟩
  · obtain ⟨x, hx⟩ := h2
    exact ⟨x, (ho2 _ (by decide)).trans hx⟩
  · exact TR.off (g := upd g1 1049 v) hv ho2 (by decide)
theorem finish_last' (E : Env) (w : World) (g hs bs cs : Nat → Value) (pos : Nat) (hE : E.Ok) (hW : Wd E w g hs bs cs pos) (hf : g 1047 = .bool true) (n wr : Nat) (hw : wr < 32768) (hD : Dw E g n n wr) :
    Ret 51 [fp E] w fun v w' => v = .tuple #[] ∧ ∃ g', Wd E w' g' hs bs cs pos ∧ g' 1045 = fnv 35 ∧ g' 1048 = EOFv E ∧ Dw E g' n n wr ∧ Off [1045, 1048] g g' ∧ Kp E.L w w' := by
  have kp := Kp.refl E.L w
  have hD0 := hD
  obtain ⟨q, rd, h1, h2, h3, h4, h5⟩ := hD
  refine calls_fr (N := 25) Tryd.func51 rfl rfl (by simp [fp]) rfl ?_
  refine wp_seq ?_
  refine wp_seq ?_
  -- region 0
  refine reg_lit ?_
  refine L1 (mv (v := .pointer _) rfl) ?_
  refine L1 (nilP rfl) ?_
  refine L1 (fa95_13 rfl) ?_
  refine L1 (ld4 rfl (hW.F.cellv (by decide) hf)) ?_
  refine wpList_nil ?_
  refine then_n ?_
  refine cond_t rfl ?_
  refine wp_seq ?_
  refine wp_seq ?_
  -- region 1
  refine reg_lit ?_
  refine L1 (mv (v := .pointer _) rfl) ?_
  refine L1 (nilP rfl) ?_
  refine L1 (fa95_9 rfl) ?_
  refine LC (cl1 has62 rfl rfl) (availRead_c E _ g wr rd _ hW.F h5 h2 h3) ?_
  rintro v w1 ⟨rfl, rfl⟩
  have hW := hW.drew
  have kp := kp.drew
  refine L1 (bi rfl rfl (bn_gtr (v := false) (decide_eq_false (by omega)))) ?_
  refine wpList_nil ?_
  refine then_n ?_
  refine cond_f rfl ?_
  refine wp_skip ?_
  refine then_n ?_
  -- region 3
  refine reg_lit ?_
  refine L1 (mv (v := .pointer _) rfl) ?_
  refine L1 (ld62 (v := .iface _ _) rfl hW.gl.eof) ?_
  refine L1 (nilP rfl) ?_
  refine L1 (fa95_14 rfl) ?_
  refine Lst62 (v := .iface _ _) rfl rfl rfl hW.F (by decide) ?_
  intro w1 hb1 kp1
  have hW := hW.setF hE hb1 kp1
  have kp := kp.F kp1
  clear hb1 kp1
  refine wpList_nil ?_
  refine then_n ?_
  -- region 4
  refine reg_lit ?_
  refine L1 (mv (v := .pointer _) rfl) ?_
  refine L1 (nilP rfl) ?_
  refine L1 (fa95_11 rfl) ?_
  refine Lst92 (v := .func _ _ _) rfl rfl rfl hW.F (by decide) ?_
  intro w1 hb1 kp1
  have hW := hW.setF hE hb1 kp1
  have kp := kp.F kp1
  clear hb1 kp1
  refine wpList_nil ?_
  refine end0 rfl ?_
  refine ⟨_, rfl, rfl, _, hW, rfl, rfl, hD0.off (((Off.refl _ g).upd (k := 1048) (by decide) _).upd (k := 1045) (by decide) _ : Off [1045, 1048] g _) (by decide), ((Off.refl _ g).upd (by simp) _).upd (by simp) _, kp⟩
theorem db_zero_last (E : Env) (w : World) (g hs bs cs : Nat → Value) (pos : Nat) (ro : Int) (hE : E.Ok) (hW : Wd E w g hs bs cs pos) (hS : Stc E g) (hro : g 2 = .int .i64 ro) (hp : pos + 4 ≤ E.N) (hb : E.d pos + 256 * E.d (pos + 1) + (E.d (pos + 2) + 256 * E.d (pos + 3)) = 65535) (hz : E.d pos + 256 * E.d (pos + 1) = 0) (no fl0 wr : Nat) (hnx : nx wr < 32768) (hDw : Dw E g no fl0 wr) (hf : g 1047 = .bool true) :
    Ret 42 [fp E] w fun v w' => v = .tuple #[] ∧ ∃ g', Wd E w' g' hs bs cs (pos + 4) ∧ g' 1048 = EOFv E ∧ Dw E g' no no (nx wr) ∧ TR E g' fl0 no ∧ Off [2, 3, 4, 1041, 1042, 1043, 1044, 1038, 1039, 1040, 1049, 1045, 1048] g g' ∧ Kp E.L w w' := by
  have kp := Kp.refl E.L w
  have hN := hE.N47
  refine calls_fr (N := 98) Tryd.func42 rfl rfl (by simp [fp]) rfl ?_
  have hd := hE.d8
  have hd0 := hd pos
  have hd1 := hd (pos + 1)
  have hd2 := hd (pos + 2)
  have hd3 := hd (pos + 3)
  refine wp_seq ?_
  -- region 0
  refine reg_lit ?_
  refine L1 (mv (v := .pointer _) rfl) ?_
  refine L1 (nilP rfl) ?_
  refine L1 (fa95_4 rfl) ?_
  refine Lst38 (v := .int _ _) rfl rfl rfl hW.F (by decide) ?_
  intro w1 hb1 kp1
  have hW := hW.setF hE hb1 kp1
  have kp := kp.F kp1
  clear hb1 kp1
  refine wpList_nil ?_
  refine then_n ?_
  refine wp_seq ?_
  -- region 1
  refine reg_lit ?_
  refine L1 (mv (v := .pointer _) rfl) ?_
  refine L1 (nilP rfl) ?_
  refine L1 (fa95_3 rfl) ?_
  refine Lst82 (v := .int _ _) rfl rfl rfl hW.F (by decide) ?_
  intro w1 hb1 kp1
  have hW := hW.setF hE hb1 kp1
  have kp := kp.F kp1
  clear hb1 kp1
  refine wpList_nil ?_
  refine then_n ?_
  refine wp_seq ?_
  -- region 2 (its order is open)
  refine reg_mix [false, false, false, false, false, false, false, false, true, false, false, false, false, false] (fun w => w.cell? ⟨E.F, 0, none⟩ = some (.iface 43 (.pointer (some ⟨E.R, 0, none⟩)))) mixed (by kernel_rfl) ?_ ?_
  · exact (hW.drew.F.cellv (by decide) hS.r)
  have hW := hW.drew
  have kp := kp.drew
  refine T1 (fun w hC => mv (v := .pointer _) rfl) ?_
  refine T1 (fun w hC => nilP rfl) ?_
  refine T1 (fun w hC => fa95_0 rfl) ?_
  refine T1 (fun w hC => ld80 (v := .iface _ _) rfl hC) ?_
  refine T1 (fun w hC => mv (v := .pointer _) rfl) ?_
  refine T1 (fun w hC => nilP rfl) ?_
  refine T1 (fun w hC => fa95_10 rfl) ?_
  refine T1 (fun w hC => sl91 rfl rfl rfl) ?_
  refine EC (cl2 has49 rfl rfl rfl) (rdf_ok E _ pos hE hW.gl hW.rd E.F 1041 4 4 1054 95 _ hW.F hE.FR hE.FS hE.bF (by omega) (by omega) (by omega) (by decide) (by omega)) ?_
  rintro v w1 ⟨rfl, hrd, hh, kp1⟩
  have hW := hW.setFR' hE hh hrd kp1
  have kp := kp.trans (kp1.mono (by simp [Env.L]))
  clear kp1 hh hrd
  refine ⟨hW.F.cellv (by decide) ((gs0_off E g pos 4 (by omega) _ (by decide)).trans hS.r), ?_⟩
  have c0 : gs0 E g pos 4 1041 = .int .u8 (E.d (pos)) := rfl
  have c1 : gs0 E g pos 4 1042 = .int .u8 (E.d (pos + 1)) := rfl
  have c2 : gs0 E g pos 4 1043 = .int .u8 (E.d (pos + 2)) := rfl
  have c3 : gs0 E g pos 4 1044 = .int .u8 (E.d (pos + 3)) := rfl
  refine T1 (fun w hC => mv (v := .tuple _) rfl) ?_
  refine T1 (fun w hC => ext2_0 rfl) ?_
  refine T1 (fun w hC => ext2_1 rfl) ?_
  refine T1 (fun w hC => asg (v := .int _ _) rfl) ?_
  refine T1 (fun w hC => asg (v := .nilIface) rfl) ?_
  refine mix_nil ?_
  refine then_n ?_
  refine wp_seq ?_
  -- region 3
  refine reg_lit ?_
  refine L1 (mv (v := .pointer _) rfl) ?_
  refine L1 (nilP rfl) ?_
  refine L1 (fa95_2 rfl) ?_
  refine L1 (ld2 rfl (hW.F.cellv (by decide) hro)) ?_
  refine L1 (mv (v := .int _ _) rfl) ?_
  refine L1 (bi rfl rfl (bn_addw)) ?_
  refine L1 (nilP rfl) ?_
  refine L1 (fa95_2 rfl) ?_
  refine Lst2 (v := .int _ _) rfl rfl rfl hW.F (by decide) ?_
  intro w1 hb1 kp1
  have hW := hW.setF hE hb1 kp1
  have kp := kp.F kp1
  clear hb1 kp1
  refine wpList_nil ?_
  refine then_n ?_
  refine wp_seq ?_
  refine wp_seq ?_
  -- region 4
  refine reg_lit ?_
  refine L1 (mv (v := .nilIface) rfl) ?_
  refine L1 (en_nil rfl rfl) ?_
  refine wpList_nil ?_
  refine then_n ?_
  refine cond_f rfl ?_
  refine wp_skip ?_
  refine then_n ?_
  refine wp_seq ?_
  -- region 6 (its order is open)
  refine reg_still mixed (by kernel_rfl) ?_
  have hW := hW.drew
  have kp := kp.drew
  refine S1 (mv (v := .pointer _) rfl) ?_
  refine S1 (nilP rfl) ?_
  refine S1 (fa95_10 rfl) ?_
  refine S1 (ixA und91 sz5 rfl rfl (j := 0) rfl (by decide)) ?_
  refine S1 (ld5 rfl (hW.F.cellv (by decide) c0)) ?_
  refine S1 (cv5_3 rfl (wrap_s64 _ (by omega) (by omega))) ?_
  refine S1 (mv (v := .pointer _) rfl) ?_
  refine S1 (nilP rfl) ?_
  refine S1 (fa95_10 rfl) ?_
  refine S1 (ixA und91 sz5 rfl rfl (j := 1) rfl (by decide)) ?_
  refine S1 (ld5 rfl (hW.F.cellv (by decide) c1)) ?_
  refine S1 (cv5_3 rfl (wrap_s64 _ (by omega) (by omega))) ?_
  refine S1 (bi rfl rfl (bn_shl64 (n := 8) rfl rfl (by omega) (by omega))) ?_
  refine S1 (bi rfl rfl ((bn_or64 rfl rfl (by omega) (by omega)).trans (congrArg (fun x : Nat => pure (Value.int .i64 (x : Int))) (or_bytes _ _ hd0)))) ?_
  refine S1 (asg (v := .int _ _) rfl) ?_
  refine still_nil ?_
  refine then_n ?_
  refine wp_seq ?_
  -- region 7 (its order is open)
  refine reg_still mixed (by kernel_rfl) ?_
  have hW := hW.drew
  have kp := kp.drew
  refine S1 (mv (v := .pointer _) rfl) ?_
  refine S1 (nilP rfl) ?_
  refine S1 (fa95_10 rfl) ?_
  refine S1 (ixA und91 sz5 rfl rfl (j := 2) rfl (by decide)) ?_
  refine S1 (ld5 rfl (hW.F.cellv (by decide) c2)) ?_
  refine S1 (cv5_3 rfl (wrap_s64 _ (by omega) (by omega))) ?_
  refine S1 (mv (v := .pointer _) rfl) ?_
  refine S1 (nilP rfl) ?_
  refine S1 (fa95_10 rfl) ?_
  refine S1 (ixA und91 sz5 rfl rfl (j := 3) rfl (by decide)) ?_
  refine S1 (ld5 rfl (hW.F.cellv (by decide) c3)) ?_
  refine S1 (cv5_3 rfl (wrap_s64 _ (by omega) (by omega))) ?_
  refine S1 (bi rfl rfl (bn_shl64 (n := 8) rfl rfl (by omega) (by omega))) ?_
  refine S1 (bi rfl rfl ((bn_or64 rfl rfl (by omega) (by omega)).trans (congrArg (fun x : Nat => pure (Value.int .i64 (x : Int))) (or_bytes _ _ hd2)))) ?_
  refine S1 (asg (v := .int _ _) rfl) ?_
  refine still_nil ?_
  refine then_n ?_
  refine wp_seq ?_
  refine wp_seq ?_
  -- region 8
  refine reg_lit ?_
  refine L1 (mv (v := .int _ _) rfl) ?_
  refine L1 (cv3_37 rfl (wrap_u16n _ (by omega) (by omega))) ?_
  refine L1 (mv (v := .int _ _) rfl) ?_
  refine L1 (un_xor rfl (by omega)) ?_
  refine L1 (cv3_37 rfl (wrap_u16x _ (by omega))) ?_
  refine L1 (bi rfl rfl (bn_neq (v := false) (decide_eq_true (by omega)))) ?_
  refine wpList_nil ?_
  refine then_n ?_
  refine cond_f rfl ?_
  refine wp_skip ?_
  refine then_n ?_
  refine wp_seq ?_
  refine wp_seq ?_
  -- region 10
  refine reg_lit ?_
  refine L1 (mv (v := .int _ _) rfl) ?_
  refine L1 (bi rfl rfl (bn_eql (v := true) (decide_eq_true (by omega)))) ?_
  refine wpList_nil ?_
  refine then_n ?_
  refine cond_t rfl ?_
  refine wp_seq ?_
  -- region 11
  refine reg_lit ?_
  refine L1 (mv (v := .pointer _) rfl) ?_
  refine L1 (mv (v := .pointer _) rfl) ?_
  refine L1 (nilP rfl) ?_
  refine L1 (fa95_9 rfl) ?_
  refine LC (cl1 has50 rfl rfl) (rf_c E _ _ hs bs cs (pos + 4) no fl0 wr hE hW (hDw.off ((gs0_off E g pos 4 (by omega)).mono (by decide) |>.upd (k := 2) (by decide) _ : Off [2, 3, 4, 1041, 1042, 1043, 1044] g _) (by decide))) ?_
  rintro v w1 ⟨hv, g1, hW, hD1, ho, kp1⟩
  have kp := kp.trans kp1
  refine L1 (nilP rfl) ?_
  refine L1 (fa95_15 rfl) ?_
  refine Lst22 (v := v) rfl rfl (by obtain ⟨_, _, _, rfl, _⟩ := hv; rfl) hW.F (by decide) ?_
  intro w1 hb1 kp1
  have hW := hW.setF hE hb1 kp1
  have kp := kp.F kp1
  have ho1 : Off [2, 3, 4, 1041, 1042, 1043, 1044, 1038, 1039, 1040, 1049] g _ := ((((gs0_off E g pos 4 (by omega)).mono (by decide) |>.upd (k := 2) (by decide) _ : Off [2, 3, 4, 1041, 1042, 1043, 1044] g _).mono (by decide)).trans (ho.mono (by decide))).upd (k := 1049) (by decide) v
  have hD2 := hD1.off ((Off.refl [1049] g1).upd (k := 1049) (by decide) v) (by decide)
  have h3 : g1 3 = .int .u32 0 := (ho 3 (by decide)).trans rfl
  have h4 : g1 4 = .int .u64 0 := (ho 4 (by decide)).trans rfl
  have h2 : ∃ x, g1 2 = .int .i64 x := ⟨_, (ho 2 (by decide)).trans rfl⟩
  refine wpList_nil ?_
  refine then_n ?_
  refine wp_seq ?_
  -- region 12
  refine reg_lit ?_
  refine L1 (mv (v := .pointer _) rfl) ?_
  refine LC (cl1 has51 rfl rfl) (finish_last' E _ _ hs bs cs (pos + 4) hE hW ((ho1 _ (by decide)).trans hf) no (nx wr) hnx hD2) ?_
  rintro v w1 ⟨rfl, g2, hW, h45, h48, hD3, ho2, kp1⟩
  have kp := kp.trans kp1
  refine wpList_nil ?_
  refine then_n ?_
  refine wp_ret ?_
  refine then_r ?_
  refine ret0 rfl ?_
  refine ⟨_, rfl, rfl, g2, hW, h48, hD3, ?_, (ho1.mono (by decide)).trans (ho2.mono (by decide)), kp⟩
  exact TR.off (g := upd g1 1049 v) hv ho2 (by decide)
theorem db_data (E : Env) (w : World) (g hs bs cs : Nat → Value) (pos : Nat) (ro : Int) (hE : E.Ok) (hW : Wd E w g hs bs cs pos) (hS : Stc E g) (hro : g 2 = .int .i64 ro) (hp : pos + 4 ≤ E.N) (hb : E.d pos + 256 * E.d (pos + 1) + (E.d (pos + 2) + 256 * E.d (pos + 3)) = 65535) (hz : E.d pos + 256 * E.d (pos + 1) ≠ 0) (Q : World → Prop)
    (hcall : ∀ w1 g1, Wd E w1 g1 hs bs cs (pos + 4) → g1 3 = .int .u32 0 → g1 4 = .int .u64 0 → g1 1052 = .int .i64 ((E.d pos + 256 * E.d (pos + 1) : Nat) : Int) → (∃ x, g1 2 = .int .i64 x) → Off [2, 3, 4, 1041, 1042, 1043, 1044, 1052] g g1 → Kp E.L w w1 → Ret 52 [fp E] w1 fun v w' => v = .tuple #[] ∧ Q w') :
    Ret 42 [fp E] w fun v w' => v = .tuple #[] ∧ Q w' := by
  have kp := Kp.refl E.L w
  have hN := hE.N47
  refine calls_fr (N := 98) Tryd.func42 rfl rfl (by simp [fp]) rfl ?_
  have hd := hE.d8
  have hd0 := hd pos
  have hd1 := hd (pos + 1)
  have hd2 := hd (pos + 2)
  have hd3 := hd (pos + 3)
  refine wp_seq ?_
  -- region 0
  refine reg_lit ?_
  refine L1 (mv (v := .pointer _) rfl) ?_
  refine L1 (nilP rfl) ?_
  refine L1 (fa95_4 rfl) ?_
  refine Lst38 (v := .int _ _) rfl rfl rfl hW.F (by decide) ?_
  intro w1 hb1 kp1
  have hW := hW.setF hE hb1 kp1
  have kp := kp.F kp1
  clear hb1 kp1
  refine wpList_nil ?_
  refine then_n ?_
  refine wp_seq ?_
  -- region 1
  refine reg_lit ?_
  refine L1 (mv (v := .pointer _) rfl) ?_
  refine L1 (nilP rfl) ?_
  refine L1 (fa95_3 rfl) ?_
  refine Lst82 (v := .int _ _) rfl rfl rfl hW.F (by decide) ?_
  intro w1 hb1 kp1
  have hW := hW.setF hE hb1 kp1
  have kp := kp.F kp1
  clear hb1 kp1
  refine wpList_nil ?_
  refine then_n ?_
  refine wp_seq ?_
  -- region 2 (its order is open)
  refine reg_mix [false, false, false, false, false, false, false, false, true, false, false, false, false, false] (fun w => w.cell? ⟨E.F, 0, none⟩ = some (.iface 43 (.pointer (some ⟨E.R, 0, none⟩)))) mixed (by kernel_rfl) ?_ ?_
  · exact (hW.drew.F.cellv (by decide) hS.r)
  have hW := hW.drew
  have kp := kp.drew
  refine T1 (fun w hC => mv (v := .pointer _) rfl) ?_
  refine T1 (fun w hC => nilP rfl) ?_
  refine T1 (fun w hC => fa95_0 rfl) ?_
  refine T1 (fun w hC => ld80 (v := .iface _ _) rfl hC) ?_
  refine T1 (fun w hC => mv (v := .pointer _) rfl) ?_
  refine T1 (fun w hC => nilP rfl) ?_
  refine T1 (fun w hC => fa95_10 rfl) ?_
  refine T1 (fun w hC => sl91 rfl rfl rfl) ?_
  refine EC (cl2 has49 rfl rfl rfl) (rdf_ok E _ pos hE hW.gl hW.rd E.F 1041 4 4 1054 95 _ hW.F hE.FR hE.FS hE.bF (by omega) (by omega) (by omega) (by decide) (by omega)) ?_
  rintro v w1 ⟨rfl, hrd, hh, kp1⟩
  have hW := hW.setFR' hE hh hrd kp1
  have kp := kp.trans (kp1.mono (by simp [Env.L]))
  clear kp1 hh hrd
  refine ⟨hW.F.cellv (by decide) ((gs0_off E g pos 4 (by omega) _ (by decide)).trans hS.r), ?_⟩
  have c0 : gs0 E g pos 4 1041 = .int .u8 (E.d (pos)) := rfl
  have c1 : gs0 E g pos 4 1042 = .int .u8 (E.d (pos + 1)) := rfl
  have c2 : gs0 E g pos 4 1043 = .int .u8 (E.d (pos + 2)) := rfl
  have c3 : gs0 E g pos 4 1044 = .int .u8 (E.d (pos + 3)) := rfl
  refine T1 (fun w hC => mv (v := .tuple _) rfl) ?_
  refine T1 (fun w hC => ext2_0 rfl) ?_
  refine T1 (fun w hC => ext2_1 rfl) ?_
  refine T1 (fun w hC => asg (v := .int _ _) rfl) ?_
  refine T1 (fun w hC => asg (v := .nilIface) rfl) ?_
  refine mix_nil ?_
  refine then_n ?_
  refine wp_seq ?_
  -- region 3
  refine reg_lit ?_
  refine L1 (mv (v := .pointer _) rfl) ?_
  refine L1 (nilP rfl) ?_
  refine L1 (fa95_2 rfl) ?_
  refine L1 (ld2 rfl (hW.F.cellv (by decide) hro)) ?_
  refine L1 (mv (v := .int _ _) rfl) ?_
  refine L1 (bi rfl rfl (bn_addw)) ?_
  refine L1 (nilP rfl) ?_
  refine L1 (fa95_2 rfl) ?_
  refine Lst2 (v := .int _ _) rfl rfl rfl hW.F (by decide) ?_
  intro w1 hb1 kp1
  have hW := hW.setF hE hb1 kp1
  have kp := kp.F kp1
  clear hb1 kp1
  refine wpList_nil ?_
  refine then_n ?_
  refine wp_seq ?_
  refine wp_seq ?_
  -- region 4
  refine reg_lit ?_
  refine L1 (mv (v := .nilIface) rfl) ?_
  refine L1 (en_nil rfl rfl) ?_
  refine wpList_nil ?_
  refine then_n ?_
  refine cond_f rfl ?_
  refine wp_skip ?_
  refine then_n ?_
  refine wp_seq ?_
  -- region 6 (its order is open)
  refine reg_still mixed (by kernel_rfl) ?_
  have hW := hW.drew
  have kp := kp.drew
  refine S1 (mv (v := .pointer _) rfl) ?_
  refine S1 (nilP rfl) ?_
  refine S1 (fa95_10 rfl) ?_
  refine S1 (ixA und91 sz5 rfl rfl (j := 0) rfl (by decide)) ?_
  refine S1 (ld5 rfl (hW.F.cellv (by decide) c0)) ?_
  refine S1 (cv5_3 rfl (wrap_s64 _ (by omega) (by omega))) ?_
  refine S1 (mv (v := .pointer _) rfl) ?_
  refine S1 (nilP rfl) ?_
  refine S1 (fa95_10 rfl) ?_
  refine S1 (ixA und91 sz5 rfl rfl (j := 1) rfl (by decide)) ?_
  refine S1 (ld5 rfl (hW.F.cellv (by decide) c1)) ?_
  refine S1 (cv5_3 rfl (wrap_s64 _ (by omega) (by omega))) ?_
  refine S1 (bi rfl rfl (bn_shl64 (n := 8) rfl rfl (by omega) (by omega))) ?_
  refine S1 (bi rfl rfl ((bn_or64 rfl rfl (by omega) (by omega)).trans (congrArg (fun x : Nat => pure (Value.int .i64 (x : Int))) (or_bytes _ _ hd0)))) ?_
  refine S1 (asg (v := .int _ _) rfl) ?_
  refine still_nil ?_
  refine then_n ?_
  refine wp_seq ?_
  -- region 7 (its order is open)
  refine reg_still mixed (by kernel_rfl) ?_
  have hW := hW.drew
  have kp := kp.drew
  refine S1 (mv (v := .pointer _) rfl) ?_
  refine S1 (nilP rfl) ?_
  refine S1 (fa95_10 rfl) ?_
  refine S1 (ixA und91 sz5 rfl rfl (j := 2) rfl (by decide)) ?_
  refine S1 (ld5 rfl (hW.F.cellv (by decide) c2)) ?_
  refine S1 (cv5_3 rfl (wrap_s64 _ (by omega) (by omega))) ?_
  refine S1 (mv (v := .pointer _) rfl) ?_
  refine S1 (nilP rfl) ?_
  refine S1 (fa95_10 rfl) ?_
  refine S1 (ixA und91 sz5 rfl rfl (j := 3) rfl (by decide)) ?_
  refine S1 (ld5 rfl (hW.F.cellv (by decide) c3)) ?_
  refine S1 (cv5_3 rfl (wrap_s64 _ (by omega) (by omega))) ?_
  refine S1 (bi rfl rfl (bn_shl64 (n := 8) rfl rfl (by omega) (by omega))) ?_
  refine S1 (bi rfl rfl ((bn_or64 rfl rfl (by omega) (by omega)).trans (congrArg (fun x : Nat => pure (Value.int .i64 (x : Int))) (or_bytes _ _ hd2)))) ?_
  refine S1 (asg (v := .int _ _) rfl) ?_
  refine still_nil ?_
  refine then_n ?_
  refine wp_seq ?_
  refine wp_seq ?_
  -- region 8
  refine reg_lit ?_
  refine L1 (mv (v := .int _ _) rfl) ?_
  refine L1 (cv3_37 rfl (wrap_u16n _ (by omega) (by omega))) ?_
  refine L1 (mv (v := .int _ _) rfl) ?_
  refine L1 (un_xor rfl (by omega)) ?_
  refine L1 (cv3_37 rfl (wrap_u16x _ (by omega))) ?_
  refine L1 (bi rfl rfl (bn_neq (v := false) (decide_eq_true (by omega)))) ?_
  refine wpList_nil ?_
  refine then_n ?_
  refine cond_f rfl ?_
  refine wp_skip ?_
  refine then_n ?_
  refine wp_seq ?_
  refine wp_seq ?_
  -- region 10
  refine reg_lit ?_
  refine L1 (mv (v := .int _ _) rfl) ?_
  refine L1 (bi rfl rfl (bn_eql (v := false) (decide_eq_false (by omega)))) ?_
  refine wpList_nil ?_
  refine then_n ?_
  refine cond_f rfl ?_
  refine wp_skip ?_
  refine then_n ?_
  refine wp_seq ?_
  -- region 13
  refine reg_lit ?_
  refine L1 (mv (v := .pointer _) rfl) ?_
  refine L1 (mv (v := .int _ _) rfl) ?_
  refine L1 (nilP rfl) ?_
  refine L1 (fa95_18 rfl) ?_
  refine Lst3 (v := .int _ _) rfl rfl rfl hW.F (by decide) ?_
  intro w1 hb1 kp1
  have hW := hW.setF hE hb1 kp1
  have kp := kp.F kp1
  clear hb1 kp1
  refine wpList_nil ?_
  refine then_n ?_
  -- region 14
  refine reg_lit ?_
  refine L1 (mv (v := .pointer _) rfl) ?_
  refine LC (cl1 has52 rfl rfl) (hcall _ _ hW rfl rfl rfl ⟨_, rfl⟩ ((((gs0_off E g pos 4 (by omega)).mono (by simp)).upd (by simp) _).upd (by simp) _) kp) ?_
  rintro v w1 ⟨rfl, hQ⟩
  refine wpList_nil ?_
  refine end0 rfl ?_
  exact ⟨_, rfl, rfl, hQ⟩
end Go.Proofs.YtejeloeaklpinaaDoor
