/- Texts of this claim, merged and shortened by gen/pack.py: Stored, Stored2, Next, Next2, Goes, Read, New0, App, New1, New2, New3, Drain, Inf, Close, Close2, Kind, StLaw, StWalk, Sv, Sym, Rev. -/
import Derived.Test.YtejeloeaklpinaaDoorFm1
import Derived.Laws.OwnMore
import Derived.Deep.OwnRows
import Derived.Test.YtejeloeaklpinaaDoorCards
import Derived.Test.YtejeloeaklpinaaDoorTie
import Derived.ProofKit
import Derived.OpenShut
import Derived.ChangeVars
import Derived.Carry
import Derived.Deep.Slices
import Derived.Deep.DeepHandedRow
import Derived.Deep.DeepWitnessRowRef
import Derived.Stop.LaidErr
import Derived.Lib.LaidTab
import Derived.SizedLaws
import Derived.Laws.BytesString
namespace Go.Proofs.YtejeloeaklpinaaDoor
attribute [local irreducible] wpList wpStill wpMix Code.wp Calls fr
theorem Wd.setFR' {E : Env} {w w1 : World} {g hs bs cs g' : Nat → Value} {pos pos' : Nat} (h : Wd E w g hs bs cs pos) (hE : E.Ok) (hF : Bk w1 E.F 1054 95 g') (hR : Rd E w1 pos') (k : Kp [E.R, E.F] w w1) : Wd E w1 g' hs bs cs pos' :=
 h.setFR hE hF hR (k.mono (by simp))
/-- The reader's block behind the two stores and the four bytes. -/
def gs0 (E : Env) (g : Nat → Value) (pos k : Nat) : Nat → Value := cpd E (upd (upd g 4 (.int .u64 0)) 3 (.int .u32 0)) 1041 pos k
theorem gs0_off (E : Env) (g : Nat → Value) (pos k : Nat) (hk : k ≤ 4) : Off [3, 4, 1041, 1042, 1043, 1044] g (gs0 E g pos k) := by
 intro j hj
 simp only [List.mem_cons, List.not_mem_nil, or_false, not_or] at hj
 unfold gs0 cpd
 rw [if_neg (by omega), upd_ne _ _ _ _ (by omega), upd_ne _ _ _ _ (by omega)]
theorem db_short (E : Env) (w : World) (g hs bs cs : Nat → Value) (pos : Nat) (ro : Int) (hE : E.Ok) (hW : Wd E w g hs bs cs pos) (hS : Stc E g) (hro : g 2 = .int .i64 ro) (hle : pos ≤ E.N) (hp : E.N < pos + 4) :
  Ret 42 [fp E] w fun v w' => v = .tuple #[] ∧ ∃ g', Wd E w' g' hs bs cs E.N ∧ g' 1048 = UEOFv E ∧ Off [2, 3, 4, 1041, 1042, 1043, 1044, 1048] g g' ∧ Kp E.L w w' := by
 have kp := Kp.refl E.L w
 have hN := hE.N47
 refine calls_fr (N := 98) Tryd.func42 rfl rfl (by simp [fp]) rfl ?_
 refine sqr ?_
 refine Mp rfl ?_
 refine Np rfl ?_
 refine L1 (fa95_4 rfl) ?_
 refine Lst38 (v := .int _ _) rfl rfl rfl hW.F (by decide) ?_
 intro w1 hb1 kp1
 have hW := hW.setF hE hb1 kp1
 have kp := kp.F kp1
 clear hb1 kp1
 refine nt ?_
 refine sqr ?_
 refine Mp rfl ?_
 refine Np rfl ?_
 refine L1 (fa95_3 rfl) ?_
 refine Lst82 (v := .int _ _) rfl rfl rfl hW.F (by decide) ?_
 intro w1 hb1 kp1
 have hW := hW.setF hE hb1 kp1
 have kp := kp.F kp1
 clear hb1 kp1
 refine nt ?_
 refine wp_seq ?_
 refine reg_mix [false, false, false, false, false, false, false, false, true, false, false, false, false, false] (fun w => w.cell? ⟨E.F, 0, none⟩ = some (.iface 43 (.pointer (some ⟨E.R, 0, none⟩)))) mixed (by kernel_rfl) ?_ ?_
 ·exact (hW.drew.F.cellv (by decide) hS.r)
 have hW := hW.drew
 have kp := kp.drew
 refine T1 (fun w hC => mv (v := .pointer _) rfl) ?_
 refine T1 (fun w hC => nilP rfl) ?_
 refine T1 (fun w hC => fa95_0 rfl) ?_
 refine T1 (fun w hC => ld80 (v := .iface _ _) rfl hC) ?_
 refine T1 (fun w hC => mv (v := .pointer _) rfl) ?_
 refine T1 (fun w hC => nilP rfl) ?_
 refine T1 (fun w hC => fa95_10 rfl) ?_
 refine T1 (fun w hC => sl91 rfl rfl rfl) ?_
 refine EC (cl2 has49 rfl rfl rfl) (rdf_short' E _ pos hE hW.gl hW.rd E.F 1041 4 4 1054 95 _ hW.F hE.FR hE.FS hE.bF (by omega) (by omega) (by omega) (by decide) (by omega)) ?_
 rintro v w1 ⟨ex, hex, rfl, hrd, hh, kp1⟩
 have hW := hW.setFR' hE hh hrd kp1
 have kp := kp.trans (kp1.mono (by simp [Env.L]))
 clear kp1 hh hrd
 refine ⟨hW.F.cellv (by decide) ((gs0_off E g pos _ (by omega) _ (by decide)).trans hS.r), ?_⟩
 refine T1 (fun w hC => mv (v := .tuple _) rfl) ?_
 refine T1 (fun w hC => ext2_0 rfl) ?_
 refine T1 (fun w hC => ext2_1 rfl) ?_
 refine T1 (fun w hC => asg (v := .int _ _) rfl) ?_
 refine T1 (fun w hC => asg (v := .iface _ _) rfl) ?_
 refine mix_nil ?_
 refine then_n ?_
 refine sqr ?_
 refine Mp rfl ?_
 refine Np rfl ?_
 refine L1 (fa95_2 rfl) ?_
 refine L1 (ld2 rfl (hW.F.cellv (by decide) hro)) ?_
 refine Mi rfl ?_
 refine L1 (bi rfl rfl (bn_addw)) ?_
 refine Np rfl ?_
 refine L1 (fa95_2 rfl) ?_
 refine Lst2 (v := .int _ _) rfl rfl rfl hW.F (by decide) ?_
 intro w1 hb1 kp1
 have hW := hW.setF hE hb1 kp1
 have kp := kp.F kp1
 clear hb1 kp1
 refine nt ?_
 refine wp_seq ?_
 refine sqr ?_
 refine L1 (mv (v := .iface _ _) rfl) ?_
 refine L1 (en_held rfl rfl) ?_
 refine nt ?_
 refine cond_t rfl ?_
 refine sqr ?_
 refine Mp rfl ?_
 refine L1 (mv (v := .iface _ _) rfl) ?_
 refine LC (cl1 has48 rfl rfl) (noEOF_any E _ hW.gl ex hex) ?_
 rintro v w1 ⟨rfl, rfl⟩
 refine Np rfl ?_
 refine L1 (fa95_14 rfl) ?_
 refine Lst62 (v := (UEOFv E)) rfl rfl rfl hW.F (by decide) ?_
 intro w1 hb1 kp1
 have hW := hW.setF hE hb1 kp1
 have kp := kp.F kp1
 clear hb1 kp1
 refine nt ?_
 refine wp_ret ?_
 refine then_r ?_
 refine ret0 rfl ?_
 exact ⟨_, rfl, rfl, _, hW, rfl, (((gs0_off E g pos _ (by omega)).mono (by simp)).upd (by simp) _).upd (by simp) _, kp⟩
theorem db_bad (E : Env) (w : World) (g hs bs cs : Nat → Value) (pos : Nat) (ro : Int) (hE : E.Ok) (hW : Wd E w g hs bs cs pos) (hS : Stc E g) (hro : g 2 = .int .i64 ro) (hp : pos + 4 ≤ E.N) (hb : E.d pos + 256 * E.d (pos + 1) + (E.d (pos + 2) + 256 * E.d (pos + 3)) ≠ 65535) :
  Ret 42 [fp E] w fun v w' => v = .tuple #[] ∧ ∃ g', Wd E w' g' hs bs cs (pos + 4) ∧ (∃ x, g' 1048 = .iface 107 (.int .i64 x)) ∧ Off [2, 3, 4, 1041, 1042, 1043, 1044, 1048] g g' ∧ Kp E.L w w' := by
 have kp := Kp.refl E.L w
 have hN := hE.N47
 refine calls_fr (N := 98) Tryd.func42 rfl rfl (by simp [fp]) rfl ?_
 have hd := hE.d8
 have hd0 := hd pos
 have hd1 := hd (pos + 1)
 have hd2 := hd (pos + 2)
 have hd3 := hd (pos + 3)
 refine sqr ?_
 refine Mp rfl ?_
 refine Np rfl ?_
 refine L1 (fa95_4 rfl) ?_
 refine Lst38 (v := .int _ _) rfl rfl rfl hW.F (by decide) ?_
 intro w1 hb1 kp1
 have hW := hW.setF hE hb1 kp1
 have kp := kp.F kp1
 clear hb1 kp1
 refine nt ?_
 refine sqr ?_
 refine Mp rfl ?_
 refine Np rfl ?_
 refine L1 (fa95_3 rfl) ?_
 refine Lst82 (v := .int _ _) rfl rfl rfl hW.F (by decide) ?_
 intro w1 hb1 kp1
 have hW := hW.setF hE hb1 kp1
 have kp := kp.F kp1
 clear hb1 kp1
 refine nt ?_
 refine wp_seq ?_
 refine reg_mix [false, false, false, false, false, false, false, false, true, false, false, false, false, false] (fun w => w.cell? ⟨E.F, 0, none⟩ = some (.iface 43 (.pointer (some ⟨E.R, 0, none⟩)))) mixed (by kernel_rfl) ?_ ?_
 ·exact (hW.drew.F.cellv (by decide) hS.r)
 have hW := hW.drew
 have kp := kp.drew
 refine T1 (fun w hC => mv (v := .pointer _) rfl) ?_
 refine T1 (fun w hC => nilP rfl) ?_
 refine T1 (fun w hC => fa95_0 rfl) ?_
 refine T1 (fun w hC => ld80 (v := .iface _ _) rfl hC) ?_
 refine T1 (fun w hC => mv (v := .pointer _) rfl) ?_
 refine T1 (fun w hC => nilP rfl) ?_
 refine T1 (fun w hC => fa95_10 rfl) ?_
 refine T1 (fun w hC => sl91 rfl rfl rfl) ?_
 refine EC (cl2 has49 rfl rfl rfl) (rdf_ok E _ pos hE hW.gl hW.rd E.F 1041 4 4 1054 95 _ hW.F hE.FR hE.FS hE.bF (by omega) (by omega) (by omega) (by decide) (by omega)) ?_
 rintro v w1 ⟨rfl, hrd, hh, kp1⟩
 have hW := hW.setFR' hE hh hrd kp1
 have kp := kp.trans (kp1.mono (by simp [Env.L]))
 clear kp1 hh hrd
 refine ⟨hW.F.cellv (by decide) ((gs0_off E g pos 4 (by omega) _ (by decide)).trans hS.r), ?_⟩
 have c0 : gs0 E g pos 4 1041 = .int .u8 (E.d (pos)) := rfl
 have c1 : gs0 E g pos 4 1042 = .int .u8 (E.d (pos + 1)) := rfl
 have c2 : gs0 E g pos 4 1043 = .int .u8 (E.d (pos + 2)) := rfl
 have c3 : gs0 E g pos 4 1044 = .int .u8 (E.d (pos + 3)) := rfl
 refine T1 (fun w hC => mv (v := .tuple _) rfl) ?_
 refine T1 (fun w hC => ext2_0 rfl) ?_
 refine T1 (fun w hC => ext2_1 rfl) ?_
 refine T1 (fun w hC => asg (v := .int _ _) rfl) ?_
 refine T1 (fun w hC => asg (v := .nilIface) rfl) ?_
 refine mix_nil ?_
 refine then_n ?_
 refine sqr ?_
 refine Mp rfl ?_
 refine Np rfl ?_
 refine L1 (fa95_2 rfl) ?_
 refine L1 (ld2 rfl (hW.F.cellv (by decide) hro)) ?_
 refine Mi rfl ?_
 refine L1 (bi rfl rfl (bn_addw)) ?_
 refine Np rfl ?_
 refine L1 (fa95_2 rfl) ?_
 refine Lst2 (v := .int _ _) rfl rfl rfl hW.F (by decide) ?_
 intro w1 hb1 kp1
 have hW := hW.setF hE hb1 kp1
 have kp := kp.F kp1
 clear hb1 kp1
 refine nt ?_
 refine wp_seq ?_
 refine sqr ?_
 refine L1 (mv (v := .nilIface) rfl) ?_
 refine L1 (en_nil rfl rfl) ?_
 refine nt ?_
 refine cond_f rfl ?_
 refine skn ?_
 refine wp_seq ?_
 refine reg_still mixed (by kernel_rfl) ?_
 have hW := hW.drew
 have kp := kp.drew
 refine S1 (mv (v := .pointer _) rfl) ?_
 refine S1 (nilP rfl) ?_
 refine S1 (fa95_10 rfl) ?_
 refine S1 (ixA und91 sz5 rfl rfl (j := 0) rfl (by decide)) ?_
 refine S1 (ld5 rfl (hW.F.cellv (by decide) c0)) ?_
 refine S1 (cv5_3 rfl (wrap_s64 _ (by omega) (by omega))) ?_
 refine S1 (mv (v := .pointer _) rfl) ?_
 refine S1 (nilP rfl) ?_
 refine S1 (fa95_10 rfl) ?_
 refine S1 (ixA und91 sz5 rfl rfl (j := 1) rfl (by decide)) ?_
 refine S1 (ld5 rfl (hW.F.cellv (by decide) c1)) ?_
 refine S1 (cv5_3 rfl (wrap_s64 _ (by omega) (by omega))) ?_
 refine S1 (bi rfl rfl (bn_shl64 (n := 8) rfl rfl (by omega) (by omega))) ?_
 refine S1 (bi rfl rfl ((bn_or64 rfl rfl (by omega) (by omega)).trans (congrArg (fun x : Nat => pure (Value.int .i64 (x : Int))) (or_bytes _ _ hd0)))) ?_
 refine S1 (asg (v := .int _ _) rfl) ?_
 refine still_nil ?_
 refine then_n ?_
 refine wp_seq ?_
 refine reg_still mixed (by kernel_rfl) ?_
 have hW := hW.drew
 have kp := kp.drew
 refine S1 (mv (v := .pointer _) rfl) ?_
 refine S1 (nilP rfl) ?_
 refine S1 (fa95_10 rfl) ?_
 refine S1 (ixA und91 sz5 rfl rfl (j := 2) rfl (by decide)) ?_
 refine S1 (ld5 rfl (hW.F.cellv (by decide) c2)) ?_
 refine S1 (cv5_3 rfl (wrap_s64 _ (by omega) (by omega))) ?_
 refine S1 (mv (v := .pointer _) rfl) ?_
 refine S1 (nilP rfl) ?_
 refine S1 (fa95_10 rfl) ?_
 refine S1 (ixA und91 sz5 rfl rfl (j := 3) rfl (by decide)) ?_
 refine S1 (ld5 rfl (hW.F.cellv (by decide) c3)) ?_
 refine S1 (cv5_3 rfl (wrap_s64 _ (by omega) (by omega))) ?_
 refine S1 (bi rfl rfl (bn_shl64 (n := 8) rfl rfl (by omega) (by omega))) ?_
 refine S1 (bi rfl rfl ((bn_or64 rfl rfl (by omega) (by omega)).trans (congrArg (fun x : Nat => pure (Value.int .i64 (x : Int))) (or_bytes _ _ hd2)))) ?_
 refine S1 (asg (v := .int _ _) rfl) ?_
 refine still_nil ?_
 refine then_n ?_
 refine wp_seq ?_
 refine sqr ?_
 refine Mi rfl ?_
 refine L1 (cv3_37 rfl (wrap_u16n _ (by omega) (by omega))) ?_
 refine Mi rfl ?_
 refine L1 (un_xor rfl (by omega)) ?_
 refine L1 (cv3_37 rfl (wrap_u16x _ (by omega))) ?_
 refine L1 (bi rfl rfl (bn_neq (v := true) (decide_eq_false (by omega)))) ?_
 refine nt ?_
 refine cond_t rfl ?_
 refine sqr ?_
 refine Mp rfl ?_
 refine Mp rfl ?_
 refine Np rfl ?_
 refine L1 (fa95_2 rfl) ?_
 refine L1 (ld2 rfl (hW.F.cellv (v := .int _ _) (by decide) rfl)) ?_
 refine L1 (mkI107 rfl) ?_
 refine Np rfl ?_
 refine L1 (fa95_14 rfl) ?_
 refine Lst62 (v := .iface _ _) rfl rfl rfl hW.F (by decide) ?_
 intro w1 hb1 kp1
 have hW := hW.setF hE hb1 kp1
 have kp := kp.F kp1
 clear hb1 kp1
 refine nt ?_
 refine wp_ret ?_
 refine then_r ?_
 refine ret0 rfl ?_
 exact ⟨_, rfl, rfl, _, hW, ⟨_, rfl⟩, (((gs0_off E g pos _ (by omega)).mono (by simp)).upd (by simp) _).upd (by simp) _, kp⟩
theorem db_zero_more (E : Env) (w : World) (g hs bs cs : Nat → Value) (pos : Nat) (ro : Int) (hE : E.Ok) (hW : Wd E w g hs bs cs pos) (hS : Stc E g) (hro : g 2 = .int .i64 ro) (hp : pos + 4 ≤ E.N) (hb : E.d pos + 256 * E.d (pos + 1) + (E.d (pos + 2) + 256 * E.d (pos + 3)) = 65535) (hz : E.d pos + 256 * E.d (pos + 1) = 0) (no fl0 wr : Nat) (hnx : nx wr < 32768) (hDw : Dw E g no fl0 wr) (hf : g 1047 = .bool false) :
  Ret 42 [fp E] w fun v w' => v = .tuple #[] ∧ ∃ g', Wd E w' g' hs bs cs (pos + 4) ∧ (∃ x, g' 2 = .int .i64 x) ∧ g' 3 = .int .u32 0 ∧ g' 4 = .int .u64 0 ∧ g' 1045 = fnv 35 ∧ Dw E g' no no (nx wr) ∧ TR E g' fl0 no ∧ Off [2, 3, 4, 1041, 1042, 1043, 1044, 1038, 1039, 1040, 1049, 1045] g g' ∧ Kp E.L w w' := by
 have kp := Kp.refl E.L w
 have hN := hE.N47
 refine calls_fr (N := 98) Tryd.func42 rfl rfl (by simp [fp]) rfl ?_
 have hd := hE.d8
 have hd0 := hd pos
 have hd1 := hd (pos + 1)
 have hd2 := hd (pos + 2)
 have hd3 := hd (pos + 3)
 refine sqr ?_
 refine Mp rfl ?_
 refine Np rfl ?_
 refine L1 (fa95_4 rfl) ?_
 refine Lst38 (v := .int _ _) rfl rfl rfl hW.F (by decide) ?_
 intro w1 hb1 kp1
 have hW := hW.setF hE hb1 kp1
 have kp := kp.F kp1
 clear hb1 kp1
 refine nt ?_
 refine sqr ?_
 refine Mp rfl ?_
 refine Np rfl ?_
 refine L1 (fa95_3 rfl) ?_
 refine Lst82 (v := .int _ _) rfl rfl rfl hW.F (by decide) ?_
 intro w1 hb1 kp1
 have hW := hW.setF hE hb1 kp1
 have kp := kp.F kp1
 clear hb1 kp1
 refine nt ?_
 refine wp_seq ?_
 refine reg_mix [false, false, false, false, false, false, false, false, true, false, false, false, false, false] (fun w => w.cell? ⟨E.F, 0, none⟩ = some (.iface 43 (.pointer (some ⟨E.R, 0, none⟩)))) mixed (by kernel_rfl) ?_ ?_
 ·exact (hW.drew.F.cellv (by decide) hS.r)
 have hW := hW.drew
 have kp := kp.drew
 refine T1 (fun w hC => mv (v := .pointer _) rfl) ?_
 refine T1 (fun w hC => nilP rfl) ?_
 refine T1 (fun w hC => fa95_0 rfl) ?_
 refine T1 (fun w hC => ld80 (v := .iface _ _) rfl hC) ?_
 refine T1 (fun w hC => mv (v := .pointer _) rfl) ?_
 refine T1 (fun w hC => nilP rfl) ?_
 refine T1 (fun w hC => fa95_10 rfl) ?_
 refine T1 (fun w hC => sl91 rfl rfl rfl) ?_
 refine EC (cl2 has49 rfl rfl rfl) (rdf_ok E _ pos hE hW.gl hW.rd E.F 1041 4 4 1054 95 _ hW.F hE.FR hE.FS hE.bF (by omega) (by omega) (by omega) (by decide) (by omega)) ?_
 rintro v w1 ⟨rfl, hrd, hh, kp1⟩
 have hW := hW.setFR' hE hh hrd kp1
 have kp := kp.trans (kp1.mono (by simp [Env.L]))
 clear kp1 hh hrd
 refine ⟨hW.F.cellv (by decide) ((gs0_off E g pos 4 (by omega) _ (by decide)).trans hS.r), ?_⟩
 have c0 : gs0 E g pos 4 1041 = .int .u8 (E.d (pos)) := rfl
 have c1 : gs0 E g pos 4 1042 = .int .u8 (E.d (pos + 1)) := rfl
 have c2 : gs0 E g pos 4 1043 = .int .u8 (E.d (pos + 2)) := rfl
 have c3 : gs0 E g pos 4 1044 = .int .u8 (E.d (pos + 3)) := rfl
 refine T1 (fun w hC => mv (v := .tuple _) rfl) ?_
 refine T1 (fun w hC => ext2_0 rfl) ?_
 refine T1 (fun w hC => ext2_1 rfl) ?_
 refine T1 (fun w hC => asg (v := .int _ _) rfl) ?_
 refine T1 (fun w hC => asg (v := .nilIface) rfl) ?_
 refine mix_nil ?_
 refine then_n ?_
 refine sqr ?_
 refine Mp rfl ?_
 refine Np rfl ?_
 refine L1 (fa95_2 rfl) ?_
 refine L1 (ld2 rfl (hW.F.cellv (by decide) hro)) ?_
 refine Mi rfl ?_
 refine L1 (bi rfl rfl (bn_addw)) ?_
 refine Np rfl ?_
 refine L1 (fa95_2 rfl) ?_
 refine Lst2 (v := .int _ _) rfl rfl rfl hW.F (by decide) ?_
 intro w1 hb1 kp1
 have hW := hW.setF hE hb1 kp1
 have kp := kp.F kp1
 clear hb1 kp1
 refine nt ?_
 refine wp_seq ?_
 refine sqr ?_
 refine L1 (mv (v := .nilIface) rfl) ?_
 refine L1 (en_nil rfl rfl) ?_
 refine nt ?_
 refine cond_f rfl ?_
 refine skn ?_
 refine wp_seq ?_
 refine reg_still mixed (by kernel_rfl) ?_
 have hW := hW.drew
 have kp := kp.drew
 refine S1 (mv (v := .pointer _) rfl) ?_
 refine S1 (nilP rfl) ?_
 refine S1 (fa95_10 rfl) ?_
 refine S1 (ixA und91 sz5 rfl rfl (j := 0) rfl (by decide)) ?_
 refine S1 (ld5 rfl (hW.F.cellv (by decide) c0)) ?_
 refine S1 (cv5_3 rfl (wrap_s64 _ (by omega) (by omega))) ?_
 refine S1 (mv (v := .pointer _) rfl) ?_
 refine S1 (nilP rfl) ?_
 refine S1 (fa95_10 rfl) ?_
 refine S1 (ixA und91 sz5 rfl rfl (j := 1) rfl (by decide)) ?_
 refine S1 (ld5 rfl (hW.F.cellv (by decide) c1)) ?_
 refine S1 (cv5_3 rfl (wrap_s64 _ (by omega) (by omega))) ?_
 refine S1 (bi rfl rfl (bn_shl64 (n := 8) rfl rfl (by omega) (by omega))) ?_
 refine S1 (bi rfl rfl ((bn_or64 rfl rfl (by omega) (by omega)).trans (congrArg (fun x : Nat => pure (Value.int .i64 (x : Int))) (or_bytes _ _ hd0)))) ?_
 refine S1 (asg (v := .int _ _) rfl) ?_
 refine still_nil ?_
 refine then_n ?_
 refine wp_seq ?_
 refine reg_still mixed (by kernel_rfl) ?_
 have hW := hW.drew
 have kp := kp.drew
 refine S1 (mv (v := .pointer _) rfl) ?_
 refine S1 (nilP rfl) ?_
 refine S1 (fa95_10 rfl) ?_
 refine S1 (ixA und91 sz5 rfl rfl (j := 2) rfl (by decide)) ?_
 refine S1 (ld5 rfl (hW.F.cellv (by decide) c2)) ?_
 refine S1 (cv5_3 rfl (wrap_s64 _ (by omega) (by omega))) ?_
 refine S1 (mv (v := .pointer _) rfl) ?_
 refine S1 (nilP rfl) ?_
 refine S1 (fa95_10 rfl) ?_
 refine S1 (ixA und91 sz5 rfl rfl (j := 3) rfl (by decide)) ?_
 refine S1 (ld5 rfl (hW.F.cellv (by decide) c3)) ?_
 refine S1 (cv5_3 rfl (wrap_s64 _ (by omega) (by omega))) ?_
 refine S1 (bi rfl rfl (bn_shl64 (n := 8) rfl rfl (by omega) (by omega))) ?_
 refine S1 (bi rfl rfl ((bn_or64 rfl rfl (by omega) (by omega)).trans (congrArg (fun x : Nat => pure (Value.int .i64 (x : Int))) (or_bytes _ _ hd2)))) ?_
 refine S1 (asg (v := .int _ _) rfl) ?_
 refine still_nil ?_
 refine then_n ?_
 refine wp_seq ?_
 refine sqr ?_
 refine Mi rfl ?_
 refine L1 (cv3_37 rfl (wrap_u16n _ (by omega) (by omega))) ?_
 refine Mi rfl ?_
 refine L1 (un_xor rfl (by omega)) ?_
 refine L1 (cv3_37 rfl (wrap_u16x _ (by omega))) ?_
 refine L1 (bi rfl rfl (bn_neq (v := false) (decide_eq_true (by omega)))) ?_
 refine nt ?_
 refine cond_f rfl ?_
 refine skn ?_
 refine wp_seq ?_
 refine sqr ?_
 refine Mi rfl ?_
 refine L1 (bi rfl rfl (bn_eql (v := true) (decide_eq_true (by omega)))) ?_
 refine nt ?_
 refine cond_t rfl ?_
 refine sqr ?_
 refine Mp rfl ?_
 refine Mp rfl ?_
 refine Np rfl ?_
 refine L1 (fa95_9 rfl) ?_
 refine LC (cl1 has50 rfl rfl) (rf_c E _ _ hs bs cs (pos + 4) no fl0 wr hE hW (hDw.off ((gs0_off E g pos 4 (by omega)).mono (by decide) |>.upd (k := 2) (by decide) _ : Off [2, 3, 4, 1041, 1042, 1043, 1044] g _) (by decide))) ?_
 rintro v w1 ⟨hv, g1, hW, hD1, ho, kp1⟩
 have kp := kp.trans kp1
 refine Np rfl ?_
 refine L1 (fa95_15 rfl) ?_
 refine Lst22 (v := v) rfl rfl (by obtain ⟨_, _, _, rfl, _⟩ := hv; rfl) hW.F (by decide) ?_
 intro w1 hb1 kp1
 have hW := hW.setF hE hb1 kp1
 have kp := kp.F kp1
 have ho1 : Off [2, 3, 4, 1041, 1042, 1043, 1044, 1038, 1039, 1040, 1049] g _ := ((((gs0_off E g pos 4 (by omega)).mono (by decide) |>.upd (k := 2) (by decide) _ : Off [2, 3, 4, 1041, 1042, 1043, 1044] g _).mono (by decide)).trans (ho.mono (by decide))).upd (k := 1049) (by decide) v
 have hD2 := hD1.off ((Off.refl [1049] g1).upd (k := 1049) (by decide) v) (by decide)
 have h3 : g1 3 = .int .u32 0 := (ho 3 (by decide)).trans rfl
 have h4 : g1 4 = .int .u64 0 := (ho 4 (by decide)).trans rfl
 have h2 : ∃ x, g1 2 = .int .i64 x := ⟨_, (ho 2 (by decide)).trans rfl⟩
 refine nt ?_
 refine sqr ?_
 refine Mp rfl ?_
 refine LC (cl1 has51 rfl rfl) (finish_more E _ _ hs bs cs (pos + 4) hE hW ((ho1 _ (by decide)).trans hf)) ?_
 rintro v w1 ⟨rfl, g2, hW, h45, ho2, kp1⟩
 have kp := kp.trans kp1
 refine nt ?_
 refine wp_ret ?_
 refine then_r ?_
 refine ret0 rfl ?_
 refine ⟨_, rfl, rfl, g2, hW, ?_, (ho2 _ (by decide)).trans h3, (ho2 _ (by decide)).trans h4, h45, hD2.off ho2 (by decide), ?_, (ho1.mono (by decide)).trans (ho2.mono (by decide)), kp⟩
 ·obtain ⟨x, hx⟩ := h2
  exact ⟨x, (ho2 _ (by decide)).trans hx⟩
 ·exact TR.off (g := upd g1 1049 v) hv ho2 (by decide)
theorem finish_last' (E : Env) (w : World) (g hs bs cs : Nat → Value) (pos : Nat) (hE : E.Ok) (hW : Wd E w g hs bs cs pos) (hf : g 1047 = .bool true) (n wr : Nat) (hw : wr < 32768) (hD : Dw E g n n wr) :
  Ret 51 [fp E] w fun v w' => v = .tuple #[] ∧ ∃ g', Wd E w' g' hs bs cs pos ∧ g' 1045 = fnv 35 ∧ g' 1048 = EOFv E ∧ Dw E g' n n wr ∧ Off [1045, 1048] g g' ∧ Kp E.L w w' := by
 have kp := Kp.refl E.L w
 have hD0 := hD
 obtain ⟨q, rd, h1, h2, h3, h4, h5⟩ := hD
 refine calls_fr (N := 25) Tryd.func51 rfl rfl (by simp [fp]) rfl ?_
 refine wp_seq ?_
 refine sqr ?_
 refine Mp rfl ?_
 refine Np rfl ?_
 refine L1 (fa95_13 rfl) ?_
 refine L1 (ld4 rfl (hW.F.cellv (by decide) hf)) ?_
 refine nt ?_
 refine cond_t rfl ?_
 refine wp_seq ?_
 refine sqr ?_
 refine Mp rfl ?_
 refine Np rfl ?_
 refine L1 (fa95_9 rfl) ?_
 refine LC (cl1 has62 rfl rfl) (availRead_c E _ g wr rd _ hW.F h5 h2 h3) ?_
 rintro v w1 ⟨rfl, rfl⟩
 have hW := hW.drew
 have kp := kp.drew
 refine L1 (bi rfl rfl (bn_gtr (v := false) (decide_eq_false (by omega)))) ?_
 refine nt ?_
 refine cond_f rfl ?_
 refine skn ?_
 refine reg_lit ?_
 refine Mp rfl ?_
 refine L1 (ld62 (v := .iface _ _) rfl hW.gl.eof) ?_
 refine Np rfl ?_
 refine L1 (fa95_14 rfl) ?_
 refine Lst62 (v := .iface _ _) rfl rfl rfl hW.F (by decide) ?_
 intro w1 hb1 kp1
 have hW := hW.setF hE hb1 kp1
 have kp := kp.F kp1
 clear hb1 kp1
 refine nt ?_
 refine reg_lit ?_
 refine Mp rfl ?_
 refine Np rfl ?_
 refine L1 (fa95_11 rfl) ?_
 refine Lst92 (v := .func _ _ _) rfl rfl rfl hW.F (by decide) ?_
 intro w1 hb1 kp1
 have hW := hW.setF hE hb1 kp1
 have kp := kp.F kp1
 clear hb1 kp1
 refine wpList_nil ?_
 refine end0 rfl ?_
 refine ⟨_, rfl, rfl, _, hW, rfl, rfl, hD0.off (((Off.refl _ g).upd (k := 1048) (by decide) _).upd (k := 1045) (by decide) _ : Off [1045, 1048] g _) (by decide), ((Off.refl _ g).upd (by simp) _).upd (by simp) _, kp⟩
theorem db_zero_last (E : Env) (w : World) (g hs bs cs : Nat → Value) (pos : Nat) (ro : Int) (hE : E.Ok) (hW : Wd E w g hs bs cs pos) (hS : Stc E g) (hro : g 2 = .int .i64 ro) (hp : pos + 4 ≤ E.N) (hb : E.d pos + 256 * E.d (pos + 1) + (E.d (pos + 2) + 256 * E.d (pos + 3)) = 65535) (hz : E.d pos + 256 * E.d (pos + 1) = 0) (no fl0 wr : Nat) (hnx : nx wr < 32768) (hDw : Dw E g no fl0 wr) (hf : g 1047 = .bool true) :
  Ret 42 [fp E] w fun v w' => v = .tuple #[] ∧ ∃ g', Wd E w' g' hs bs cs (pos + 4) ∧ g' 1048 = EOFv E ∧ Dw E g' no no (nx wr) ∧ TR E g' fl0 no ∧ Off [2, 3, 4, 1041, 1042, 1043, 1044, 1038, 1039, 1040, 1049, 1045, 1048] g g' ∧ Kp E.L w w' := by
 have kp := Kp.refl E.L w
 have hN := hE.N47
 refine calls_fr (N := 98) Tryd.func42 rfl rfl (by simp [fp]) rfl ?_
 have hd := hE.d8
 have hd0 := hd pos
 have hd1 := hd (pos + 1)
 have hd2 := hd (pos + 2)
 have hd3 := hd (pos + 3)
 refine sqr ?_
 refine Mp rfl ?_
 refine Np rfl ?_
 refine L1 (fa95_4 rfl) ?_
 refine Lst38 (v := .int _ _) rfl rfl rfl hW.F (by decide) ?_
 intro w1 hb1 kp1
 have hW := hW.setF hE hb1 kp1
 have kp := kp.F kp1
 clear hb1 kp1
 refine nt ?_
 refine sqr ?_
 refine Mp rfl ?_
 refine Np rfl ?_
 refine L1 (fa95_3 rfl) ?_
 refine Lst82 (v := .int _ _) rfl rfl rfl hW.F (by decide) ?_
 intro w1 hb1 kp1
 have hW := hW.setF hE hb1 kp1
 have kp := kp.F kp1
 clear hb1 kp1
 refine nt ?_
 refine wp_seq ?_
 refine reg_mix [false, false, false, false, false, false, false, false, true, false, false, false, false, false] (fun w => w.cell? ⟨E.F, 0, none⟩ = some (.iface 43 (.pointer (some ⟨E.R, 0, none⟩)))) mixed (by kernel_rfl) ?_ ?_
 ·exact (hW.drew.F.cellv (by decide) hS.r)
 have hW := hW.drew
 have kp := kp.drew
 refine T1 (fun w hC => mv (v := .pointer _) rfl) ?_
 refine T1 (fun w hC => nilP rfl) ?_
 refine T1 (fun w hC => fa95_0 rfl) ?_
 refine T1 (fun w hC => ld80 (v := .iface _ _) rfl hC) ?_
 refine T1 (fun w hC => mv (v := .pointer _) rfl) ?_
 refine T1 (fun w hC => nilP rfl) ?_
 refine T1 (fun w hC => fa95_10 rfl) ?_
 refine T1 (fun w hC => sl91 rfl rfl rfl) ?_
 refine EC (cl2 has49 rfl rfl rfl) (rdf_ok E _ pos hE hW.gl hW.rd E.F 1041 4 4 1054 95 _ hW.F hE.FR hE.FS hE.bF (by omega) (by omega) (by omega) (by decide) (by omega)) ?_
 rintro v w1 ⟨rfl, hrd, hh, kp1⟩
 have hW := hW.setFR' hE hh hrd kp1
 have kp := kp.trans (kp1.mono (by simp [Env.L]))
 clear kp1 hh hrd
 refine ⟨hW.F.cellv (by decide) ((gs0_off E g pos 4 (by omega) _ (by decide)).trans hS.r), ?_⟩
 have c0 : gs0 E g pos 4 1041 = .int .u8 (E.d (pos)) := rfl
 have c1 : gs0 E g pos 4 1042 = .int .u8 (E.d (pos + 1)) := rfl
 have c2 : gs0 E g pos 4 1043 = .int .u8 (E.d (pos + 2)) := rfl
 have c3 : gs0 E g pos 4 1044 = .int .u8 (E.d (pos + 3)) := rfl
 refine T1 (fun w hC => mv (v := .tuple _) rfl) ?_
 refine T1 (fun w hC => ext2_0 rfl) ?_
 refine T1 (fun w hC => ext2_1 rfl) ?_
 refine T1 (fun w hC => asg (v := .int _ _) rfl) ?_
 refine T1 (fun w hC => asg (v := .nilIface) rfl) ?_
 refine mix_nil ?_
 refine then_n ?_
 refine sqr ?_
 refine Mp rfl ?_
 refine Np rfl ?_
 refine L1 (fa95_2 rfl) ?_
 refine L1 (ld2 rfl (hW.F.cellv (by decide) hro)) ?_
 refine Mi rfl ?_
 refine L1 (bi rfl rfl (bn_addw)) ?_
 refine Np rfl ?_
 refine L1 (fa95_2 rfl) ?_
 refine Lst2 (v := .int _ _) rfl rfl rfl hW.F (by decide) ?_
 intro w1 hb1 kp1
 have hW := hW.setF hE hb1 kp1
 have kp := kp.F kp1
 clear hb1 kp1
 refine nt ?_
 refine wp_seq ?_
 refine sqr ?_
 refine L1 (mv (v := .nilIface) rfl) ?_
 refine L1 (en_nil rfl rfl) ?_
 refine nt ?_
 refine cond_f rfl ?_
 refine skn ?_
 refine wp_seq ?_
 refine reg_still mixed (by kernel_rfl) ?_
 have hW := hW.drew
 have kp := kp.drew
 refine S1 (mv (v := .pointer _) rfl) ?_
 refine S1 (nilP rfl) ?_
 refine S1 (fa95_10 rfl) ?_
 refine S1 (ixA und91 sz5 rfl rfl (j := 0) rfl (by decide)) ?_
 refine S1 (ld5 rfl (hW.F.cellv (by decide) c0)) ?_
 refine S1 (cv5_3 rfl (wrap_s64 _ (by omega) (by omega))) ?_
 refine S1 (mv (v := .pointer _) rfl) ?_
 refine S1 (nilP rfl) ?_
 refine S1 (fa95_10 rfl) ?_
 refine S1 (ixA und91 sz5 rfl rfl (j := 1) rfl (by decide)) ?_
 refine S1 (ld5 rfl (hW.F.cellv (by decide) c1)) ?_
 refine S1 (cv5_3 rfl (wrap_s64 _ (by omega) (by omega))) ?_
 refine S1 (bi rfl rfl (bn_shl64 (n := 8) rfl rfl (by omega) (by omega))) ?_
 refine S1 (bi rfl rfl ((bn_or64 rfl rfl (by omega) (by omega)).trans (congrArg (fun x : Nat => pure (Value.int .i64 (x : Int))) (or_bytes _ _ hd0)))) ?_
 refine S1 (asg (v := .int _ _) rfl) ?_
 refine still_nil ?_
 refine then_n ?_
 refine wp_seq ?_
 refine reg_still mixed (by kernel_rfl) ?_
 have hW := hW.drew
 have kp := kp.drew
 refine S1 (mv (v := .pointer _) rfl) ?_
 refine S1 (nilP rfl) ?_
 refine S1 (fa95_10 rfl) ?_
 refine S1 (ixA und91 sz5 rfl rfl (j := 2) rfl (by decide)) ?_
 refine S1 (ld5 rfl (hW.F.cellv (by decide) c2)) ?_
 refine S1 (cv5_3 rfl (wrap_s64 _ (by omega) (by omega))) ?_
 refine S1 (mv (v := .pointer _) rfl) ?_
 refine S1 (nilP rfl) ?_
 refine S1 (fa95_10 rfl) ?_
 refine S1 (ixA und91 sz5 rfl rfl (j := 3) rfl (by decide)) ?_
 refine S1 (ld5 rfl (hW.F.cellv (by decide) c3)) ?_
 refine S1 (cv5_3 rfl (wrap_s64 _ (by omega) (by omega))) ?_
 refine S1 (bi rfl rfl (bn_shl64 (n := 8) rfl rfl (by omega) (by omega))) ?_
 refine S1 (bi rfl rfl ((bn_or64 rfl rfl (by omega) (by omega)).trans (congrArg (fun x : Nat => pure (Value.int .i64 (x : Int))) (or_bytes _ _ hd2)))) ?_
 refine S1 (asg (v := .int _ _) rfl) ?_
 refine still_nil ?_
 refine then_n ?_
 refine wp_seq ?_
 refine sqr ?_
 refine Mi rfl ?_
 refine L1 (cv3_37 rfl (wrap_u16n _ (by omega) (by omega))) ?_
 refine Mi rfl ?_
 refine L1 (un_xor rfl (by omega)) ?_
 refine L1 (cv3_37 rfl (wrap_u16x _ (by omega))) ?_
 refine L1 (bi rfl rfl (bn_neq (v := false) (decide_eq_true (by omega)))) ?_
 refine nt ?_
 refine cond_f rfl ?_
 refine skn ?_
 refine wp_seq ?_
 refine sqr ?_
 refine Mi rfl ?_
 refine L1 (bi rfl rfl (bn_eql (v := true) (decide_eq_true (by omega)))) ?_
 refine nt ?_
 refine cond_t rfl ?_
 refine sqr ?_
 refine Mp rfl ?_
 refine Mp rfl ?_
 refine Np rfl ?_
 refine L1 (fa95_9 rfl) ?_
 refine LC (cl1 has50 rfl rfl) (rf_c E _ _ hs bs cs (pos + 4) no fl0 wr hE hW (hDw.off ((gs0_off E g pos 4 (by omega)).mono (by decide) |>.upd (k := 2) (by decide) _ : Off [2, 3, 4, 1041, 1042, 1043, 1044] g _) (by decide))) ?_
 rintro v w1 ⟨hv, g1, hW, hD1, ho, kp1⟩
 have kp := kp.trans kp1
 refine Np rfl ?_
 refine L1 (fa95_15 rfl) ?_
 refine Lst22 (v := v) rfl rfl (by obtain ⟨_, _, _, rfl, _⟩ := hv; rfl) hW.F (by decide) ?_
 intro w1 hb1 kp1
 have hW := hW.setF hE hb1 kp1
 have kp := kp.F kp1
 have ho1 : Off [2, 3, 4, 1041, 1042, 1043, 1044, 1038, 1039, 1040, 1049] g _ := ((((gs0_off E g pos 4 (by omega)).mono (by decide) |>.upd (k := 2) (by decide) _ : Off [2, 3, 4, 1041, 1042, 1043, 1044] g _).mono (by decide)).trans (ho.mono (by decide))).upd (k := 1049) (by decide) v
 have hD2 := hD1.off ((Off.refl [1049] g1).upd (k := 1049) (by decide) v) (by decide)
 have h3 : g1 3 = .int .u32 0 := (ho 3 (by decide)).trans rfl
 have h4 : g1 4 = .int .u64 0 := (ho 4 (by decide)).trans rfl
 have h2 : ∃ x, g1 2 = .int .i64 x := ⟨_, (ho 2 (by decide)).trans rfl⟩
 refine nt ?_
 refine sqr ?_
 refine Mp rfl ?_
 refine LC (cl1 has51 rfl rfl) (finish_last' E _ _ hs bs cs (pos + 4) hE hW ((ho1 _ (by decide)).trans hf) no (nx wr) hnx hD2) ?_
 rintro v w1 ⟨rfl, g2, hW, h45, h48, hD3, ho2, kp1⟩
 have kp := kp.trans kp1
 refine nt ?_
 refine wp_ret ?_
 refine then_r ?_
 refine ret0 rfl ?_
 refine ⟨_, rfl, rfl, g2, hW, h48, hD3, ?_, (ho1.mono (by decide)).trans (ho2.mono (by decide)), kp⟩
 exact TR.off (g := upd g1 1049 v) hv ho2 (by decide)
theorem db_data (E : Env) (w : World) (g hs bs cs : Nat → Value) (pos : Nat) (ro : Int) (hE : E.Ok) (hW : Wd E w g hs bs cs pos) (hS : Stc E g) (hro : g 2 = .int .i64 ro) (hp : pos + 4 ≤ E.N) (hb : E.d pos + 256 * E.d (pos + 1) + (E.d (pos + 2) + 256 * E.d (pos + 3)) = 65535) (hz : E.d pos + 256 * E.d (pos + 1) ≠ 0) (Q : World → Prop)
  (hcall : ∀ w1 g1, Wd E w1 g1 hs bs cs (pos + 4) → g1 3 = .int .u32 0 → g1 4 = .int .u64 0 → g1 1052 = .int .i64 ((E.d pos + 256 * E.d (pos + 1) : Nat) : Int) → (∃ x, g1 2 = .int .i64 x) → Off [2, 3, 4, 1041, 1042, 1043, 1044, 1052] g g1 → Kp E.L w w1 → Ret 52 [fp E] w1 fun v w' => v = .tuple #[] ∧ Q w') :
  Ret 42 [fp E] w fun v w' => v = .tuple #[] ∧ Q w' := by
 have kp := Kp.refl E.L w
 have hN := hE.N47
 refine calls_fr (N := 98) Tryd.func42 rfl rfl (by simp [fp]) rfl ?_
 have hd := hE.d8
 have hd0 := hd pos
 have hd1 := hd (pos + 1)
 have hd2 := hd (pos + 2)
 have hd3 := hd (pos + 3)
 refine sqr ?_
 refine Mp rfl ?_
 refine Np rfl ?_
 refine L1 (fa95_4 rfl) ?_
 refine Lst38 (v := .int _ _) rfl rfl rfl hW.F (by decide) ?_
 intro w1 hb1 kp1
 have hW := hW.setF hE hb1 kp1
 have kp := kp.F kp1
 clear hb1 kp1
 refine nt ?_
 refine sqr ?_
 refine Mp rfl ?_
 refine Np rfl ?_
 refine L1 (fa95_3 rfl) ?_
 refine Lst82 (v := .int _ _) rfl rfl rfl hW.F (by decide) ?_
 intro w1 hb1 kp1
 have hW := hW.setF hE hb1 kp1
 have kp := kp.F kp1
 clear hb1 kp1
 refine nt ?_
 refine wp_seq ?_
 refine reg_mix [false, false, false, false, false, false, false, false, true, false, false, false, false, false] (fun w => w.cell? ⟨E.F, 0, none⟩ = some (.iface 43 (.pointer (some ⟨E.R, 0, none⟩)))) mixed (by kernel_rfl) ?_ ?_
 ·exact (hW.drew.F.cellv (by decide) hS.r)
 have hW := hW.drew
 have kp := kp.drew
 refine T1 (fun w hC => mv (v := .pointer _) rfl) ?_
 refine T1 (fun w hC => nilP rfl) ?_
 refine T1 (fun w hC => fa95_0 rfl) ?_
 refine T1 (fun w hC => ld80 (v := .iface _ _) rfl hC) ?_
 refine T1 (fun w hC => mv (v := .pointer _) rfl) ?_
 refine T1 (fun w hC => nilP rfl) ?_
 refine T1 (fun w hC => fa95_10 rfl) ?_
 refine T1 (fun w hC => sl91 rfl rfl rfl) ?_
 refine EC (cl2 has49 rfl rfl rfl) (rdf_ok E _ pos hE hW.gl hW.rd E.F 1041 4 4 1054 95 _ hW.F hE.FR hE.FS hE.bF (by omega) (by omega) (by omega) (by decide) (by omega)) ?_
 rintro v w1 ⟨rfl, hrd, hh, kp1⟩
 have hW := hW.setFR' hE hh hrd kp1
 have kp := kp.trans (kp1.mono (by simp [Env.L]))
 clear kp1 hh hrd
 refine ⟨hW.F.cellv (by decide) ((gs0_off E g pos 4 (by omega) _ (by decide)).trans hS.r), ?_⟩
 have c0 : gs0 E g pos 4 1041 = .int .u8 (E.d (pos)) := rfl
 have c1 : gs0 E g pos 4 1042 = .int .u8 (E.d (pos + 1)) := rfl
 have c2 : gs0 E g pos 4 1043 = .int .u8 (E.d (pos + 2)) := rfl
 have c3 : gs0 E g pos 4 1044 = .int .u8 (E.d (pos + 3)) := rfl
 refine T1 (fun w hC => mv (v := .tuple _) rfl) ?_
 refine T1 (fun w hC => ext2_0 rfl) ?_
 refine T1 (fun w hC => ext2_1 rfl) ?_
 refine T1 (fun w hC => asg (v := .int _ _) rfl) ?_
 refine T1 (fun w hC => asg (v := .nilIface) rfl) ?_
 refine mix_nil ?_
 refine then_n ?_
 refine sqr ?_
 refine Mp rfl ?_
 refine Np rfl ?_
 refine L1 (fa95_2 rfl) ?_
 refine L1 (ld2 rfl (hW.F.cellv (by decide) hro)) ?_
 refine Mi rfl ?_
 refine L1 (bi rfl rfl (bn_addw)) ?_
 refine Np rfl ?_
 refine L1 (fa95_2 rfl) ?_
 refine Lst2 (v := .int _ _) rfl rfl rfl hW.F (by decide) ?_
 intro w1 hb1 kp1
 have hW := hW.setF hE hb1 kp1
 have kp := kp.F kp1
 clear hb1 kp1
 refine nt ?_
 refine wp_seq ?_
 refine sqr ?_
 refine L1 (mv (v := .nilIface) rfl) ?_
 refine L1 (en_nil rfl rfl) ?_
 refine nt ?_
 refine cond_f rfl ?_
 refine skn ?_
 refine wp_seq ?_
 refine reg_still mixed (by kernel_rfl) ?_
 have hW := hW.drew
 have kp := kp.drew
 refine S1 (mv (v := .pointer _) rfl) ?_
 refine S1 (nilP rfl) ?_
 refine S1 (fa95_10 rfl) ?_
 refine S1 (ixA und91 sz5 rfl rfl (j := 0) rfl (by decide)) ?_
 refine S1 (ld5 rfl (hW.F.cellv (by decide) c0)) ?_
 refine S1 (cv5_3 rfl (wrap_s64 _ (by omega) (by omega))) ?_
 refine S1 (mv (v := .pointer _) rfl) ?_
 refine S1 (nilP rfl) ?_
 refine S1 (fa95_10 rfl) ?_
 refine S1 (ixA und91 sz5 rfl rfl (j := 1) rfl (by decide)) ?_
 refine S1 (ld5 rfl (hW.F.cellv (by decide) c1)) ?_
 refine S1 (cv5_3 rfl (wrap_s64 _ (by omega) (by omega))) ?_
 refine S1 (bi rfl rfl (bn_shl64 (n := 8) rfl rfl (by omega) (by omega))) ?_
 refine S1 (bi rfl rfl ((bn_or64 rfl rfl (by omega) (by omega)).trans (congrArg (fun x : Nat => pure (Value.int .i64 (x : Int))) (or_bytes _ _ hd0)))) ?_
 refine S1 (asg (v := .int _ _) rfl) ?_
 refine still_nil ?_
 refine then_n ?_
 refine wp_seq ?_
 refine reg_still mixed (by kernel_rfl) ?_
 have hW := hW.drew
 have kp := kp.drew
 refine S1 (mv (v := .pointer _) rfl) ?_
 refine S1 (nilP rfl) ?_
 refine S1 (fa95_10 rfl) ?_
 refine S1 (ixA und91 sz5 rfl rfl (j := 2) rfl (by decide)) ?_
 refine S1 (ld5 rfl (hW.F.cellv (by decide) c2)) ?_
 refine S1 (cv5_3 rfl (wrap_s64 _ (by omega) (by omega))) ?_
 refine S1 (mv (v := .pointer _) rfl) ?_
 refine S1 (nilP rfl) ?_
 refine S1 (fa95_10 rfl) ?_
 refine S1 (ixA und91 sz5 rfl rfl (j := 3) rfl (by decide)) ?_
 refine S1 (ld5 rfl (hW.F.cellv (by decide) c3)) ?_
 refine S1 (cv5_3 rfl (wrap_s64 _ (by omega) (by omega))) ?_
 refine S1 (bi rfl rfl (bn_shl64 (n := 8) rfl rfl (by omega) (by omega))) ?_
 refine S1 (bi rfl rfl ((bn_or64 rfl rfl (by omega) (by omega)).trans (congrArg (fun x : Nat => pure (Value.int .i64 (x : Int))) (or_bytes _ _ hd2)))) ?_
 refine S1 (asg (v := .int _ _) rfl) ?_
 refine still_nil ?_
 refine then_n ?_
 refine wp_seq ?_
 refine sqr ?_
 refine Mi rfl ?_
 refine L1 (cv3_37 rfl (wrap_u16n _ (by omega) (by omega))) ?_
 refine Mi rfl ?_
 refine L1 (un_xor rfl (by omega)) ?_
 refine L1 (cv3_37 rfl (wrap_u16x _ (by omega))) ?_
 refine L1 (bi rfl rfl (bn_neq (v := false) (decide_eq_true (by omega)))) ?_
 refine nt ?_
 refine cond_f rfl ?_
 refine skn ?_
 refine wp_seq ?_
 refine sqr ?_
 refine Mi rfl ?_
 refine L1 (bi rfl rfl (bn_eql (v := false) (decide_eq_false (by omega)))) ?_
 refine nt ?_
 refine cond_f rfl ?_
 refine skn ?_
 refine sqr ?_
 refine Mp rfl ?_
 refine Mi rfl ?_
 refine Np rfl ?_
 refine L1 (fa95_18 rfl) ?_
 refine Lst3 (v := .int _ _) rfl rfl rfl hW.F (by decide) ?_
 intro w1 hb1 kp1
 have hW := hW.setF hE hb1 kp1
 have kp := kp.F kp1
 clear hb1 kp1
 refine nt ?_
 refine reg_lit ?_
 refine Mp rfl ?_
 refine LC (cl1 has52 rfl rfl) (hcall _ _ hW rfl rfl rfl ⟨_, rfl⟩ ((((gs0_off E g pos 4 (by omega)).mono (by simp)).upd (by simp) _).upd (by simp) _) kp) ?_
 rintro v w1 ⟨rfl, hQ⟩
 refine wpList_nil ?_
 refine end0 rfl ?_
 exact ⟨_, rfl, rfl, hQ⟩
end Go.Proofs.YtejeloeaklpinaaDoor
namespace Go.Proofs.YtejeloeaklpinaaDoor
theorem mData_true (S : Src) (a : A) (n : Nat) : (mData S a n).2 = true := by
 unfold mData; split
 ·rfl
 ·split <;> rfl
theorem bv16E {E : Env} (hE : E.Ok) {k : Nat} (hk : k + 1 < E.N) : bv E.D (8 * k) 16 = E.d k + 256 * E.d (k + 1) := bv16 E.d hE.d8 E.N k hk
theorem dataBlock_c (E : Env) (w : World) (a : A) (hE : E.Ok) (hR : RepI E w a) (hmd : a.md = .next) (hef : a.e = a.fl) (herr : a.err = 0) :
  Ret 42 [fp E] w fun v w' => v = .tuple #[] ∧ (∃ c, Rep E w' c ∧ ((mStored E.S' a = (c, true)) ∨ ∃ b, mStored E.S' a = (b, false) ∧ mic E.S' b = (c, true))) ∧ Kp E.L w w' := by
 obtain ⟨g, hs, bs, cs, hC, hL⟩ := hR
 have hmd' := hL.md
 rw [hmd] at hmd'
 obtain ⟨hSS, hl⟩ := hmd'
 obtain ⟨ro, hro⟩ := hL.B.ro
 have hle := hC.W.rd.le
 have hSN : E.S'.N = E.N := rfl
 have hSD : E.S'.D = E.D := rfl
 have hT := hC.T
 rw [hef] at hT
 by_cases hp : E.N < a.pos + 4
 ·refine (db_short E w g hs bs cs a.pos ro hE hC.W hC.S hro hle hp).mono ?_
  rintro e w' ⟨v, rfl, rfl, g', hW, h48, ho, kp⟩
  refine ⟨_, rfl, rfl, ⟨a.short E.S', ?_, .inl (by unfold mStored; rw [hSN, if_pos hp])⟩, kp⟩
  exact ⟨g', hs, bs, cs, hC.off hW ho (by decide), .inr (.inr (.inl ⟨rfl, h48⟩)), fun h => by cases h⟩
 ·have hp' : a.pos + 4 ≤ E.N := by omega
  have b1 : bv E.D (8 * a.pos) 16 = E.d a.pos + 256 * E.d (a.pos + 1) := bv16E hE (by omega)
  have b2 : bv E.D (8 * a.pos + 16) 16 = E.d (a.pos + 2) + 256 * E.d (a.pos + 3) := by
   rw [show 8 * a.pos + 16 = 8 * (a.pos + 2) by omega]; exact bv16E hE (by omega)
  by_cases hb : E.d a.pos + 256 * E.d (a.pos + 1) + (E.d (a.pos + 2) + 256 * E.d (a.pos + 3)) ≠ 65535
  ·refine (db_bad E w g hs bs cs a.pos ro hE hC.W hC.S hro hp' hb).mono ?_
   rintro e w' ⟨v, rfl, rfl, g', hW, h48, ho, kp⟩
   refine ⟨_, rfl, rfl, ⟨({ a with p := 8 * (a.pos + 4), pos := a.pos + 4 } : A).bad, ?_, .inl (by unfold mStored; rw [hSN, hSD, b1, b2, if_neg hp, if_pos hb])⟩, kp⟩
   exact ⟨g', hs, bs, cs, hC.off hW ho (by decide), .inr (.inr (.inr ⟨rfl, h48⟩)), fun h => by cases h⟩
  ·have hb' := Decidable.not_not.1 hb
   by_cases hz : E.d a.pos + 256 * E.d (a.pos + 1) = 0
   ·have hm : mStored E.S' a = (({ a with p := 8 * (a.pos + 4), pos := a.pos + 4 } : A).flush.finish, true) := by
     unfold mStored; rw [hSN, hSD, b1, b2, if_neg hp, if_neg hb, if_pos hz]
    have hnx : nx (a.out.length % 32768) = a.out.length % 32768 := by unfold nx; rw [if_neg (by omega)]
    have hfin := hL.fin
    cases hfe : a.fin with
    | false =>
     rw [hfe] at hfin
     refine (db_zero_more E w g hs bs cs a.pos ro hE hC.W hC.S hro hp' hb' hz _ _ _ (by rw [hnx]; omega) hC.D hfin).mono ?_
     rintro e w' ⟨v, rfl, rfl, g', hW, h2, h3, h4, h45, hD, hT', ho, kp⟩
     refine ⟨_, rfl, rfl, ⟨_, ?_, .inl hm⟩, kp⟩
     rw [hnx] at hD
     simp only [A.finish, A.flush, hfe]
     refine ⟨g', hs, bs, cs, ⟨hW, hC.S.off ho (by decide), hC.V, hD, ?_, HZ.offs hC.Z ho (by decide)⟩, .inl ⟨herr, (ho _ (by decide)).trans hL.err⟩, fun _ => ⟨⟨Bt.zero h2 h3 h4, (ho _ (by decide)).trans hfin, (ho _ (by decide)).trans hL.err, ?_⟩, h45, trivial⟩⟩
     ·show TR E g' a.e _
      rw [hef]; exact hT'
     ·exact ⟨hSS.off ho (by decide), (ho _ (by decide)).trans hl⟩
    | true =>
     rw [hfe] at hfin
     refine (db_zero_last E w g hs bs cs a.pos ro hE hC.W hC.S hro hp' hb' hz _ _ _ (by rw [hnx]; omega) hC.D hfin).mono ?_
     rintro e w' ⟨v, rfl, rfl, g', hW, h48, hD, hT', ho, kp⟩
     refine ⟨_, rfl, rfl, ⟨_, ?_, .inl hm⟩, kp⟩
     rw [hnx] at hD
     simp only [A.finish, A.flush, hfe, if_true]
     refine ⟨g', hs, bs, cs, ⟨hW, hC.S.off ho (by decide), hC.V, hD, ?_, HZ.offs hC.Z ho (by decide)⟩, .inr (.inl ⟨rfl, h48⟩), fun h => by cases h⟩
     show TR E g' a.e _
     rw [hef]; exact hT'
   ·have hd0 := hE.d8 a.pos
    have hd1 := hE.d8 (a.pos + 1)
    have hm : mStored E.S' a = (({ a with p := 8 * (a.pos + 4), pos := a.pos + 4, md := .data (E.d a.pos + 256 * E.d (a.pos + 1)) } : A), false) := by
     unfold mStored; rw [hSN, hSD, b1, b2, if_neg hp, if_neg hb, if_neg hz]
    refine db_data E w g hs bs cs a.pos ro hE hC.W hC.S hro hp' hb' hz (fun w' => (∃ c, Rep E w' c ∧ ((mStored E.S' a = (c, true)) ∨ ∃ b, mStored E.S' a = (b, false) ∧ mic E.S' b = (c, true))) ∧ Kp E.L w w') ?_
    intro w1 g1 hW h3 h4 h52 h2 ho kp
    have hR1 : RepI E w1 { a with p := 8 * (a.pos + 4), pos := a.pos + 4, md := .data (E.d a.pos + 256 * E.d (a.pos + 1)) } := by
     refine ⟨g1, hs, bs, cs, hC.off hW ho (by decide), ⟨Bt.zero h2 h3 h4, (ho _ (by decide)).trans hL.fin, (ho _ (by decide)).trans hL.err, ?_⟩⟩
     exact ⟨hSS.off ho (by decide), h52, by omega, h3, h4⟩
    refine (copyData_c E w1 _ _ hE hR1 rfl hef herr).mono ?_
    rintro e w' ⟨v, rfl, rfl, hR', kp'⟩
    refine ⟨_, rfl, rfl, ⟨_, hR', .inr ⟨_, hm, ?_⟩⟩, kp.trans kp'⟩
    show mData _ _ _ = _
    rw [← mData_true E.S' _ (E.d a.pos + 256 * E.d (a.pos + 1))]
end Go.Proofs.YtejeloeaklpinaaDoor
namespace Go.Proofs.YtejeloeaklpinaaDoor
attribute [local irreducible] wpList wpStill wpMix Code.wp Calls fr
theorem rdTo_of {p pos pos' n : Nat} (h1 : pos ≤ pos') (h2 : pos' = pos ∨ 8 * pos' < p + n + 8) (h3 : p + n ≤ 8 * pos') : pos' = rdTo p pos n := by
 unfold rdTo; omega
theorem Bt.adv {E : Env} {g g' : Nat → Value} {p pos : Nat} (h : Bt E g p pos) (k : Nat) (hk : p + k ≤ 8 * pos) (h2 : ∃ x, g' 2 = .int .i64 x) (h3 : g' 3 = .int .u32 ((bv E.D p (8 * pos - p) / 2 ^ k : Nat) : Int)) (h4 : g' 4 = .int .u64 ((8 * pos - p - k : Nat) : Int)) : Bt E g' (p + k) pos := by
 have h0 := h.le
 have h1 := h.l32
 refine ⟨h2, ?_, ?_, by omega, by omega⟩
 ·rw [h3, bv_shift _ _ _ _ (by omega), show 8 * pos - p - k = 8 * pos - (p + k) by omega]
 ·rw [h4, show 8 * pos - p - k = 8 * pos - (p + k) by omega]
theorem Wd.offs {E : Env} {w : World} {g g' hs bs cs : Nat → Value} {pos : Nat} {L : List Nat} (_ : Wd E w g' hs bs cs pos) (o : Off L g g') : Off L g g' := o
theorem Bt.advW {E : Env} {w : World} {g g' hs bs cs : Nat → Value} {p pos : Nat} (_ : Wd E w g' hs bs cs pos) (h : Bt E g p pos) (k : Nat) (hk : p + k ≤ 8 * pos) (h2 : ∃ x, g' 2 = .int .i64 x) (h3 : g' 3 = .int .u32 ((bv E.D p (8 * pos - p) / 2 ^ k : Nat) : Int)) (h4 : g' 4 = .int .u64 ((8 * pos - p - k : Nat) : Int)) : Bt E g' (p + k) pos := h.adv k hk h2 h3 h4
/-- A block with codes: what its step comes to. -/
def C44 : Prop := ∀ (E : Env) (w : World) (a : A) (hl : Cd) (hd : Option Cd) (c : Option (Nat × Nat)) (g hs bs cs : Nat → Value), E.Ok → Cr E w g hs bs cs a.pos a.out a.fl (a.out.length % 32768) a.e → Live E w g a → SSm g a.md → a.md = .huff hl hd c → a.e = a.fl → a.err = 0 →
 Ret 44 [fp E] w fun v w' => v = .tuple #[] ∧ (∃ b, Rep E w' b ∧ Runs E.S' a b) ∧ Kp E.L w w'
def C43 : Prop := ∀ w : World, Ret 43 [] w fun v w' => ∃ X gx, v = .pointer (some ⟨X, 0, none⟩) ∧ w.heap.size ≤ X ∧ Bk w' X 515 86 gx ∧ (∀ E, HTab E w' gx 0 (cdL fixL)) ∧ LkOk (cdL fixL) ∧ Kp [] w w'
def C45 : Prop := ∀ (E : Env) (w : World) (a : A) (g hs bs cs : Nat → Value), E.Ok → Cr E w g hs bs cs a.pos a.out a.fl (a.out.length % 32768) a.e → Live E w g a → a.md = .next → a.err = 0 →
 Ret 45 [fp E] w fun v w' => ∃ g' bs' cs' b, Kp E.L w w' ∧ Cr E w' g' hs bs' cs' b.pos a.out a.fl (a.out.length % 32768) a.e ∧ b.out = a.out ∧ b.fl = a.fl ∧ b.e = a.e ∧ b.fin = a.fin ∧
  ((ErrV E b.err v ∧ b.err ≠ 0 ∧ mDyn E.S' a = (b, true)) ∨
   (v = .nilIface ∧ b.err = 0 ∧ ∃ hl hd, mDyn E.S' a = (b, false) ∧ b.md = .huff hl (some hd) none ∧ LkOk hl ∧ LkOk hd ∧ HTab E w' g' 5 hl ∧ HTab E w' g' 520 hd ∧ Bt E g' b.p b.pos ∧ (∀ j, 1035 ≤ j → g' j = g j)))
/-- What is asked of the codes, where a block with codes comes. -/
def HC : Prop := C43 ∧ C44 ∧ C45
theorem Wd.lts {E : Env} {w : World} {g hs bs cs : Nat → Value} {pos : Nat} (h : Wd E w g hs bs cs pos) (b : Nat) (hb : b ∈ E.X) : b < w.heap.size := by
 simp only [Env.X, List.mem_cons, List.not_mem_nil, or_false] at hb
 rcases hb with rfl | rfl | rfl | rfl | rfl | rfl | rfl
 ·exact h.F.lt
 ·exact h.H.lt
 ·obtain ⟨_, _, _, hR, _⟩ := h.rd; exact hR.lt
 ·exact h.bt.lt
 ·exact h.cb.lt
 ·exact h.bu.1
 ·exact h.bu.2
theorem nextBlock_w (E : Env) (w : World) (g hs bs cs : Nat → Value) (p pos : Nat) (hE : E.Ok) (hW : Wd E w g hs bs cs pos) (hS : Stc E g) (hB : Bt E g p pos) (he : g 1048 = .nilIface) (Q : World → Prop)
  (hsh : ∀ w' g', 8 * E.N < p + 3 → Wd E w' g' hs bs cs E.N → g' 1048 = UEOFv E → Off [2, 3, 4, 1048] g g' → Kp E.L w w' → Q w')
  (hbad : p + 3 ≤ 8 * E.N → bv E.D p 3 / 2 ≠ 0 ∧ bv E.D p 3 / 2 ≠ 1 ∧ bv E.D p 3 / 2 ≠ 2 → ∀ w' g' pos', pos' = rdTo p pos 3 → Wd E w' g' hs bs cs pos' → (∃ x, g' 1048 = .iface 107 (.int .i64 x)) → Off [2, 3, 4, 1047, 1048] g g' → Kp E.L w w' → Q w')
  (h0 : bv E.D p 3 / 2 = 0 → ∀ w' g' pos', pos' = rdTo p pos 3 → Wd E w' g' hs bs cs pos' → g' 1047 = .bool (decide (bv E.D p 3 % 2 = 1)) → g' 1048 = .nilIface → Bt E g' (p + 3) pos' → Off [2, 3, 4, 1047, 1048] g g' → Kp E.L w w' → Ret 42 [fp E] w' fun v w2 => v = .tuple #[] ∧ Q w2)
  (h1 : p + 3 ≤ 8 * E.N → bv E.D p 3 / 2 = 1 → C43 ∧ ∀ w' g' X gx pos', pos' = rdTo p pos 3 → Wd E w' g' hs bs cs pos' → g' 1047 = .bool (decide (bv E.D p 3 % 2 = 1)) → g' 1048 = .nilIface → g' 1050 = .pointer (some ⟨X, 0, none⟩) → g' 1051 = .pointer none → X ∉ E.X → Bk w' X 515 86 gx → HTab E w' gx 0 (cdL fixL) → LkOk (cdL fixL) →
   Bt E g' (p + 3) pos' → Off [2, 3, 4, 1047, 1048, 1050, 1051] g g' → Kp E.L w w' → Ret 44 [fp E] w' fun v w2 => v = .tuple #[] ∧ Q w2)
  (h2 : bv E.D p 3 / 2 = 2 → ∀ w' g' pos', pos' = rdTo p pos 3 → Wd E w' g' hs bs cs pos' → g' 1047 = .bool (decide (bv E.D p 3 % 2 = 1)) → g' 1048 = .nilIface → Bt E g' (p + 3) pos' → Off [2, 3, 4, 1047, 1048] g g' → Kp E.L w w' → Ret 45 [fp E] w' fun v w2 => ∃ g3 bs2 cs2 pos3, Wd E w2 g3 hs bs2 cs2 pos3 ∧ v.oneCell' = true ∧ Kp E.L w' w2 ∧
   (((∃ t x, v = .iface t x) ∧ ∀ w3 g4, Wd E w3 g4 hs bs2 cs2 pos3 → g4 1048 = v → Off [1048] g3 g4 → Kp E.L w2 w3 → Kp E.L w w3 → Q w3) ∨
    (v = .nilIface ∧ ∀ w3 g4, Wd E w3 g4 hs bs2 cs2 pos3 → g4 1048 = .nilIface → g4 1050 = .pointer (some ⟨E.F, 5, none⟩) → g4 1051 = .pointer (some ⟨E.F, 520, none⟩) → Off [1048, 1050, 1051] g3 g4 → Kp E.L w2 w3 → Kp E.L w w3 → Ret 44 [fp E] w3 fun v w4 => v = .tuple #[] ∧ Q w4))) :
  Ret 35 [fp E] w fun v w' => v = .tuple #[] ∧ Q w' := by
 have kp := Kp.refl E.L w
 have hN := hE.N47
 have hp0 := hB.le
 have hp1 := hB.l32
 refine calls_fr (N := 103) Tryd.func35 rfl rfl (by simp [fp]) rfl ?_
 refine wp_seq ?_
 refine wp_block ?_
 refine loop_fr (fun k f w' => f 0 = fp E ∧ ∃ g' pos', Wd E w' g' hs bs cs pos' ∧ Bt E g' p pos' ∧ Off [2, 3, 4, 1048] g g' ∧ g' 1048 = .nilIface ∧ Kp E.L w w' ∧ pos ≤ pos' ∧ (pos' = pos ∨ 8 * pos' < p + 3 + 8) ∧ k = E.N - pos') (E.N - pos) ⟨rfl, g, pos, hW, hB, Off.refl _ _, he, kp, Nat.le_refl _, .inl rfl, rfl⟩ ?_
 clear hW kp hp0 hp1
 intro k f w1 HJ
 obtain ⟨s0, g1, pos', hW, hB, ho, he, kp, hpp, hpq, rfl⟩ := HJ
 have hp0 := hB.le
 have hp1 := hB.l32
 have hS := hS.off ho (by decide)
 refine slots (fc s0 fnil) ?_
 refine wp_seq ?_
 refine sqr ?_
 refine Mp rfl ?_
 refine Np rfl ?_
 refine L1 (fa95_4 rfl) ?_
 refine L1 (ld38 rfl (hW.F.cellv (by decide) hB.nb)) ?_
 refine L1 (bi rfl rfl (bn_lss (v := decide (8 * pos' - p < 3)) (decide_eq_decide.2 (by omega)))) ?_
 refine nt ?_
 refine cond_d (p := 8 * pos' - p < 3) rfl (fun hlt => ?_) (fun hlt => ?_)
 ·skip
  by_cases hpn : pos' < E.N
  ·skip
   refine skn ?_
   refine wp_block ?_
   refine sqr ?_
   refine Mp rfl ?_
   refine Mp rfl ?_
   refine LC (cl1 has41 rfl rfl) (more_ok E _ g1 hs bs cs p pos' hE hW hS hB (by omega) hpn) ?_
   rintro v w1 ⟨rfl, g2, hW, hB, ho2, kp1⟩
   have kp := kp.trans kp1
   refine Np rfl ?_
   refine L1 (fa95_14 rfl) ?_
   refine Lst62 (v := .nilIface) rfl rfl rfl hW.F (by decide) ?_
   intro w1 hb1 kp1
   have hW := hW.setF hE hb1 kp1
   have kp := kp.F kp1
   clear hb1 kp1
   refine nt ?_
   refine sqr ?_
   refine Mp rfl ?_
   refine Np rfl ?_
   refine L1 (fa95_14 rfl) ?_
   refine L1 (ld62 rfl (hW.F.cellv (v := .nilIface) (by decide) rfl)) ?_
   refine L1 (en_nil rfl rfl) ?_
   refine nt ?_
   refine cond_f rfl ?_
   refine wp_skip ?_
   refine inb_n ?_
   refine then_n ?_
   have hle := hW.rd.le
   refine ⟨E.N - (pos' + 1), _, by omega, rfl, rfl, _, pos' + 1, hW, hB.off ((Off.refl [1048] g2).upd (by decide) _) (by decide), (ho.trans (ho2.mono (by decide))).upd (by decide) _, rfl, kp, by omega, .inr (by omega), rfl⟩
  ·skip
   refine skn ?_
   refine wp_block ?_
   refine sqr ?_
   refine Mp rfl ?_
   refine Mp rfl ?_
   refine LC (cl1 has41 rfl rfl) (more_short E _ g1 hs bs cs p pos' hE hW hS hB (by have := hW.rd.le; omega)) ?_
   rintro v w1 ⟨rfl, hW, kp1⟩
   have kp := kp.trans kp1
   refine Np rfl ?_
   refine L1 (fa95_14 rfl) ?_
   refine Lst62 (v := (UEOFv E)) rfl rfl rfl hW.F (by decide) ?_
   intro w1 hb1 kp1
   have hW := hW.setF hE hb1 kp1
   have kp := kp.F kp1
   clear hb1 kp1
   refine nt ?_
   refine sqr ?_
   refine Mp rfl ?_
   refine Np rfl ?_
   refine L1 (fa95_14 rfl) ?_
   refine L1 (ld62 (v := UEOFv E) rfl (hW.F.cellv (by decide) rfl)) ?_
   refine L1 (en_held (u := 131) rfl rfl) ?_
   refine nt ?_
   refine cond_t rfl ?_
   refine wp_ret ?_
   refine inb_r ?_
   refine then_r ?_
   refine inb_r ?_
   refine then_r ?_
   refine ret0 rfl ?_
   have e : pos' = E.N := by have := hW.rd.le; omega
   rw [e] at hW
   exact ⟨_, rfl, rfl, hsh _ _ (by omega) hW rfl (ho.upd (by decide) _) kp⟩
 ·skip
  have hpos : pos' = rdTo p pos 3 := rdTo_of hpp hpq (by omega)
  have hbv := bv_lt E.D p (8 * pos' - p)
  have h32 : bv E.D p (8 * pos' - p) < 4294967296 := Nat.lt_of_lt_of_le hbv (Nat.pow_le_pow_right (n := 2) (by decide) (show 8 * pos' - p ≤ 32 by omega))
  obtain ⟨ro, hro⟩ := hB.ro
  have hb1 : bv E.D p (8 * pos' - p) % 2 ^ 1 = bv E.D p 3 % 2 := by rw [← bv_mod E.D p (8 * pos' - p) 3 (by omega)]; omega
  have hb2 : bv E.D p (8 * pos' - p) / 2 ^ 1 % 2 ^ 2 = bv E.D p 3 / 2 := by rw [← bv_mod E.D p (8 * pos' - p) 3 (by omega)]; omega
  refine wp_exit ?_
  refine then_e ?_
  refine then_e ?_
  refine inb_same ?_
  refine then_n ?_
  refine sqr ?_
  refine Mp rfl ?_
  refine Mp rfl ?_
  refine Np rfl ?_
  refine L1 (fa95_3 rfl) ?_
  refine L1 (ld82 rfl (hW.F.cellv (by decide) hB.b)) ?_
  refine L1 (bi rfl rfl ((bn_mask32 (k := 1) rfl rfl h32 (by decide)).trans (congrArg (fun x : Nat => pure (Value.int .u32 (x : Int))) hb1))) ?_
  refine L1 (bi rfl rfl (bn_eql (v := decide (bv E.D p 3 % 2 = 1)) (decide_eq_decide.2 (by omega)))) ?_
  refine Np rfl ?_
  refine L1 (fa95_13 rfl) ?_
  refine Lst4 (v := .bool _) rfl rfl rfl hW.F (by decide) ?_
  intro w1 hb1 kp1
  have hW := hW.setF hE hb1 kp1
  have kp := kp.F kp1
  clear hb1 kp1
  refine nt ?_
  refine sqr ?_
  refine Mp rfl ?_
  refine Np rfl ?_
  refine L1 (fa95_3 rfl) ?_
  refine L1 (ld82 rfl (hW.F.cellv (by decide) hB.b)) ?_
  refine L1 (bi rfl rfl (bn_shr (n := 1) rfl rfl (by decide))) ?_
  refine Np rfl ?_
  refine L1 (fa95_3 rfl) ?_
  refine Lst82 (v := .int _ _) rfl rfl rfl hW.F (by decide) ?_
  intro w1 hb1 kp1
  have hW := hW.setF hE hb1 kp1
  have kp := kp.F kp1
  clear hb1 kp1
  refine nt ?_
  refine sqr ?_
  refine Mp rfl ?_
  refine Np rfl ?_
  refine L1 (fa95_3 rfl) ?_
  refine L1 (ld82 rfl (hW.F.cellv (v := .int _ _) (by decide) rfl)) ?_
  refine L1 (bi rfl rfl ((bn_mask32 (k := 2) rfl rfl (by omega) (by decide)).trans (congrArg (fun x : Nat => pure (Value.int .u32 (x : Int))) hb2))) ?_
  refine Ai rfl ?_
  refine nt ?_
  refine sqr ?_
  refine Mp rfl ?_
  refine Np rfl ?_
  refine L1 (fa95_3 rfl) ?_
  refine L1 (ld82 rfl (hW.F.cellv (v := .int _ _) (by decide) rfl)) ?_
  refine L1 (bi rfl rfl (bn_shr (n := 2) rfl rfl (by decide))) ?_
  refine Np rfl ?_
  refine L1 (fa95_3 rfl) ?_
  refine Lst82 (v := .int _ _) rfl rfl rfl hW.F (by decide) ?_
  intro w1 hb1 kp1
  have hW := hW.setF hE hb1 kp1
  have kp := kp.F kp1
  clear hb1 kp1
  refine nt ?_
  refine sqr ?_
  refine Mp rfl ?_
  refine Np rfl ?_
  refine L1 (fa95_4 rfl) ?_
  refine L1 (ld38 rfl (hW.F.cellv (by decide) hB.nb)) ?_
  refine L1 (bi rfl rfl (bn_subu (c := ((8 * pos' - p - 3 : Nat) : Int)) (by omega) (by omega) (by omega))) ?_
  refine Np rfl ?_
  refine L1 (fa95_4 rfl) ?_
  refine Lst38 (v := .int _ _) rfl rfl rfl hW.F (by decide) ?_
  intro w1 hb1 kp1
  have hW := hW.setF hE hb1 kp1
  have kp := kp.F kp1
  clear hb1 kp1
  refine wpList_nil ?_
  have hB3 := Bt.advW hW hB 3 (by omega) ⟨_, hro⟩ (by show Value.int .u32 _ = Value.int .u32 _; rw [Nat.div_div_eq_div_mul]) rfl
  have ho7 := hW.offs (((((ho.mono (by decide)).upd (k := 1047) (by decide) _).upd (k := 3) (by decide) _).upd (k := 3) (by decide) _).upd (k := 4) (by decide) _ : Off [2, 3, 4, 1047, 1048] g _)
  have kp7 := kp
  have hW7 := hW
  have hle := hW.rd.le
  refine then_n ?_
  refine sqr ?_
  refine Mi rfl ?_
  refine nt ?_
  refine wp_block ?_
  refine sqr ?_
  refine L1 (bi rfl rfl (bn_eql (v := decide (bv E.D p 3 / 2 = 0)) (decide_eq_decide.2 (by omega)))) ?_
  refine Ab rfl ?_
  refine nt ?_
  refine cond_d (p := bv E.D p 3 / 2 = 0) rfl (fun hk => ?_) (fun hk => ?_)
  ·skip
   refine reg_lit ?_
   refine Mp rfl ?_
   refine LC (cl1 has42 rfl rfl) (h0 hk _ _ pos' hpos hW rfl he hB3 ho7 kp) ?_
   rintro v w2 ⟨rfl, hQ1⟩
   refine wpList_nil ?_
   refine inb_n ?_
   refine end0 rfl ?_
   exact ⟨_, rfl, rfl, hQ1⟩
  ·skip
   refine sqr ?_
   refine L1 (bi rfl rfl (bn_eql (v := decide (bv E.D p 3 / 2 = 1)) (decide_eq_decide.2 (by omega)))) ?_
   refine Ab rfl ?_
   refine nt ?_
   refine cond_d (p := bv E.D p 3 / 2 = 1) rfl (fun hk1 => ?_) (fun hk1 => ?_)
   ·skip
    refine sqr ?_
    refine Mp rfl ?_
    refine LC (cl0 has43 rfl) ((h1 (by omega) hk1).1 _) ?_
    rintro v w2 ⟨X, gx, rfl, hX, hbX, hTX, hLX, kp1⟩
    have hW := hW.new kp1
    have kp := kp.trans (kp1.mono (by simp))
    have hXL : X ∉ E.X := fun hm => by
     have := hW7.lts X hm
     omega
    refine Np rfl ?_
    refine L1 (fa95_16 rfl) ?_
    have hTX := hTX E
    refine Lst93 (v := .pointer _) rfl rfl rfl hW.F (by decide) ?_
    intro w1 hb1 kp1
    have hW := hW.setF hE hb1 kp1
    have kp := kp.F kp1
    have hbX := hbX.kp kp1 (by simp; exact fun e => hXL (by simp [Env.X, e]))
    have hTX := hTX.keep (kp1.mono (by simp [Env.X])) (fun _ _ _ => rfl)
    refine nt ?_
    refine sqr ?_
    refine Mp rfl ?_
    refine Np rfl ?_
    refine L1 (fa95_17 rfl) ?_
    refine Lst93 (v := .pointer _) rfl rfl rfl hW.F (by decide) ?_
    intro w1 hb1 kp1
    have hW := hW.setF hE hb1 kp1
    have kp := kp.F kp1
    have hbX := hbX.kp kp1 (by simp; exact fun e => hXL (by simp [Env.X, e]))
    have hTX : HTab E _ gx 0 (cdL fixL) := (hTX).keep (kp1.mono (by simp [Env.X])) (fun _ _ _ => rfl)
    clear hb1 kp1
    refine nt ?_
    refine reg_lit ?_
    refine Mp rfl ?_
    refine LC (cl1 has44 rfl rfl) ((h1 (by omega) hk1).2 _ _ X gx pos' hpos hW rfl he rfl rfl hXL hbX hTX hLX (hB3.off (((Off.refl [1050, 1051] _).upd (k := 1050) (by decide) _).upd (k := 1051) (by decide) _) (by decide)) (((ho7.mono (by decide)).upd (k := 1050) (by decide) _).upd (k := 1051) (by decide) _) kp) ?_
    rintro v w2 ⟨rfl, hQ1⟩
    refine wpList_nil ?_
    refine inb_n ?_
    refine end0 rfl ?_
    exact ⟨_, rfl, rfl, hQ1⟩
   ·skip
    refine sqr ?_
    refine L1 (bi rfl rfl (bn_eql (v := decide (bv E.D p 3 / 2 = 2)) (decide_eq_decide.2 (by omega)))) ?_
    refine Ab rfl ?_
    refine nt ?_
    refine cond_d (p := bv E.D p 3 / 2 = 2) rfl (fun hk2 => ?_) (fun hk2 => ?_)
    ·skip
     refine wp_seq ?_
     refine sqr ?_
     refine Mp rfl ?_
     refine Mp rfl ?_
     refine LC (cl1 has45 rfl rfl) (h2 hk2 _ _ pos' hpos hW rfl he hB3 ho7 kp) ?_
     rintro v w2 ⟨g3, bs2, cs2, pos3, hW, hv1, kp1, hrest⟩
     have kp := kp.trans kp1
     refine Np rfl ?_
     refine L1 (fa95_14 rfl) ?_
     refine Lst62 (v := v) rfl rfl hv1 hW.F (by decide) ?_
     intro w1 hb1 kp1
     have hW := hW.setF hE hb1 kp1
     have kp := kp.F kp1
     clear hb1
     refine nt ?_
     rcases hrest with ⟨⟨tv, xv, rfl⟩, hQ1⟩ | ⟨rfl, hQ1⟩
     ·skip
      refine sqr ?_
      refine Mp rfl ?_
      refine Np rfl ?_
      refine L1 (fa95_14 rfl) ?_
      refine L1 (ld62 rfl (hW.F.cellv (v := .iface _ _) (by decide) rfl)) ?_
      refine L1 (en_held rfl rfl) ?_
      refine nt ?_
      refine cond_t rfl ?_
      refine wp_exit ?_
      refine then_e ?_
      refine inb_same ?_
      refine end0 rfl ?_
      exact ⟨_, rfl, rfl, hQ1 _ _ hW rfl ((Off.refl [1048] g3).upd (by decide) _) (kp1.mono (by simp [Env.L])) kp⟩
     ·skip
      refine sqr ?_
      refine Mp rfl ?_
      refine Np rfl ?_
      refine L1 (fa95_14 rfl) ?_
      refine L1 (ld62 rfl (hW.F.cellv (v := .nilIface) (by decide) rfl)) ?_
      refine L1 (en_nil rfl rfl) ?_
      refine nt ?_
      refine cond_f rfl ?_
      refine skn ?_
      refine sqr ?_
      refine Mp rfl ?_
      refine Mp rfl ?_
      refine Np rfl ?_
      refine L1 (fa95_5 rfl) ?_
      refine Np rfl ?_
      refine L1 (fa95_16 rfl) ?_
      refine Lst93 (v := .pointer _) rfl rfl rfl hW.F (by decide) ?_
      intro w1 hb1 kp2
      have hW := hW.setF hE hb1 kp2
      have kp := kp.F kp2
      clear hb1
      refine nt ?_
      refine sqr ?_
      refine Mp rfl ?_
      refine Mp rfl ?_
      refine Np rfl ?_
      refine L1 (fa95_6 rfl) ?_
      refine Np rfl ?_
      refine L1 (fa95_17 rfl) ?_
      refine Lst93 (v := .pointer _) rfl rfl rfl hW.F (by decide) ?_
      intro w1 hb1 kp3
      have hW := hW.setF hE hb1 kp3
      have kp := kp.F kp3
      clear hb1
      refine nt ?_
      refine reg_lit ?_
      refine Mp rfl ?_
      refine LC (cl1 has44 rfl rfl) (hQ1 _ _ hW rfl rfl rfl (((Off.refl [1048, 1050, 1051] g3).upd (k := 1048) (by decide) _).upd (k := 1050) (by decide) _ |>.upd (k := 1051) (by decide) _) ((kp1.mono (by simp [Env.L])).trans ((kp2.mono (by simp [Env.L])).trans (kp3.mono (by simp [Env.L])))) kp) ?_
      rintro v w2 ⟨rfl, hQ2⟩
      refine wpList_nil ?_
      refine inb_n ?_
      refine end0 rfl ?_
      exact ⟨_, rfl, rfl, hQ2⟩
    ·skip
     refine reg_lit ?_
     refine Mp rfl ?_
     refine Mp rfl ?_
     refine Np rfl ?_
     refine L1 (fa95_2 rfl) ?_
     refine L1 (ld2 rfl (hW.F.cellv (by decide) hro)) ?_
     refine L1 (mkI107 rfl) ?_
     refine Np rfl ?_
     refine L1 (fa95_14 rfl) ?_
     refine Lst62 (v := .iface _ _) rfl rfl rfl hW.F (by decide) ?_
     intro w1 hb1 kp1
     have hW := hW.setF hE hb1 kp1
     have kp := kp.F kp1
     clear hb1 kp1
     refine wpList_nil ?_
     refine inb_n ?_
     refine end0 rfl ?_
     exact ⟨_, rfl, rfl, hbad (by omega) ⟨hk, hk1, hk2⟩ _ _ pos' hpos hW ⟨_, rfl⟩ (ho7.upd (by decide) _) kp⟩
end Go.Proofs.YtejeloeaklpinaaDoor
namespace Go.Proofs.YtejeloeaklpinaaDoor
theorem errIface {E : Env} {c : Nat} {v : Value} (h : ErrV E c v) (hc : c ≠ 0) : ∃ t x, v = .iface t x := by
 rcases h with ⟨h, _⟩ | ⟨_, h⟩ | ⟨_, h⟩ | ⟨_, n, h⟩
 ·exact absurd h hc
 ·exact ⟨_, _, h⟩
 ·exact ⟨_, _, h⟩
 ·exact ⟨_, _, h⟩
theorem mic_next {S : Src} {a : A} (h : a.md = .next) : mic S a = mNext S a := by unfold mic; rw [h]
/-- The machine behind a block's first three bits. -/
def A.headed (S : Src) (a : A) : A := { a with p := a.p + 3, pos := rdTo a.p a.pos 3, fin := decide (bv S.D a.p 3 % 2 = 1) }
theorem nextBlock_c (E : Env) (w : World) (a : A) (hE : E.Ok) (hR : RepI E w a) (hmd : a.md = .next) (hef : a.e = a.fl) (herr : a.err = 0) (hH : a.p + 3 ≤ 8 * E.N → bv E.D a.p 3 / 2 = 1 ∨ bv E.D a.p 3 / 2 = 2 → HC) :
  Ret 35 [fp E] w fun v w' => v = .tuple #[] ∧ (∃ c, Rep E w' c ∧ Runs E.S' a c) ∧ Kp E.L w w' := by
 obtain ⟨g, hs, bs, cs, hC, hL⟩ := hR
 have hmd' := hL.md
 rw [hmd] at hmd'
 obtain ⟨hSS, hl⟩ := hmd'
 have hSN : E.S'.N = E.N := rfl
 have hSD : E.S'.D = E.D := rfl
 have hle := hC.W.rd.le
 have hRI : ∀ w' g', Wd E w' g' hs bs cs (rdTo a.p a.pos 3) → g' 1047 = .bool (decide (bv E.D a.p 3 % 2 = 1)) → g' 1048 = .nilIface → Bt E g' (a.p + 3) (rdTo a.p a.pos 3) → Off [2, 3, 4, 1047, 1048] g g' →
   Cr E w' g' hs bs cs (a.headed E.S').pos (a.headed E.S').out (a.headed E.S').fl ((a.headed E.S').out.length % 32768) (a.headed E.S').e ∧ Live E w' g' (a.headed E.S') := by
  intro w' g' hW h47 h48 hB ho
  refine ⟨hC.off hW ho (by decide), ⟨hB, h47, h48, ?_⟩⟩
  show Md E w' g' a.out a.md
  rw [hmd]
  exact ⟨hSS.off ho (by decide), (ho _ (by decide)).trans hl⟩
 refine nextBlock_w E w g hs bs cs a.p a.pos hE hC.W hC.S hL.B hL.err (fun w' => (∃ c, Rep E w' c ∧ Runs E.S' a c) ∧ Kp E.L w w') ?_ ?_ ?_ ?_ ?_
 ·intro w' g' hp hW h48 ho kp
  refine ⟨⟨a.short E.S', ⟨g', hs, bs, cs, hC.off hW ho (by decide), .inr (.inr (.inl ⟨rfl, h48⟩)), fun h => by cases h⟩, .stop ?_⟩, kp⟩
  rw [mic_next hmd]; unfold mNext; rw [hSN, if_pos hp]
 ·intro hp hk w' g' pos' hpos hW h48 ho kp
  subst hpos
  refine ⟨⟨(a.headed E.S').bad, ⟨g', hs, bs, cs, hC.off hW ho (by decide), .inr (.inr (.inr ⟨rfl, h48⟩)), fun h => by cases h⟩, .stop ?_⟩, kp⟩
  rw [mic_next hmd]; unfold mNext; rw [hSN, hSD, if_neg (by omega), if_neg hk.1, if_neg hk.2.1, if_neg hk.2.2]; rfl
 ·intro hk w' g' pos' hpos hW h47 h48 hB ho kp
  subst hpos
  obtain ⟨hC', hL'⟩ := hRI w' g' hW h47 h48 hB ho
  refine (dataBlock_c E w' (a.headed E.S') hE ⟨g', hs, bs, cs, hC', hL'⟩ hmd hef herr).mono ?_
  rintro e w2 ⟨v, rfl, rfl, ⟨c, hRc, hm⟩, kp2⟩
  have hp8 := hB.le
  have hpN := hW.rd.le
  have hmic : mic E.S' a = mStored E.S' (a.headed E.S') := by
   rw [mic_next hmd]; unfold mNext; rw [hSN, hSD, if_neg (by omega), if_pos hk]; rfl
  refine ⟨_, rfl, rfl, ⟨c, hRc, ?_⟩, kp.trans kp2⟩
  rcases hm with hm | ⟨b, hm, hm2⟩
  ·exact .stop (hmic.trans hm)
  ·exact .more (hmic.trans hm) (.stop hm2)
 ·intro hp hk
  obtain ⟨h43, h44, _⟩ := hH hp (.inl hk)
  refine ⟨h43, ?_⟩
  intro w' g' X gx pos' hpos hW h47 h48 h50 h51 hX hbX hT hLk hB ho kp
  subst hpos
  have hmic : mic E.S' a = ({ a.headed E.S' with md := .huff (cdL fixL) none none }, false) := by
   rw [mic_next hmd]; unfold mNext; rw [hSN, hSD, if_neg (by omega), if_neg (by omega), if_pos hk]; rfl
  refine (h44 E w' { a.headed E.S' with md := .huff (cdL fixL) none none } (cdL fixL) none none g' hs bs cs hE (hC.off hW ho (by decide)) ⟨hB, h47, h48, ?_⟩ trivial rfl hef herr).mono ?_
  ·exact ⟨⟨hLk, h51, X, gx, h50, hX, hbX, hT⟩, hSS.off ho (by decide), (ho _ (by decide)).trans hl⟩
  ·rintro e w2 ⟨v, rfl, rfl, ⟨c, hRc, hm⟩, kp2⟩
   exact ⟨_, rfl, rfl, ⟨c, hRc, .more hmic hm⟩, kp.trans kp2⟩
 ·intro hk w' g' pos' hpos hW h47 h48 hB ho kp
  subst hpos
  have hp8 := hB.le
  have hpN := hW.rd.le
  obtain ⟨_, h44, h45⟩ := hH (by omega) (.inr hk)
  obtain ⟨hC', hL'⟩ := hRI w' g' hW h47 h48 hB ho
  refine (h45 E w' (a.headed E.S') g' hs bs cs hE hC' hL' hmd herr).mono ?_
  rintro e w2 ⟨v, rfl, g3, bs2, cs2, b, kp1, hC3, ho1, ho2, ho3, ho4, hr⟩
  have hmic : mic E.S' a = mDyn E.S' (a.headed E.S') := by
   rw [mic_next hmd]; unfold mNext; rw [hSN, hSD, if_neg (by omega), if_neg (by omega), if_neg (by omega), if_pos hk]; rfl
  rcases hr with ⟨hv, hne, hm⟩ | ⟨rfl, hbe, hl1, hd1, hm, hbm, hk1, hk2, ht1, ht2, hB3, hkeep⟩
  ·have hvi := errIface hv hne
   refine ⟨_, rfl, g3, bs2, cs2, b.pos, hC3.W, by obtain ⟨t, x, rfl⟩ := hvi; rfl, kp1, .inl ⟨hvi, ?_⟩⟩
   intro w3 g4 hW4 h48' ho' kp2 kp3
   refine ⟨⟨b, ⟨g4, hs, bs2, cs2, ?_, by rw [h48']; exact hv, fun h => absurd h hne⟩, .stop (hmic.trans hm)⟩, kp3⟩
   rw [ho1, ho2, ho3]
   exact hC3.off hW4 ho' (by decide)
  ·refine ⟨_, rfl, g3, bs2, cs2, b.pos, hC3.W, rfl, kp1, .inr ⟨rfl, ?_⟩⟩
   intro w3 g4 hW4 h48' h50 h51 ho' kp2 kp3
   have hk5 : ∀ j, j < 1035 → g4 j = g3 j := fun j hj => ho' j (by simp; omega)
   refine (h44 E w3 b hl1 (some hd1) none g4 hs bs2 cs2 hE ?_ ⟨?_, ?_, h48', ?_⟩ ?_ hbm (by rw [ho2, ho3]; exact hef) hbe).mono ?_
   ·rw [ho1, ho2, ho3]; exact hC3.off hW4 ho' (by decide)
   ·exact hB3.off ho' (by decide)
   ·rw [ho4]; exact ((ho' _ (by decide)).trans (hkeep 1047 (by decide))).trans h47
   ·rw [hbm]
    refine ⟨⟨hk1, hk2, h50, h51, ht1.keep kp2.X (fun j _ _ => hk5 j (by omega)), ht2.keep kp2.X (fun j _ _ => hk5 j (by omega))⟩, ?_, ?_⟩
    ·have hS3 : SS g3 := by
      have e1 : g3 1046 = g' 1046 := hkeep _ (by decide)
      have e2 : g3 1053 = g' 1053 := hkeep _ (by decide)
      have := hSS.off ho (by decide)
      unfold SS at this ⊢
      rw [e1, e2]; exact this
     exact hS3.off ho' (by decide)
    ·exact (((ho' _ (by decide)).trans (hkeep 1052 (by decide))).trans (ho _ (by decide))).trans hl
   ·rw [hbm]; trivial
   ·rintro e w4 ⟨v, rfl, rfl, ⟨c, hRc, hm2⟩, kp4⟩
    exact ⟨_, rfl, rfl, ⟨c, hRc, .more (hmic.trans hm) hm2⟩, kp3.trans kp4⟩
end Go.Proofs.YtejeloeaklpinaaDoor
namespace Go.Proofs.YtejeloeaklpinaaDoor
def rank : Mode → Nat
 | .next => 0
 | .data _ => 1
 | .huff _ _ none => 1
 | .huff _ _ (some _) => 2
def qv (a : A) : Nat :=
 match a.md with
 | .data _ => 8 * a.pos
 | _ => a.p
def mu (S : Src) (a : A) : Nat := 3 * (8 * S.N - qv a) + rank a.md
theorem getBits_ok {S : Src} {p pos n v p' pos' : Nat} (h : getBits S p pos n = .ok v p' pos') : p' = p + n ∧ p + n ≤ 8 * S.N := by
 unfold getBits at h
 split at h
 ·rename_i h1; cases h; exact ⟨rfl, h1⟩
 ·cases h
theorem getSym_ok {S : Src} {c : Cd} {p pos v p' pos' : Nat} (h : getSym S c p pos = .ok v p' pos') : p < p' ∧ p' ≤ 8 * S.N := by
 unfold getSym at h
 simp only at h
 split at h
 ·split at h <;> cases h
 ·rename_i h0
  split at h
  ·rename_i h1; cases h
   have := Nat.le_max_right c.m (c.lk (S.D / 2 ^ p) % 16)
   exact ⟨by omega, by omega⟩
  ·cases h
theorem getLen_ok {S : Src} {x p pos v p' pos' : Nat} (h : getLen S x p pos = .ok v p' pos') : p ≤ p' := by
 unfold getLen at h
 split at h
 ·cases h
 ·split at h
  ·cases h; exact Nat.le_refl _
  ·cases hg : getBits S p pos (lenOf x).2 with
   | ok a b c => rw [hg] at h; simp only [Got.bind] at h; cases h; have := getBits_ok hg; omega
   | short => rw [hg] at h; cases h
   | bad => rw [hg] at h; cases h
theorem getDist_ok {S : Src} {hd : Option Cd} {p pos v p' pos' : Nat} (h : getDist S hd p pos = .ok v p' pos') : p ≤ p' := by
 unfold getDist at h
 have key : ∀ (x : Got), (∀ a b c, x = .ok a b c → p ≤ b) → (x.bind fun d p pos =>
   if d < 4 then .ok (d + 1) p pos
   else if d < 30 then (getBits S p pos ((d - 2) / 2)).bind fun x p pos => .ok (2 ^ ((d - 2) / 2 + 1) + 1 + (d % 2 * 2 ^ ((d - 2) / 2) + x)) p pos
   else .bad p pos) = .ok v p' pos' → p ≤ p' := by
  intro x hx h
  cases x with
  | short => cases h
  | bad => cases h
  | ok a b c =>
   have h0 := hx a b c rfl
   simp only [Got.bind] at h
   split at h
   ·cases h; exact h0
   ·split at h
    ·split at h
     ·rename_i hg; cases h; have := getBits_ok hg; omega
     ·cases h
     ·cases h
    ·cases h
 refine key _ ?_ h
 intro a b c hx
 cases hd with
 | none =>
  simp only at hx
  cases hg : getBits S p pos 5 with
  | ok a b c => rw [hg] at hx; simp only [Got.bind] at hx; cases hx; have := getBits_ok hg; omega
  | short => rw [hg] at hx; cases hx
  | bad => rw [hg] at hx; cases hx
 | some cd => have := getSym_ok hx; omega
theorem clLens_ok {S : Src} : ∀ (k p pos : Nat) (f f' : Nat → Nat) (p' pos' : Nat), clLens S k p pos f = some (f', p', pos') → p ≤ p'
 | 0, p, pos, f, f', p', pos', h => by simp only [clLens, Option.some.injEq, Prod.mk.injEq] at h; omega
 | k + 1, p, pos, f, f', p', pos', h => by
  simp only [clLens] at h
  cases hc : clLens S k p pos f with
  | none => rw [hc] at h; cases h
  | some x =>
   obtain ⟨f1, p1, q1⟩ := x
   rw [hc] at h
   simp only at h
   have := clLens_ok k p pos f f1 p1 q1 hc
   split at h
   ·simp only [Option.some.injEq, Prod.mk.injEq] at h; omega
   ·cases h
theorem rdLens_ok {S : Src} {c : Cd} {n : Nat} : ∀ (k : Nat) (l : List Nat) (p pos : Nat) (l' : List Nat) (p' pos' : Nat), rdLens S c n k l p pos = .ok l' p' pos' → p ≤ p'
 | 0, l, p, pos, l', p', pos', h => by simp only [rdLens, Lens.ok.injEq] at h; omega
 | k + 1, l, p, pos, l', p', pos', h => by
  simp only [rdLens] at h
  split at h
  ·simp only [Lens.ok.injEq] at h; omega
  ·cases hg : getSym S c p pos with
   | short => rw [hg] at h; cases h
   | bad => rw [hg] at h; cases h
   | ok x p1 q1 =>
    rw [hg] at h
    have h1 := getSym_ok hg
    simp only at h
    split at h
    ·have := rdLens_ok k _ _ _ _ _ _ h; omega
    ·split at h
     ·cases h
     ·cases hb : getBits S p1 q1 (if x = 16 then 2 else if x = 17 then 3 else 7) with
      | short => rw [hb] at h; cases h
      | bad => rw [hb] at h; cases h
      | ok r p2 q2 =>
       rw [hb] at h
       have h2 := getBits_ok hb
       simp only at h
       generalize (if x = 18 then 11 else 3) + r = rep at h
       split at h
       ·cases h
       ·have := rdLens_ok k _ _ _ _ _ _ h; omega
theorem lz_length (out : List Nat) (d : Nat) : ∀ k, (lz out d k).length = out.length + k
 | 0 => rfl
 | k + 1 => by simp [lz, lz_length out d k]; omega
/-- What one round leaves. -/
structure Goes (S : Src) (a : A) (x : A × Bool) : Prop where
 e : x.1.e = a.e
 len : a.out.length ≤ x.1.out.length
 fl : x.1.fl = a.fl ∨ x.1.fl = x.1.out.length
 low : x.1.err = 0 → mu S x.1 < mu S a ∨ a.out.length < x.1.fl
 fal : x.2 = false → x.1.err = a.err ∧ mu S x.1 < mu S a ∧ x.1.fl = a.fl
theorem goes_err {S : Src} {a b : A} (he : b.e = a.e) (hl : a.out.length ≤ b.out.length) (hf : b.fl = a.fl ∨ b.fl = b.out.length) (hr : b.err ≠ 0) : Goes S a (b, true) := ⟨he, hl, hf, fun h => absurd h hr, fun h => by cases h⟩
theorem mu_lt {S : Src} {a b : A} (h1 : qv a < 8 * S.N) (h2 : qv a < qv b) (h3 : rank b.md ≤ 2) : mu S b < mu S a := by
 unfold mu; omega
theorem rank_le (m : Mode) : rank m ≤ 2 := by
 cases m with
 | next => simp [rank]
 | data n => simp [rank]
 | huff hl hd c => cases c <;> simp [rank]
theorem goes_finish {S : Src} {a b : A} (he : b.e = a.e) (hl : a.out.length ≤ b.out.length) (hf : b.fl = a.fl ∨ b.fl = b.out.length) (hm : mu S { b with md := .next } < mu S a) : Goes S a (b.finish, true) := by
 unfold A.finish
 split
 ·exact ⟨he, hl, .inr rfl, fun h => (by cases h), fun h => (by cases h)⟩
 ·exact ⟨he, hl, hf, fun _ => .inl hm, fun h => by cases h⟩
theorem avail_pos (out : List Nat) : 0 < avail out := by unfold avail; have := Nat.mod_lt out.length (show 32768 > 0 by decide); omega
theorem goes_huff {S : Src} {a : A} {hl : Cd} {hd : Option Cd} {c : Option (Nat × Nat)} (hm : a.md = .huff hl hd c) : Goes S a (mHuff S a hl hd c) := by
 have hq : qv a = a.p := by unfold qv; rw [hm]
 have hav := avail_pos a.out
 cases c with
 | none =>
  simp only [mHuff]
  split
  ·exact goes_err rfl (Nat.le_refl _) (.inl rfl) (by simp [A.short])
  ·exact goes_err rfl (Nat.le_refl _) (.inl rfl) (by simp [A.bad])
  ·rename_i v p pos hg
   have h1 := getSym_ok hg
   split
   ·split
    ·exact ⟨rfl, by simp [A.flush], .inr rfl, fun _ => .inr (by simp [A.flush]), fun h => by cases h⟩
    ·have hh := mu_lt (S := S) (a := a) (b := { a with p := p, pos := pos, out := a.out ++ [v], md := .huff hl hd none }) (by omega) (by rw [hq]; exact h1.1) (rank_le _)
     exact ⟨rfl, by simp, .inl rfl, fun _ => .inl hh, fun _ => ⟨rfl, hh, rfl⟩⟩
   ·split
    ·exact goes_finish rfl (Nat.le_refl _) (.inl rfl) (mu_lt (by omega) (by rw [hq]; exact h1.1) (rank_le _))
    ·split
     ·exact goes_err rfl (Nat.le_refl _) (.inl rfl) (by simp [A.short])
     ·exact goes_err rfl (Nat.le_refl _) (.inl rfl) (by simp [A.bad])
     ·rename_i len p2 pos2 hg2
      have h2 := getLen_ok hg2
      split
      ·exact goes_err rfl (Nat.le_refl _) (.inl rfl) (by simp [A.short])
      ·exact goes_err rfl (Nat.le_refl _) (.inl rfl) (by simp [A.bad])
      ·rename_i dist p3 pos3 hg3
       have h3 := getDist_ok hg3
       split
       ·exact goes_err rfl (Nat.le_refl _) (.inl rfl) (by simp [A.bad])
       ·have hh := mu_lt (S := S) (a := a) (b := { a with p := p3, pos := pos3, md := .huff hl hd (some (len, dist)) }) (by omega) (by rw [hq]; show a.p < p3; omega) (rank_le _)
        exact ⟨rfl, Nat.le_refl _, .inl rfl, fun _ => .inl hh, fun _ => ⟨rfl, hh, rfl⟩⟩
 | some x =>
  obtain ⟨len, dist⟩ := x
  simp only [mHuff]
  split
  ·exact ⟨rfl, by simp [A.flush, lz_length], .inr rfl, fun _ => .inr (by simp only [A.flush, lz_length]; omega), fun h => by cases h⟩
  ·have hh : mu S { a with out := lz a.out dist len, md := .huff hl hd none } < mu S a := by
    unfold mu
    rw [hq, hm]
    show 3 * (8 * S.N - a.p) + 1 < 3 * (8 * S.N - a.p) + 2
    omega
   exact ⟨rfl, by simp [lz_length], .inl rfl, fun _ => .inl hh, fun _ => ⟨rfl, hh, rfl⟩⟩
theorem goes_data {S : Src} {a : A} {n : Nat} (hm : a.md = .data n) : Goes S a (mData S a n) := by
 have hq : qv a = 8 * a.pos := by unfold qv; rw [hm]
 have hav := avail_pos a.out
 simp only [mData]
 split
 ·exact goes_err rfl (by simp [A.short]) (.inl rfl) (by simp [A.short])
 ·split
  ·exact ⟨rfl, by simp [A.flush], .inr rfl, fun _ => .inr (by simp only [A.flush, List.length_append, bytesAt_length]; omega), fun h => by cases h⟩
  ·refine goes_finish rfl (by simp) (.inl rfl) ?_
   unfold mu
   rw [hq, hm]
   show 3 * (8 * S.N - 8 * (a.pos + n)) + 0 < 3 * (8 * S.N - 8 * a.pos) + 1
   omega
theorem goes_dyn {S : Src} {a b0 : A} (h0 : a.p < b0.p) (h1 : qv a = a.p) (h2 : a.p < 8 * S.N) (he : b0.e = a.e) (hl : a.out = b0.out) (hf : b0.fl = a.fl) (hr : b0.err = a.err) : Goes S a (mDyn S b0) := by
 have hl' : a.out.length ≤ b0.out.length := by rw [hl]; exact Nat.le_refl _
 unfold mDyn
 split
 ·exact goes_err he hl' (.inl hf) (by simp [A.short])
 ·simp only
  split
  ·exact goes_err he hl' (.inl hf) (by simp [A.bad])
  ·split
   ·exact goes_err he hl' (.inl hf) (by simp [A.short])
   ·rename_i f p pos hc
    have h3 := clLens_ok _ _ _ _ _ _ _ hc
    split
    ·exact goes_err he hl' (.inl hf) (by simp [A.bad])
    ·split
     ·exact goes_err he hl' (.inl hf) (by simp [A.short])
     ·exact goes_err he hl' (.inl hf) (by simp [A.bad])
     ·rename_i l p2 pos2 hrl
      have h4 := rdLens_ok _ _ _ _ _ _ _ hrl
      split
      ·exact goes_err he hl' (.inl hf) (by simp [A.bad])
      ·refine ⟨he, hl', .inl hf, fun _ => .inl (mu_lt (by omega) ?_ (rank_le _)), fun _ => ⟨hr, mu_lt (by omega) ?_ (rank_le _), hf⟩⟩
       ·rw [h1]; show a.p < p2; omega
       ·rw [h1]; show a.p < p2; omega
theorem goes_stored {S : Src} {a b0 : A} (h0 : a.p < 8 * b0.pos + 1) (h1 : qv a = a.p) (h2 : a.p < 8 * S.N) (he : b0.e = a.e) (hl : a.out = b0.out) (hf : b0.fl = a.fl) (hr : b0.err = a.err) : Goes S a (mStored S b0) := by
 have hl' : a.out.length ≤ b0.out.length := by rw [hl]; exact Nat.le_refl _
 unfold mStored
 split
 ·exact goes_err he hl' (.inl hf) (by simp [A.short])
 ·split
  ·exact goes_err he hl' (.inl hf) (by simp [A.bad])
  ·split
   ·refine goes_finish he hl' (.inr rfl) (mu_lt (by omega) ?_ (rank_le _))
    rw [h1]; show a.p < 8 * (b0.pos + 4); omega
   ·refine ⟨he, hl', .inl hf, fun _ => .inl (mu_lt (by omega) ?_ (rank_le _)), fun _ => ⟨hr, mu_lt (by omega) ?_ (rank_le _), hf⟩⟩
    ·rw [h1]; show a.p < 8 * (b0.pos + 4); omega
    ·rw [h1]; show a.p < 8 * (b0.pos + 4); omega
theorem goes_mic (S : Src) (a : A) : Goes S a (mic S a) := by
 cases hm : a.md with
 | huff hl hd c => unfold mic; rw [hm]; exact goes_huff hm
 | data n => unfold mic; rw [hm]; exact goes_data hm
 | next =>
  have hq : qv a = a.p := by unfold qv; rw [hm]
  rw [mic_next hm]
  unfold mNext
  split
  ·exact goes_err rfl (Nat.le_refl _) (.inl rfl) (by simp [A.short])
  ·simp only
   split
   ·refine goes_stored ?_ hq (by omega) rfl rfl rfl rfl
    show a.p < 8 * rdTo a.p a.pos 3 + 1
    unfold rdTo; omega
   ·split
    ·refine ⟨rfl, Nat.le_refl _, .inl rfl, fun _ => .inl (mu_lt (by omega) ?_ (rank_le _)), fun _ => ⟨rfl, mu_lt (by omega) ?_ (rank_le _), rfl⟩⟩
     ·rw [hq]; show a.p < a.p + 3; omega
     ·rw [hq]; show a.p < a.p + 3; omega
    ·split
     ·exact goes_dyn (by show a.p < a.p + 3; omega) hq (by omega) rfl rfl rfl rfl
     ·exact goes_err rfl (Nat.le_refl _) (.inl rfl) (by simp [A.bad])
/-- What a step leaves. -/
theorem Runs.goes {S : Src} {a b : A} (h : Runs S a b) : a.fl ≤ a.out.length → b.e = a.e ∧ a.fl ≤ b.fl ∧ b.fl ≤ b.out.length ∧ (b.err = 0 → mu S b < mu S a ∨ a.fl < b.fl) ∧ (b.fl = a.fl ∨ b.fl = b.out.length) := by
 induction h with
 | @stop a b h =>
  intro h0
  have hg := goes_mic S a
  rw [h] at hg
  obtain ⟨h1, h2, h3, h4, _⟩ := hg
  simp only at h1 h2 h3 h4
  refine ⟨h1, by rcases h3 with h3 | h3 <;> omega, by rcases h3 with h3 | h3 <;> omega, fun he => ?_, h3⟩
  rcases h4 he with h4 | h4
  ·exact .inl h4
  ·exact .inr (by omega)
 | @more a b c h _ ih =>
  intro h0
  have hg := goes_mic S a
  rw [h] at hg
  obtain ⟨h1, h2, h3, h4, h5⟩ := hg
  simp only at h1 h2 h3 h4 h5
  obtain ⟨i1, i2, i3, i4, i5⟩ := ih (by rcases h3 with h3 | h3 <;> omega)
  obtain ⟨_, h6, h7⟩ := h5 trivial
  refine ⟨i1.trans h1, by omega, i3, fun he => ?_, by rw [← h7]; exact i5⟩
  rcases i4 he with i4 | i4
  ·exact .inl (by omega)
  ·exact .inr (by omega)
def meas (S : Src) (a : A) : Nat := if a.e < a.fl ∨ a.err ≠ 0 then 0 else mu S a + 1
theorem meas_lt {S : Src} {a b : A} (h0 : a.fl ≤ a.out.length) (hf : a.e = a.fl) (he : a.err = 0) (h : Runs S a b) (hb : b.err = 0) : meas S b < meas S a := by
 obtain ⟨h1, h2, h3, h4, _⟩ := h.goes h0
 unfold meas
 rw [if_neg (show ¬ (a.e < a.fl ∨ a.err ≠ 0) by omega)]
 split
 ·omega
 ·rename_i hn
  rcases h4 hb with h4 | h4
  ·omega
  ·exact absurd (.inl (by omega)) hn
/-- What was handed on and not yet taken is all that was told. -/
def Pend (a : A) : Prop := a.e < a.fl → a.fl = a.out.length
theorem Pend.step {S : Src} {a b : A} (h0 : a.fl ≤ a.out.length) (hf : a.e = a.fl) (h : Runs S a b) : Pend b := by
 obtain ⟨h1, h2, h3, h4, h5⟩ := h.goes h0
 intro hlt
 rcases h5 with h5 | h5
 ·omega
 ·exact h5
theorem Md.keep {E : Env} {w w' : World} {g g' : Nat → Value} {out : List Nat} {m : Mode} {L : List Nat} (h : Md E w g out m) (k : Kp E.X w w') (o : Off L g g') (hL : ∀ j, j ∈ L → j < 3 ∨ 1035 ≤ j) (h0 : 1046 ∉ L ∧ 1050 ∉ L ∧ 1051 ∉ L ∧ 1052 ∉ L ∧ 1053 ∉ L) : Md E w' g' out m := by
 have n : ∀ j, 3 ≤ j → j < 1035 → j ∉ L := fun j a b hm => by have := hL j hm; omega
 cases m with
 | next => exact ⟨h.1.off o ⟨h0.1, h0.2.2.2.2⟩, (o _ h0.2.2.2.1).trans h.2⟩
 | data k =>
  obtain ⟨h1, h2, h3, h4, h5⟩ := h
  exact ⟨h1.off o ⟨h0.1, h0.2.2.2.2⟩, (o _ h0.2.2.2.1).trans h2, h3, (o _ (n _ (by omega) (by omega))).trans h4, (o _ (n _ (by omega) (by omega))).trans h5⟩
 | huff hl hd c =>
  cases c with
  | none =>
   obtain ⟨h1, h2, h3⟩ := h
   exact ⟨h1.keep k o (fun j hm => by have := hL j hm; omega) ⟨h0.2.1, h0.2.2.1⟩, h2.off o ⟨h0.1, h0.2.2.2.2⟩, (o _ h0.2.2.2.1).trans h3⟩
  | some x =>
   obtain ⟨len, dist⟩ := x
   obtain ⟨h1, h2, h3, h4, h5⟩ := h
   exact ⟨h1.keep k o (fun j hm => by have := hL j hm; omega) ⟨h0.2.1, h0.2.2.1⟩, (o _ h0.2.2.2.1).trans h2, h3, (o _ h0.2.2.2.2).trans h4, h5⟩
theorem Live.keep {E : Env} {w w' : World} {g g' : Nat → Value} {a a' : A} {L : List Nat} (h : Live E w g a) (k : Kp E.X w w') (o : Off L g g') (hL : ∀ j, j ∈ L → j < 2 ∨ 1035 ≤ j)
  (h0 : 1046 ∉ L ∧ 1047 ∉ L ∧ 1048 ∉ L ∧ 1050 ∉ L ∧ 1051 ∉ L ∧ 1052 ∉ L ∧ 1053 ∉ L) (ha : a'.p = a.p ∧ a'.pos = a.pos ∧ a'.fin = a.fin ∧ a'.out = a.out ∧ a'.md = a.md) : Live E w' g' a' := by
 obtain ⟨e1, e2, e3, e4, e5⟩ := ha
 have n : ∀ j, 2 ≤ j → j < 1035 → j ∉ L := fun j a b hm => by have := hL j hm; omega
 refine ⟨?_, ?_, (o _ h0.2.2.1).trans h.err, ?_⟩
 ·rw [e1, e2]; exact h.B.off o ⟨n _ (by omega) (by omega), n _ (by omega) (by omega), n _ (by omega) (by omega)⟩
 ·rw [e3]; exact (o _ h0.2.1).trans h.fin
 ·rw [e4, e5]; exact h.md.keep k o (fun j hm => by have := hL j hm; omega) ⟨h0.1, h0.2.2.2⟩
theorem SSm.keep {g g' : Nat → Value} {m : Mode} {L : List Nat} (h : SSm g m) (o : Off L g g') (h0 : 1046 ∉ L) : SSm g' m := by
 cases m with
 | next => trivial
 | data n => trivial
 | huff hl hd c =>
  cases c with
  | none => trivial
  | some x => exact (o _ h0).trans h
theorem Rep.keep {E : Env} {w w' : World} {a : A} (h : Rep E w a) (k : Kp [] w w') : Rep E w' a := by
 obtain ⟨g, hs, bs, cs, hC, he, hl⟩ := h
 refine ⟨g, hs, bs, cs, ⟨hC.W.new k, hC.S, hC.V, hC.D, hC.T, hC.Z⟩, he, fun h0 => ?_⟩
 obtain ⟨h1, h2, h3⟩ := hl h0
 exact ⟨h1.keep (k.mono (by simp)) (Off.refl [] g) (by simp) (by simp) ⟨rfl, rfl, rfl, rfl, rfl⟩, h2, h3⟩
theorem Rep.drew {E : Env} {w : World} {a : A} (h : Rep E w a) : Rep E w.drew a := h.keep (Kp.refl [] w).drew
end Go.Proofs.YtejeloeaklpinaaDoor
namespace Go.Proofs.YtejeloeaklpinaaDoor
attribute [local irreducible] wpList wpStill wpMix Code.wp Calls fr
/-- The codes are wanted at this state. -/
def needsM (S : Src) (a : A) : Prop :=
 match a.md with
 | .huff _ _ _ => True
 | .next => a.p + 3 ≤ 8 * S.N ∧ (bv S.D a.p 3 / 2 = 1 ∨ bv S.D a.p 3 / 2 = 2)
 | .data _ => False
def needs (S : Src) (a : A) : Prop := a.err = 0 ∧ needsM S a
/-- One step of the reader, whatever it is. -/
theorem step_c (E : Env) (w : World) (a : A) (hE : E.Ok) (g hs bs cs : Nat → Value) (hC : Cr E w g hs bs cs a.pos a.out a.fl (a.out.length % 32768) a.e) (hL : Live E w g a) (h45 : g 1045 = fnv (stepOf a.md)) (hSm : SSm g a.md) (hef : a.e = a.fl) (herr : a.err = 0) (hH : needs E.S' a → HC) :
  ∃ k fn, Has k fn ∧ g 1045 = fnv k ∧ Ret k [fp E] w fun v w' => v = .tuple #[] ∧ (∃ c, Rep E w' c ∧ Runs E.S' a c) ∧ Kp E.L w w' := by
 cases hm : a.md with
 | next =>
  rw [hm] at h45
  refine ⟨35, _, has35, h45, nextBlock_c E w a hE ⟨g, hs, bs, cs, hC, hL⟩ hm hef herr fun h1 h2 => hH ?_⟩
  refine ⟨herr, ?_⟩
  unfold needsM; rw [hm]; exact ⟨h1, h2⟩
 | data n =>
  rw [hm] at h45
  refine ⟨52, _, has52, h45, (copyData_c E w a n hE ⟨g, hs, bs, cs, hC, hL⟩ hm hef herr).mono ?_⟩
  rintro e w' ⟨v, rfl, rfl, h1, h2⟩
  refine ⟨_, rfl, rfl, ⟨_, h1, .stop ?_⟩, h2⟩
  unfold mic; rw [hm]
  show mData _ _ _ = _
  rw [← mData_true E.S' a n]
 | huff hl hd c =>
  rw [hm] at h45
  exact ⟨44, _, has44, h45, (hH ⟨herr, by unfold needsM; rw [hm]; trivial⟩).2.1 E w a hl hd c g hs bs cs hE hC hL hSm hm hef herr⟩
/-- What lies in the buffer behind a Read. -/
def gotB (out : List Nat) (e o k : Nat) (gb : Nat → Value) : Nat → Value := fun j => if o ≤ j ∧ j < o + k then .int .u8 (out.getD (e + (j - o)) 0) else gb j
/-- The states that a Read may come to. -/
inductive Steps (S : Src) : A → A → Prop where
 | refl (a : A) : Steps S a a
 | step {a b c : A} : a.e = a.fl → a.err = 0 → Runs S a b → Steps S b.late c → Steps S a c
theorem Steps.trans {S : Src} {a b c : A} (h : Steps S a b) (k : Steps S b c) : Steps S a c := by
 induction h with
 | refl => exact k
 | step h1 h2 h3 _ ih => exact .step h1 h2 h3 (ih k)
theorem Steps.reads {S : Src} {a b c : A} {n k er : Nat} (h : Steps S a b) (r : Reads S n b k er c) : Reads S n a k er c := by
 induction h with
 | refl => exact r
 | step h1 h2 h3 _ ih => exact .step h1 h2 h3 (ih r)
theorem Rep.late_fl {E : Env} {w : World} {a : A} (h : Rep E w a) : a.fl ≤ a.out.length := by
 obtain ⟨g, hs, bs, cs, hC, _⟩ := h
 obtain ⟨q, rd, h1, h2, h3, h4, _⟩ := hC.D
 omega
theorem Rep.e_fl {E : Env} {w : World} {a : A} (h : Rep E w a) : a.e ≤ a.fl := by
 obtain ⟨g, hs, bs, cs, hC, _⟩ := h
 exact hC.T.1
theorem late_fl (a : A) (h : a.fl ≤ a.out.length) : a.late.fl ≤ a.late.out.length := by
 unfold A.late; split
 ·exact Nat.le_refl _
 ·exact h
theorem read_c (E : Env) (w : World) (a : A) (hE : E.Ok) (hU : E.OkB) (hR : Rep E w a) (o m c n : Nat) (t : TypeId) (gb : Nat → Value) (hb : Bk w E.buf n t gb) (hm : o + m ≤ n) (hP : Pend a) (hH : ∀ a', Steps E.S' a a' → needs E.S' a' → HC) :
  Ret 90 [fp E, .slice (some ⟨E.buf, o, none⟩) m c] w fun v w' => ∃ k er a' ev, v = .tuple #[.int .i64 ((k : Nat) : Int), ev] ∧ ErrV E er ev ∧ Reads E.S' m a k er a' ∧ Rep E w' a' ∧ Pend a' ∧ Bk w' E.buf n t (gotB a'.out (a'.e - k) o k gb) ∧ Kp (E.buf :: E.L) w w' := by
 have kp := Kp.refl (E.buf :: E.L) w
 refine calls_fr (N := 75) Tryd.func90 rfl rfl (by simp [fp]) rfl ?_
 refine sqr ?_
 refine Ai rfl ?_
 refine L1 (asg (v := .nilIface) rfl) ?_
 refine nt ?_
 refine wp_block ?_
 refine loop_fr (fun k f w' => f 0 = fp E ∧ f 1 = .slice (some ⟨E.buf, o, none⟩) m c ∧ ∃ a', Rep E w' a' ∧ Bk w' E.buf n t gb ∧ Kp (E.buf :: E.L) w w' ∧ Steps E.S' a a' ∧ Pend a' ∧ k = meas E.S' a') (meas E.S' a) ⟨rfl, rfl, a, hR, hb, kp, .refl _, hP, rfl⟩ ?_
 clear hR hb kp hP
 intro k f w0 HJ
 obtain ⟨s0, s1, a1, hR, hb, kp, hst, hP, rfl⟩ := HJ
 have hR0 := hR
 obtain ⟨g, hs, bs, cs, hC, hev, hlive⟩ := hR
 have hW := hC.W
 have hT := hC.T
 obtain ⟨hefl, ta, tc, ht, htc, hta⟩ := hT
 refine slots (fc s0 (fc s1 fnil)) ?_
 by_cases hlt : a1.e < a1.fl
 ·skip
  obtain ⟨rfl, hfit⟩ := hta hlt
  have hmin : min (a1.fl - a1.e) m ≤ a1.fl - a1.e := Nat.min_le_left _ _
  have hmin2 : min (a1.fl - a1.e) m ≤ m := Nat.min_le_right _ _
  have hmod := Nat.mod_lt a1.e (show 32768 > 0 by decide)
  have hgot : ∀ w3 g', Wd E w3 g' hs bs cs a1.pos → g' 1049 = .slice (cutA (some ⟨E.H, a1.e % 32768, none⟩) (min (a1.fl - a1.e) m) tc) (a1.fl - a1.e - min (a1.fl - a1.e) m) (tc - min (a1.fl - a1.e) m) → Off [1049] g g' → Kp E.X w0 w3 → Rep E w3 { a1 with e := a1.e + min m (a1.fl - a1.e) } := by
   intro w3 g' hW' h49 ho' kp3
   rw [Nat.min_comm m]
   refine ⟨g', hs, bs, cs, ⟨hW', hC.S.off ho' (by decide), hC.V, hC.D.off ho' (by decide), ⟨by show a1.e + _ ≤ a1.fl; omega, _, _, h49.trans (by rw [Nat.sub_sub]), by show a1.fl - (a1.e + _) ≤ _; omega, fun h => ?_⟩, HZ.offs hC.Z ho' (by decide)⟩, by rw [ho' _ (by decide)]; exact hev, fun h0 => ?_⟩
   ·have h' : a1.e + min (a1.fl - a1.e) m < a1.fl := h
    refine ⟨?_, ?_⟩
    ·show _ = some (⟨E.H, (a1.e + min (a1.fl - a1.e) m) % 32768, none⟩ : Addr)
     rw [cutA_lt _ _ _ _ (by omega), show (a1.e + min (a1.fl - a1.e) m) % 32768 = a1.e % 32768 + min (a1.fl - a1.e) m by omega]
    ·show (a1.e + min (a1.fl - a1.e) m) % 32768 + (a1.fl - (a1.e + min (a1.fl - a1.e) m)) ≤ 32768
     omega
   ·obtain ⟨hL, h45, hSm⟩ := hlive h0
    exact ⟨hL.keep kp3 ho' (by decide) (by decide) ⟨rfl, rfl, rfl, rfl, rfl⟩, (ho' _ (by decide)).trans h45, hSm.keep ho' (by decide)⟩
  have hbuf : ∀ j, j < n → cpg gb hs o (a1.e % 32768) (min (a1.fl - a1.e) m) j = gotB a1.out a1.e o (min m (a1.fl - a1.e)) gb j := by
   intro j _
   rw [Nat.min_comm m]
   unfold cpg gotB
   split
   ·have hfl := hP hlt
    have := hC.V.last (a1.e + (j - o)) (by omega) (by obtain ⟨q, rd, q1, q2, q3, q4, _⟩ := hC.D; omega)
    rw [← this, show (a1.e + (j - o)) % 32768 = a1.e % 32768 + (j - o) by omega]
   ·rfl
  refine wp_block ?_
  refine wp_seq ?_
  refine sqr ?_
  refine Mp rfl ?_
  refine Np rfl ?_
  refine L1 (fa95_15 rfl) ?_
  refine L1 (ld22 rfl (hW.F.cellv (by decide) ht)) ?_
  refine L1 (ln und22 rfl) ?_
  refine L1 (bi rfl rfl (bn_gtr (v := true) (decide_eq_true (by omega)))) ?_
  refine nt ?_
  refine cond_t rfl ?_
  refine sqr ?_
  refine Ms rfl ?_
  refine Mp rfl ?_
  refine Np rfl ?_
  refine L1 (fa95_15 rfl) ?_
  refine L1 (ld22 rfl (hW.F.cellv (by decide) ht)) ?_
  refine Lcp rfl rfl hb hW.H (by omega) (by omega) (fun j hj => by obtain ⟨cc, _, hcc⟩ := hC.V.byte (a1.e % 32768 + j) (by omega); rw [hcc]; rfl) ?_
  intro w1 hb kp1
  have hW := hW.setbuf hU kp1
  have kp := kp.trans (kp1.mono (by simp [Env.L]))
  refine Ai rfl ?_
  refine nt ?_
  refine sqr ?_
  refine Mp rfl ?_
  refine Mp rfl ?_
  refine Np rfl ?_
  refine L1 (fa95_15 rfl) ?_
  refine L1 (ld22 rfl (hW.F.cellv (by decide) ht)) ?_
  refine Mi rfl ?_
  refine L1 (sl_l und22 sz5 rfl rfl rfl (by omega)) ?_
  refine Np rfl ?_
  refine L1 (fa95_15 rfl) ?_
  refine Lst22 (v := .slice _ _ _) rfl rfl rfl hW.F (by decide) ?_
  intro w2 hb1 kp2
  have hW := hW.setF hE hb1 kp2
  have hb := hb.kp kp2 (by simp; exact hU.uF)
  have kp := kp.trans (kp2.mono (by simp [Env.L]))
  clear hb1
  refine nt ?_
  refine wp_seq ?_
  refine sqr ?_
  refine Mp rfl ?_
  refine Np rfl ?_
  refine L1 (fa95_15 rfl) ?_
  refine L1 (ld22 rfl (hW.F.cellv (v := .slice _ _ _) (by decide) rfl)) ?_
  refine L1 (ln und22 rfl) ?_
  refine L1 (bi rfl rfl (bn_eql (v := decide (a1.fl - a1.e ≤ m)) (decide_eq_decide.2 (by omega)))) ?_
  refine nt ?_
  refine cond_d (p := a1.fl - a1.e ≤ m) rfl (fun hall => ?_) (fun hall => ?_)
  ·skip
   refine wp_seq ?_
   refine reg_still mixed (by kernel_rfl) ?_
   have hW := hW.drew
   have hb := hb.drew
   have kp := kp.drew
   refine S1 (mv (v := .int _ _) rfl) ?_
   refine S1 (mv (v := .pointer _) rfl) ?_
   refine S1 (nilP rfl) ?_
   refine S1 (fa95_14 rfl) ?_
   refine S1 (ld62 rfl (hW.F.cellv (by decide) (rfl : g 1048 = g 1048))) ?_
   refine S1 (asg (v := .int _ _) rfl) ?_
   refine S1 (asg (v := ((g 1048))) rfl) ?_
   refine still_nil ?_
   refine then_n ?_
   refine wp_ret ?_
   refine then_r ?_
   refine then_r ?_
   refine inb_r ?_
   refine then_r ?_
   refine inb_r ?_
   refine ret2 rfl rfl rfl ?_
   refine ⟨_, rfl, min m (a1.fl - a1.e), a1.err, _, g 1048, by rw [Nat.min_comm m]; rfl, hev, hst.reads (by have := Reads.give (S := E.S') (n := m) hlt; rw [if_pos hall] at this; exact this), hgot _ _ hW rfl ((Off.refl [1049] g).upd (by decide) _) ((kp1.mono (by simp [Env.X])).trans (kp2.mono (by simp [Env.X]))).drew, fun _ => hP hlt, ?_, kp⟩
   refine hb.congr fun j hj => ?_
   show _ = gotB a1.out (a1.e + min m (a1.fl - a1.e) - min m (a1.fl - a1.e)) o (min m (a1.fl - a1.e)) gb j
   rw [Nat.add_sub_cancel]
   exact hbuf j hj
  ·skip
   refine skn ?_
   refine sqr ?_
   refine Mi rfl ?_
   refine Ai rfl ?_
   refine L1 (asg (v := .nilIface) rfl) ?_
   refine nt ?_
   refine wp_ret ?_
   refine then_r ?_
   refine inb_r ?_
   refine then_r ?_
   refine inb_r ?_
   refine ret2 rfl rfl rfl ?_
   refine ⟨_, rfl, min m (a1.fl - a1.e), 0, _, .nilIface, by rw [Nat.min_comm m]; rfl, .inl ⟨rfl, rfl⟩, hst.reads (by have := Reads.give (S := E.S') (n := m) hlt; rw [if_neg hall] at this; exact this), hgot _ _ hW rfl ((Off.refl [1049] g).upd (by decide) _) ((kp1.mono (by simp [Env.X])).trans (kp2.mono (by simp [Env.X]))), fun _ => hP hlt, ?_, kp⟩
   refine hb.congr fun j hj => ?_
   show _ = gotB a1.out (a1.e + min m (a1.fl - a1.e) - min m (a1.fl - a1.e)) o (min m (a1.fl - a1.e)) gb j
   rw [Nat.add_sub_cancel]
   exact hbuf j hj
 ·have hfe : a1.e = a1.fl := by omega
  by_cases herr : a1.err = 0
  ·skip
   obtain ⟨hL, h45, hSm⟩ := hlive herr
   obtain ⟨sk, sfn, hhas, h45', hcall⟩ := step_c E w0 a1 hE g hs bs cs hC hL h45 hSm hfe herr (hH a1 hst)
   clear h45
   have h45 := h45'
   refine wp_block ?_
   refine wp_seq ?_
   refine sqr ?_
   refine Mp rfl ?_
   refine Np rfl ?_
   refine L1 (fa95_15 rfl) ?_
   refine L1 (ld22 rfl (hW.F.cellv (by decide) ht)) ?_
   refine L1 (ln und22 rfl) ?_
   refine L1 (bi rfl rfl (bn_gtr (v := false) (decide_eq_false (by omega)))) ?_
   refine nt ?_
   refine cond_f rfl ?_
   refine skn ?_
   refine wp_seq ?_
   refine sqr ?_
   refine Mp rfl ?_
   refine Np rfl ?_
   refine L1 (fa95_14 rfl) ?_
   refine L1 (ld62 rfl (hW.F.cellv (by decide) hL.err)) ?_
   refine L1 (en_nil rfl rfl) ?_
   refine nt ?_
   refine cond_f rfl ?_
   refine skn ?_
   refine sqr ?_
   refine Mp rfl ?_
   refine Np rfl ?_
   refine L1 (fa95_11 rfl) ?_
   refine L1 (ld92 rfl (hW.F.cellv (by decide) h45)) ?_
   refine Mp rfl ?_
   refine LC (cl1 hhas rfl rfl) hcall ?_
   rintro v w1 ⟨rfl, ⟨a2, hR2, hrun⟩, kp1⟩
   have hb := hb.kp kp1 (nbuf hU)
   have kp := kp.trans (kp1.mono (by simp; exact fun k h => .inr h))
   clear hC hlive hev hW hL h45 h45' hcall ht
   have hR3 := hR2
   obtain ⟨g, hs, bs, cs, hC, hev, hlive⟩ := hR2
   have hW := hC.W
   obtain ⟨hefl2, ta2, tc2, ht, htc2, hta2⟩ := hC.T
   refine nt ?_
   by_cases herr2 : a2.err = 0
   ·skip
    obtain ⟨hL2, h452, hSm2⟩ := hlive herr2
    refine sqr ?_
    refine Mp rfl ?_
    refine Np rfl ?_
    refine L1 (fa95_14 rfl) ?_
    refine L1 (ld62 rfl (hW.F.cellv (by decide) hL2.err)) ?_
    refine L1 (en_nil rfl rfl) ?_
    refine Mb rfl ?_
    refine Lskip (t := 60) (b := true) rfl (by decide) rfl ?_
    refine Lskip (t := 60) (b := true) rfl (by decide) rfl ?_
    refine Lskip (t := 60) (b := true) rfl (by decide) rfl ?_
    refine Lskip (t := 60) (b := true) rfl (by decide) rfl ?_
    refine Lskip (t := 60) (b := true) rfl (by decide) rfl ?_
    refine Lskip (t := 60) (b := true) rfl (by decide) rfl ?_
    refine L1 (pk_f rfl rfl) ?_
    refine nt ?_
    refine cond_f rfl ?_
    refine wp_skip ?_
    refine inb_n ?_
    refine then_n ?_
    have hla : a2.late = a2 := by unfold A.late; rw [if_neg (by omega)]
    refine ⟨meas E.S' a2, _, ?_, rfl, rfl, rfl, a2, hR3, hb, kp, hst.trans (.step hfe herr hrun (by rw [hla]; exact .refl _)), Pend.step hR0.late_fl hfe hrun, rfl⟩
    exact meas_lt hR0.late_fl hfe herr hrun herr2
   ·skip
    obtain ⟨et, ex, hex⟩ := errIface hev herr2
    refine sqr ?_
    refine Mp rfl ?_
    refine Np rfl ?_
    refine L1 (fa95_14 rfl) ?_
    refine L1 (ld62 rfl (hW.F.cellv (by decide) hex)) ?_
    refine L1 (en_held rfl rfl) ?_
    refine Mb rfl ?_
    refine L1g (t := 60) (b := true) rfl (by decide) rfl (mv (v := .pointer _) rfl) ?_
    refine L1g (t := 60) (b := true) rfl (by decide) rfl (nilP rfl) ?_
    refine L1g (t := 60) (b := true) rfl (by decide) rfl (fa95_15 rfl) ?_
    refine L1g (t := 60) (b := true) rfl (by decide) rfl (ld22 rfl (hW.F.cellv (by decide) ht)) ?_
    refine L1g (t := 60) (b := true) rfl (by decide) rfl (ln und22 rfl) ?_
    refine L1g (t := 60) (b := true) rfl (by decide) rfl (bi rfl rfl (bn_eql (v := decide (a2.e = a2.fl)) (decide_eq_decide.2 (by omega)))) ?_
    refine L1 (pk_t rfl rfl) ?_
    refine nt ?_
    refine cond_d (p := a2.e = a2.fl) rfl (fun hef2 => ?_) (fun hef2 => ?_)
    ·skip
     refine reg_lit ?_
     refine Mp rfl ?_
     refine Mp rfl ?_
     refine Np rfl ?_
     refine L1 (fa95_9 rfl) ?_
     refine LC (cl1 has50 rfl rfl) (rf_c E _ g hs bs cs a2.pos _ _ _ hE hW hC.D) ?_
     rintro v w1 ⟨hv, g1, hW, hD1, ho, kp1⟩
     have hb := hb.kp kp1 (nbuf hU)
     have kp := kp.trans (kp1.mono (by simp; exact fun k h => .inr h))
     refine Np rfl ?_
     refine L1 (fa95_15 rfl) ?_
     refine Lst22 (v := v) rfl rfl (by obtain ⟨_, _, _, rfl, _⟩ := hv; rfl) hW.F (by decide) ?_
     intro w3 hb1 kp3
     have hW := hW.setF hE hb1 kp3
     have hb := hb.kp kp3 (by simp; exact hU.uF)
     have kp := kp.trans (kp3.mono (by simp [Env.L]))
     refine wpList_nil ?_
     refine inb_n ?_
     refine then_n ?_
     have hla : a2.late = a2.flush := by unfold A.late; rw [if_pos ⟨herr2, hef2⟩]
     have hfl2 := hR3.late_fl
     have hR4 : Rep E w3 a2.flush := by
      refine ⟨_, hs, bs, cs, ⟨hW, (hC.S.off ho (by decide)).off ((Off.refl [1049] g1).upd (by decide) _) (by decide), hC.V, ?_, ?_, HZ.offs (HZ.offs hC.Z ho (by decide)) ((Off.refl [1049] g1).upd (by decide) _) (by decide)⟩, ?_, fun h => absurd h herr2⟩
      ·have hnx : nx (a2.out.length % 32768) = a2.out.length % 32768 := by unfold nx; rw [if_neg (by omega)]
       rw [hnx] at hD1
       exact hD1.off ((Off.refl [1049] g1).upd (by decide) _) (by decide)
      ·show TRv E _ a2.e a2.out.length
       rw [hef2]
       exact hv
      ·show ErrV E a2.err (g1 1048)
       rw [ho _ (by decide)]
       exact hev
     refine ⟨0, _, ?_, rfl, rfl, rfl, a2.flush, hR4, hb, kp, hst.trans (.step hfe herr hrun (by rw [hla]; exact .refl _)), fun _ => rfl, ?_⟩
     ·unfold meas; rw [if_neg (by omega)]; omega
     ·unfold meas; rw [if_pos (.inr herr2)]
    ·skip
     refine wp_skip ?_
     refine inb_n ?_
     refine then_n ?_
     have hla : a2.late = a2 := by unfold A.late; rw [if_neg (by omega)]
     refine ⟨0, _, ?_, rfl, rfl, rfl, a2, hR3, hb, kp, hst.trans (.step hfe herr hrun (by rw [hla]; exact .refl _)), Pend.step hR0.late_fl hfe hrun, ?_⟩
     ·unfold meas; rw [if_neg (by omega)]; omega
     ·unfold meas; rw [if_pos (.inr herr2)]
  ·skip
   obtain ⟨et, ex, hex⟩ := errIface hev herr
   refine wp_block ?_
   refine wp_seq ?_
   refine sqr ?_
   refine Mp rfl ?_
   refine Np rfl ?_
   refine L1 (fa95_15 rfl) ?_
   refine L1 (ld22 rfl (hW.F.cellv (by decide) ht)) ?_
   refine L1 (ln und22 rfl) ?_
   refine L1 (bi rfl rfl (bn_gtr (v := false) (decide_eq_false (by omega)))) ?_
   refine nt ?_
   refine cond_f rfl ?_
   refine skn ?_
   refine wp_seq ?_
   refine sqr ?_
   refine Mp rfl ?_
   refine Np rfl ?_
   refine L1 (fa95_14 rfl) ?_
   refine L1 (ld62 rfl (hW.F.cellv (by decide) hex)) ?_
   refine L1 (en_held rfl rfl) ?_
   refine nt ?_
   refine cond_t rfl ?_
   refine wp_seq ?_
   refine reg_still mixed (by kernel_rfl) ?_
   have hW := hW.drew
   have hb := hb.drew
   have kp := kp.drew
   have hR0 := hR0.drew
   refine S1 (mv (v := .pointer _) rfl) ?_
   refine S1 (nilP rfl) ?_
   refine S1 (fa95_14 rfl) ?_
   refine S1 (ld62 rfl (hW.F.cellv (by decide) hex)) ?_
   refine S1 (asg (v := .int _ _) rfl) ?_
   refine S1 (asg (v := .iface _ _) rfl) ?_
   refine still_nil ?_
   refine then_n ?_
   refine wp_ret ?_
   refine then_r ?_
   refine inb_r ?_
   refine then_r ?_
   refine inb_r ?_
   refine ret2 rfl rfl rfl ?_
   refine ⟨_, rfl, 0, a1.err, a1, _, rfl, by rw [← hex]; exact hev, hst.reads (.done hfe herr), hR0, hP, ?_, kp⟩
   refine hb.congr fun j hj => ?_
   unfold gotB
   rw [if_neg (by omega)]
end Go.Proofs.YtejeloeaklpinaaDoor
namespace Go.Proofs.YtejeloeaklpinaaDoor
/-- The cells of a reader that is all zero. -/
def g95 (k : Nat) : Value :=
 if k = 0 ∨ k = 1048 then .nilIface
 else if k = 1 ∨ k = 1035 ∨ k = 1036 ∨ k = 1050 ∨ k = 1051 then .pointer none
 else if k = 2 ∨ k = 5 ∨ k = 520 ∨ k = 1038 ∨ k = 1039 ∨ k = 1046 ∨ k = 1052 ∨ k = 1053 then .int .i64 0
 else if k = 4 then .int .u64 0
 else if k = 518 ∨ k = 1033 ∨ k = 1037 ∨ k = 1049 then .slice none 0 0
 else if k = 1040 ∨ k = 1047 then .bool false
 else if k = 1045 then .nilFunc
 else if 1041 ≤ k then .int .u8 0
 else .int .u32 0
theorem Bk.newOf (w : World) (C : Array Value) (t : TypeId) (n : Nat) (g : Nat → Value) (h : C.toList = (List.range n).map g) : Bk (w.alloc (.cells C t)) w.heap.size n t g := by
 have hs : C.size = n := by have := congrArg List.length h; simpa using this
 refine ⟨C, heap_alloc_new w _, hs, fun k hk => ?_⟩
 have := congrArg (fun l : List Value => l[k]?) h
 simp only [List.getElem?_map, List.getElem?_range hk, Option.map_some] at this
 simpa using this
section
variable {ops : Array Oper} {Q : Exit → Act → World → Prop} {N : Nat} {L : List (Nat × Value)} {B : Nat → Value} {w : World} {rest : List Oper} {dd : Nat} {ty : TypeId} {pos : String} {af : Array Edge}
theorem Lal95 (K : ∀ X w1, w.heap.size = X → Bk w1 X 1054 95 g95 → Kp [] w w1 → w1.heap.size = X + 1 → wpList Tryd.prog ops Q rest (fr N (fl ((dd, .pointer (some ⟨X, 0, none⟩)) :: L) B)) w1) :
  wpList Tryd.prog ops Q (⟨some dd, .alloc 95, ty, pos, af, none⟩ :: rest) (fr N (fl L B)) w := by
 obtain ⟨Z, hZ, hr⟩ : ∃ Z : Array Value, Z.toList = (List.range 1054).map g95 ∧ ∀ (ρ : Operand → Value) (w : World), (execOp ρ ⟨some dd, .alloc 95, ty, pos, af, none⟩).run Tryd.prog w = .ok (.value (.pointer (some ⟨w.heap.size, 0, none⟩))) (w.alloc (.cells Z 95)) :=
  ⟨(((Tryd.prog.info? 95).bind (·.zero)).map (·.cells)).getD #[], by kernel_rfl, fun ρ w => by kernel_rfl⟩
 exact L1 (hr _ _) (K _ _ rfl (Bk.newOf w Z 95 1054 g95 hZ) ((Kp.refl [] w).alloc _) (by simp))
theorem Lal97 (K : ∀ X w1, w.heap.size = X → Bk w1 X 316 97 (fun _ => .int .i64 0) → Kp [] w w1 → w1.heap.size = X + 1 → wpList Tryd.prog ops Q rest (fr N (fl ((dd, .pointer (some ⟨X, 0, none⟩)) :: L) B)) w1) :
  wpList Tryd.prog ops Q (⟨some dd, .alloc 97, ty, pos, af, none⟩ :: rest) (fr N (fl L B)) w := by
 obtain ⟨Z, hZ, hr⟩ : ∃ Z : Array Value, Z.toList = (List.range 316).map (fun _ => .int .i64 0) ∧ ∀ (ρ : Operand → Value) (w : World), (execOp ρ ⟨some dd, .alloc 97, ty, pos, af, none⟩).run Tryd.prog w = .ok (.value (.pointer (some ⟨w.heap.size, 0, none⟩))) (w.alloc (.cells Z 97)) :=
  ⟨(((Tryd.prog.info? 97).bind (·.zero)).map (·.cells)).getD #[], by kernel_rfl, fun ρ w => by kernel_rfl⟩
 exact L1 (hr _ _) (K _ _ rfl (Bk.newOf w Z 97 316 _ hZ) ((Kp.refl [] w).alloc _) (by simp))
theorem Lal98 (K : ∀ X w1, w.heap.size = X → Bk w1 X 19 98 (fun _ => .int .i64 0) → Kp [] w w1 → w1.heap.size = X + 1 → wpList Tryd.prog ops Q rest (fr N (fl ((dd, .pointer (some ⟨X, 0, none⟩)) :: L) B)) w1) :
  wpList Tryd.prog ops Q (⟨some dd, .alloc 98, ty, pos, af, none⟩ :: rest) (fr N (fl L B)) w := by
 obtain ⟨Z, hZ, hr⟩ : ∃ Z : Array Value, Z.toList = (List.range 19).map (fun _ => .int .i64 0) ∧ ∀ (ρ : Operand → Value) (w : World), (execOp ρ ⟨some dd, .alloc 98, ty, pos, af, none⟩).run Tryd.prog w = .ok (.value (.pointer (some ⟨w.heap.size, 0, none⟩))) (w.alloc (.cells Z 98)) :=
  ⟨(((Tryd.prog.info? 98).bind (·.zero)).map (·.cells)).getD #[], by kernel_rfl, fun ρ w => by kernel_rfl⟩
 exact L1 (hr _ _) (K _ _ rfl (Bk.newOf w Z 98 19 _ hZ) ((Kp.refl [] w).alloc _) (by simp))
end
section
variable {ρ : Operand → Value} {d : Option Nat} {x y z : Operand} {ty : TypeId} {pos : String} {af : Array Edge} {gd : Option (Nat × Bool)} {w : World}
theorem ta80 {a : Addr} (hx : ρ x = .iface 43 (.pointer (some a))) : (execOp ρ ⟨d, .typeAssert x 72 80 true, ty, pos, af, gd⟩).run Tryd.prog w = .ok (.value (.tuple #[.iface 43 (.pointer (some a)), .bool true])) w := by
 show (Instr.typeAssert (ρ x) 72 80 true >>= fun v => pure (Next.value v)).run Tryd.prog w = _
 rw [hx]
 kernel_rfl
theorem bd70 {a : Option Addr} {n c : Nat} {i j : Int} (hx : ρ x = .slice a n c) (hi : ρ y = .int .i64 i) (hj : ρ z = .int .i64 j) :
  (execOp ρ ⟨d, .build 70 #[(0, x), (1, y), (2, z)], ty, pos, af, gd⟩).run Tryd.prog w = .ok (.value (.agg #[.slice a n c, .int .i64 i, .int .i64 j])) w := by
 simp only [execOp, List.map_toArray, List.map_cons, List.map_nil, hx, hi, hj]
 kernel_rfl
theorem bx70 {a : Option Addr} {n c : Nat} {i j : Int} (hx : ρ x = .agg #[.slice a n c, .int .i64 i, .int .i64 j]) :
  (execOp ρ ⟨d, .box 70 x, ty, pos, af, gd⟩).run Tryd.prog w = .ok (.value (.pointer (some ⟨w.heap.size, 0, none⟩))) (w.alloc (.cells #[.slice a n c, .int .i64 i, .int .i64 j] 70)) := by
 show (Instr.box 70 (ρ x) >>= fun v => pure (Next.value v)).run Tryd.prog w = _
 rw [hx]
 kernel_rfl
theorem bd90 {a : Option Addr} {n c : Nat} (hx : ρ x = .slice a n c) :
  (execOp ρ ⟨d, .build 90 #[(0, x)], ty, pos, af, gd⟩).run Tryd.prog w = .ok (.value (.agg #[.slice a n c, .int .i64 0, .int .i64 0, .bool false])) w := by
 simp only [execOp, List.map_toArray, List.map_cons, List.map_nil, hx]
 kernel_rfl
end
theorem sz90 (w : World) : (sizeOf 90).run Tryd.prog w = .ok 4 w := by kernel_rfl
section
variable {ops : Array Oper} {Q : Exit → Act → World → Prop} {N : Nat} {f : Nat → Value} {w : World} {rest : List Oper} {x y : Operand} {ty : TypeId} {pos : String} {af : Array Edge} {b k n : Nat} {T : TypeId} {g : Nat → Value} {v0 v1 v2 v3 : Value}
theorem Lst90 (hx : ev N f x = .pointer (some ⟨b, k, none⟩)) (hy : ev N f y = .agg #[v0, v1, v2, v3]) (h1 : v0.oneCell' = true ∧ v1.oneCell' = true ∧ v2.oneCell' = true ∧ v3.oneCell' = true) (hB : Bk w b n T g) (hk : k + 3 < n)
  (K : ∀ w1, Bk w1 b n T (upd (upd (upd (upd g k v0) (k + 1) v1) (k + 2) v2) (k + 3) v3) → Kp [b] w w1 → wpList Tryd.prog ops Q rest (fr N f) w1) : wpList Tryd.prog ops Q (⟨none, .store 90 x y, ty, pos, af, none⟩ :: rest) (fr N f) w := by
 have hst := run_storeCells_cells (P := Tryd.prog) b k [v0, v1, v2, v3] 0 w (fun j hj => by
   rw [Nat.add_zero, hB.cell (k := k + j) (by simp at hj; omega)]; rfl) (fun j _ => hB.frozen _) (fun v hv => by
   simp at hv; rcases hv with rfl | rfl | rfl | rfl
   ·exact h1.1
   ·exact h1.2.1
   ·exact h1.2.2.1
   ·exact h1.2.2.2)
 refine L0 (w' := w.setCells b k [v0, v1, v2, v3]) ?_ (K _ ((hB.setCells [v0, v1, v2, v3] k).congr fun j _ => ?_) (Kp.setCells (by simp) _ _ (Kp.refl [b] w)))
 ·simp [execOp, hx, hy, Instr.storeAt, Instr.sureAddr, storeVar, sz90, Value.cells, hst]
 ·simp only [List.length_cons, List.length_nil]
  by_cases h : k ≤ j ∧ j < k + (0 + 1 + 1 + 1 + 1)
  ·rw [if_pos h]
   have : j = k ∨ j = k + 1 ∨ j = k + 2 ∨ j = k + 3 := by omega
   rcases this with rfl | rfl | rfl | rfl
   ·simp [upd]
   ·simp [upd]
   ·simp [upd]
   ·simp [upd]
  ·rw [if_neg h, upd_ne _ _ _ _ (by omega), upd_ne _ _ _ _ (by omega), upd_ne _ _ _ _ (by omega), upd_ne _ _ _ _ (by omega)]
end
end Go.Proofs.YtejeloeaklpinaaDoor
namespace Go.Proofs.YtejeloeaklpinaaDoor
/-- A slice of bytes that begins at its block's head (or nil). -/
def Sl (w : World) (v : Value) (xs : List Nat) : Prop :=
 (v = .slice none 0 0 ∧ xs = []) ∨ ∃ b cap g, v = .slice (some ⟨b, 0, none⟩) xs.length cap ∧ Bk w b cap 5 g ∧ xs.length ≤ cap ∧ cap ≤ maxLen ∧ ∀ k, k < xs.length → g k = .int .u8 (xs.getD k 0)
def obk (v : Value) : List Nat := match v.ownBlock with
 | some b => [b]
 | none => []
theorem Sl.kp {w w' : World} {v : Value} {xs : List Nat} {L : List Nat} (h : Sl w v xs) (k : Kp L w w') (hL : ∀ b, v.ownBlock = some b → b ∉ L) : Sl w' v xs := by
 rcases h with h | ⟨b, cap, g, rfl, h2, h3⟩
 ·exact .inl h
 ·exact .inr ⟨b, cap, g, rfl, h2.kp k (hL b rfl), h3⟩
theorem Sl.lt {w : World} {v : Value} {xs : List Nat} (h : Sl w v xs) {b : Nat} (hb : v.ownBlock = some b) : b < w.heap.size := by
 rcases h with ⟨rfl, _⟩ | ⟨b', cap, g, rfl, h2, _⟩
 ·simp [Value.ownBlock] at hb
 ·simp only [Value.ownBlock, Option.some.injEq] at hb
  subst hb; exact h2.lt
theorem Sl.val {w : World} {v : Value} {xs : List Nat} (h : Sl w v xs) : ∃ a c, v = .slice a xs.length c := by
 rcases h with ⟨rfl, rfl⟩ | ⟨b', cap, g, rfl, h2, _⟩
 ·exact ⟨_, _, rfl⟩
 ·exact ⟨_, _, rfl⟩
theorem Sl.nil (w : World) : Sl w (.slice none 0 0) [] := .inl ⟨rfl, rfl⟩
theorem info5 : ∃ i, Tryd.prog.info? 5 = some i ∧ i.zero = some (.int .u8 0) ∧ i.size = 1 ∧ i.bytes = 1 := by
 have h : (Tryd.prog.info? 5).map (fun i => (i.zero, i.size, i.bytes)) = some (some (.int .u8 0), 1, 1) := by kernel_rfl
 obtain ⟨i, hi, he⟩ := Option.map_eq_some_iff.1 h
 simp only [Prod.mk.injEq] at he
 exact ⟨i, hi, he.1, he.2.1, he.2.2⟩
theorem getD_app (xs ys : List Nat) (k : Nat) : (xs ++ ys).getD k 0 = if k < xs.length then xs.getD k 0 else ys.getD (k - xs.length) 0 := by
 by_cases h : k < xs.length
 ·rw [if_pos h, List.getD_eq_getElem?_getD, List.getElem?_append_left h, ← List.getD_eq_getElem?_getD]
 ·rw [if_neg h, List.getD_eq_getElem?_getD, List.getElem?_append_right (by omega), ← List.getD_eq_getElem?_getD]
theorem map_get (ys : List Nat) (j : Nat) (h : j < ys.length) : (ys.map fun c : Nat => Value.int .u8 (c : Int))[j]? = some (.int .u8 (ys.getD j 0)) := by
 rw [List.getElem?_map, List.getD_eq_getElem?_getD, List.getElem?_eq_getElem h]
 rfl
theorem grownNew {w : World} {xs ys : List Nat} {C : Array Value} {cap : Nat} {Z : Array Value} (hC : C = (xs.map fun c : Nat => Value.int .u8 (c : Int)).toArray ++ (ys.map fun c : Nat => Value.int .u8 (c : Int)).toArray ++ Z) (hZ : Z.size = cap - (xs.length + ys.length)) (hcap : xs.length + ys.length ≤ cap) (hm : cap ≤ maxLen) :
  Sl (w.drew.alloc (.cells C 5)) (.slice (some ⟨w.heap.size, 0, none⟩) (xs.length + ys.length) cap) (xs ++ ys) := by
 have hs : C.size = cap := by subst hC; simp; omega
 refine .inr ⟨w.heap.size, cap, fun k => C.getD k undef, by rw [List.length_append], by rw [← hs]; exact Bk.new w.drew C 5, by rw [List.length_append]; exact hcap, hm, fun k hk => ?_⟩
 rw [List.length_append] at hk
 rw [getD_app]
 subst hC
 simp only [Array.getD_eq_getD_getElem?]
 by_cases h : k < xs.length
 ·rw [if_pos h, Array.getElem?_append_left (by simp; omega), Array.getElem?_append_left (by simpa using h)]
  simp [h]
 ·rw [if_neg h, Array.getElem?_append_left (by simp; omega), Array.getElem?_append_right (by simpa using h)]
  simp only [List.size_toArray, List.length_map, List.getElem?_toArray]
  rw [map_get _ _ (by omega)]
  rfl
theorem ap_run (w : World) (ty : TypeId) {v : Value} {xs ys : List Nat} {a : Addr} {m c2 : Nat} (hS : Sl w v xs) (hl : ys.length = m) (hys : ∀ j, j < m → w.cell? (a.add j) = some (.int .u8 (ys.getD j 0))) (hmax : xs.length + m ≤ 140737488355328) :
  ∃ v' w', (Builtin.append_ #[22, 22] ty #[v, .slice (some a) m c2]).run Tryd.prog w = .ok v' w' ∧ Sl w' v' (xs ++ ys) ∧ Kp (obk v) w w' ∧ ∀ k, v'.ownBlock = some k → v.ownBlock = some k ∨ w.heap.size ≤ k := by
 obtain ⟨i, hi, hz, hsz, hby⟩ := info5
 have hl' : (ys.map fun c : Nat => Value.int .u8 (c : Int)).length = m * i.size := by rw [hsz, List.length_map]; omega
 have hnews : ∀ j u, (ys.map fun c : Nat => Value.int .u8 (c : Int))[j]? = some u → w.cell? (a.add j) = some u := by
  intro j u hj
  have hlt : j < ys.length := by have := (List.getElem?_eq_some_iff.1 hj).1; simpa using this
  rw [map_get _ _ hlt] at hj
  rw [hys j (by omega)]
  exact hj
 have h1 : ∀ u ∈ (ys.map fun c : Nat => Value.int .u8 (c : Int)), u.oneCell' = true := by
  intro u hu
  obtain ⟨c, _, rfl⟩ := List.mem_map.1 hu
  rfl
 have hmx : xs.length + m ≤ maxLen := by simp only [maxLen]; omega
 rcases hS with ⟨rfl, rfl⟩ | ⟨b, cap, g, rfl, hB, hxc, hcm, hg⟩
 ·by_cases hm : m = 0
  ·subst hm
   have hn : ys = [] := List.eq_nil_of_length_eq_zero hl
   subst hn
   refine ⟨.slice none 0 0, w, ?_, .inl ⟨rfl, rfl⟩, Kp.refl _ _, fun k hk => .inl hk⟩
   simp [Builtin.append_, run_underlying und22, sizeOf, typeInfo, hi, Builtin.lenOf, Builtin.firstCells, loadCells, loadCellsFrom]
  ·have hr := run_append_nil (P := Tryd.prog) w 22 ty 5 i (.int .u8 0) und22 hi hz a m c2 _ hl' hnews (by omega) (by simp at hmax; omega) (by rw [hby]; simp at hmax; omega)
   have hge := grownCap_ge w m 0 5
   refine ⟨_, _, hr, ?_, ((Kp.refl _ w).drew.alloc _), fun k hk => ?_⟩
   ·have := grownNew (w := w) (xs := []) (ys := ys) (C := (ys.map fun c : Nat => Value.int .u8 (c : Int)).toArray ++ Builtin.zeroCells (Value.int .u8 0).cells (grownCap w m 0 5 - m)) (cap := grownCap w m 0 5) (Z := Builtin.zeroCells (Value.int .u8 0).cells (grownCap w m 0 5 - m)) (by simp) (by simp [Builtin.zeroCells, Value.cells]; omega) (by simp; omega) (grownCap_le_maxLen w m 0 5 (by simp at hmx; exact hmx))
    simpa [hl] using this
   ·simp only [Value.ownBlock, Option.some.injEq] at hk
    exact .inr (by omega)
 ·obtain ⟨C, hC, hCs, hCg⟩ := hB
  by_cases hroom : xs.length + m ≤ cap
  ·have hr := run_append_room (P := Tryd.prog) w 22 ty 5 i und22 hi b xs.length cap C hC a m c2 _ hl' hnews h1 hroom (by rw [hsz, List.length_map]; omega)
   rw [hsz, Nat.mul_one, List.length_map] at hr
   refine ⟨_, _, hr, ?_, (Kp.refl _ w).setRow (by simp [obk, Value.ownBlock]) _, fun k hk => .inl hk⟩
   refine .inr ⟨b, cap, fun k => if k < xs.length then .int .u8 (xs.getD k 0) else if k < xs.length + m then .int .u8 (ys.getD (k - xs.length) 0) else g k, by rw [List.length_append, hl], ?_, by rw [List.length_append]; omega, hcm, fun k hk => ?_⟩
   ·refine Bk.setRow (g := g) ⟨C, hC, hCs, hCg⟩ _ ?_ ?_
    ·simp; omega
    ·intro k hk
     have htl : (C.toList.take xs.length).length = xs.length := by simp; omega
     rw [List.getElem?_toArray]
     by_cases hk1 : k < xs.length
     ·rw [if_pos hk1, List.append_assoc, List.getElem?_append_left (by omega), List.getElem?_take, if_pos hk1]
      rw [← hg k hk1]
      simpa using hCg k hk
     ·rw [if_neg hk1, List.append_assoc, List.getElem?_append_right (by omega), htl]
      by_cases hk2 : k < xs.length + m
      ·rw [if_pos hk2, List.getElem?_append_left (by simp; omega), map_get _ _ (by omega)]
      ·rw [if_neg hk2, List.getElem?_append_right (by simp; omega), List.getElem?_drop, List.length_map, hl]
       rw [show xs.length + m + (k - xs.length - m) = k by omega]
       simpa using hCg k hk
   ·rw [List.length_append] at hk
    rw [getD_app]
    simp only
    by_cases hk1 : k < xs.length
    ·rw [if_pos hk1, if_pos hk1]
    ·rw [if_neg hk1, if_neg hk1, if_pos (by omega)]
  ·have holds : ∀ j u, (xs.map fun c : Nat => Value.int .u8 (c : Int))[j]? = some u → w.cell? ((⟨b, 0, none⟩ : Addr).add j) = some u := by
    intro j u hj
    have hlt : j < xs.length := by have := (List.getElem?_eq_some_iff.1 hj).1; simpa using this
    rw [map_get _ _ hlt] at hj
    rw [Addr.add_lit, Nat.zero_add, Bk.cell (n := cap) (t := 5) (g := g) ⟨C, hC, hCs, hCg⟩ (k := j) (by omega), hg j hlt]
    exact hj
   have hr := run_append_grow (P := Tryd.prog) w 22 ty 5 i (.int .u8 0) und22 hi hz ⟨b, 0, none⟩ xs.length cap (xs.map fun c : Nat => Value.int .u8 (c : Int)) (by rw [hsz, List.length_map, Nat.mul_one]) holds a m c2 _ hl' hnews (by omega) (by omega) (growslice_fits (by omega) (by rw [hby]; omega))
   have hge := grownCap_ge w (xs.length + m) cap 5
   refine ⟨_, _, hr, ?_, ((Kp.refl _ w).drew.alloc _), fun k hk => ?_⟩
   ·have := grownNew (w := w) (xs := xs) (ys := ys) (cap := grownCap w (xs.length + m) cap 5) (Z := Builtin.zeroCells (Value.int .u8 0).cells (grownCap w (xs.length + m) cap 5 - (xs.length + m))) rfl (by simp [Builtin.zeroCells, Value.cells]; omega) (by omega) (grownCap_le_maxLen w (xs.length + m) cap 5 hmx)
    rw [hl] at this
    exact this
   ·simp only [Value.ownBlock, Option.some.injEq] at hk
    exact .inr (by omega)
/-- A slice of bytes that came in: nothing is asked of its block. -/
def Ag (w : World) (v : Value) (xs : List Nat) : Prop := ∃ a c, v = .slice a xs.length c ∧ ∀ j, j < xs.length → ∃ ad, a = some ad ∧ w.cell? (ad.add j) = some (.int .u8 (xs.getD j 0))
theorem Ag.kp {w w' : World} {v : Value} {xs : List Nat} (h : Ag w v xs) (k : Kp [] w w') : Ag w' v xs := by
 obtain ⟨a, c, h1, h2⟩ := h
 refine ⟨a, c, h1, fun j hj => ?_⟩
 obtain ⟨ad, h3, h4⟩ := h2 j hj
 exact ⟨ad, h3, k.cell h4 (by simp)⟩
theorem Sl.ag {w : World} {v : Value} {xs : List Nat} (h : Sl w v xs) : Ag w v xs := by
 rcases h with ⟨rfl, rfl⟩ | ⟨b, cap, g, rfl, h2, h3, h4, h5⟩
 ·exact ⟨none, 0, rfl, fun j hj => by simp at hj⟩
 ·refine ⟨_, _, rfl, fun j hj => ⟨_, rfl, ?_⟩⟩
  rw [Addr.add_lit, Nat.zero_add, h2.cell (by omega), h5 j hj]
/-- Where nothing is appended. -/
theorem ap_run0 (w : World) (ty : TypeId) {v : Value} {xs : List Nat} {a : Option Addr} {c : Nat} (hS : Sl w v xs) : (Builtin.append_ #[22, 22] ty #[v, .slice a 0 c]).run Tryd.prog w = .ok v w := by
 obtain ⟨i, hi, hz, hsz, hby⟩ := info5
 rcases hS with ⟨rfl, rfl⟩ | ⟨b, cap, g, rfl, hB, hxc, hcm, hg⟩
 ·cases a <;> simp [Builtin.append_, run_underlying und22, sizeOf, typeInfo, hi, Builtin.lenOf, Builtin.firstCells, loadCells, loadCellsFrom]
 ·cases a <;> simp [Builtin.append_, run_underlying und22, sizeOf, typeInfo, hi, Builtin.lenOf, Builtin.firstCells, loadCells, loadCellsFrom, hxc, storeCells]
section
variable {ops : Array Oper} {Q : Exit → Act → World → Prop} {N : Nat} {L : List (Nat × Value)} {B : Nat → Value} {w : World} {rest : List Oper} {dd : Nat} {ty : TypeId} {pos : String} {af : Array Edge} {x y : Operand}
theorem Lap {v : Value} {xs ys : List Nat} {b2 o2 m c2 n2 : Nat} {t2 : TypeId} {g2 : Nat → Value} (hx : ev N (fl L B) x = v) (hy : ev N (fl L B) y = .slice (some ⟨b2, o2, none⟩) m c2) (hS : Sl w v xs) (hB2 : Bk w b2 n2 t2 g2) (hl : ys.length = m) (h2 : o2 + m ≤ n2) (hys : ∀ j, j < m → g2 (o2 + j) = .int .u8 (ys.getD j 0)) (hmax : xs.length + m ≤ 140737488355328)
  (K : ∀ v' w1, Sl w1 v' (xs ++ ys) → Kp (obk v) w w1 → (∀ k, v'.ownBlock = some k → v.ownBlock = some k ∨ w.heap.size ≤ k) → wpList Tryd.prog ops Q rest (fr N (fl ((dd, v') :: L) B)) w1) :
  wpList Tryd.prog ops Q (⟨some dd, .call ⟨.builtin .append, #[x, y], #[22, 22]⟩, ty, pos, af, none⟩ :: rest) (fr N (fl L B)) w := by
 obtain ⟨v', w1, hr, h3, h4, h5⟩ := ap_run w ty (a := ⟨b2, o2, none⟩) (c2 := c2) hS hl (fun j hj => by rw [Addr.add_lit, hB2.cell (k := o2 + j) (by omega), hys j hj]) hmax
 refine L1 (v := v') (w' := w1) ?_ (K v' w1 h3 h4 h5)
 simp [execOp, resolve, invoke, builtin, hx, hy, hr]
theorem Lapg {v u : Value} {xs ys : List Nat} (hx : ev N (fl L B) x = v) (hy : ev N (fl L B) y = u) (hS : Sl w v xs) (hA : Ag w u ys) (hmax : xs.length + ys.length ≤ 140737488355328)
  (K : ∀ v' w1, Sl w1 v' (xs ++ ys) → Kp (obk v) w w1 → (∀ k, v'.ownBlock = some k → v.ownBlock = some k ∨ w.heap.size ≤ k) → wpList Tryd.prog ops Q rest (fr N (fl ((dd, v') :: L) B)) w1) :
  wpList Tryd.prog ops Q (⟨some dd, .call ⟨.builtin .append, #[x, y], #[22, 22]⟩, ty, pos, af, none⟩ :: rest) (fr N (fl L B)) w := by
 obtain ⟨a, c, rfl, hA⟩ := hA
 by_cases h0 : ys.length = 0
 ·have hys : ys = [] := List.eq_nil_of_length_eq_zero h0
  subst hys
  refine L1 (v := v) (w' := w) ?_ (K v w (by simpa using hS) (Kp.refl _ _) (fun k hk => .inl hk))
  have hr := ap_run0 w ty (a := a) (c := c) hS
  simp [execOp, resolve, invoke, builtin, hx, hy, hr]
 ·obtain ⟨ad, rfl, _⟩ := hA 0 (by omega)
  obtain ⟨v', w1, hr, h3, h4, h5⟩ := ap_run w ty (a := ad) (c2 := c) hS rfl (fun j hj => by obtain ⟨ad', he, h⟩ := hA j hj; cases he; exact h) hmax
  refine L1 (v := v') (w' := w1) ?_ (K v' w1 h3 h4 h5)
  simp [execOp, resolve, invoke, builtin, hx, hy, hr]
/-- A new slice of n zero bytes. -/
theorem Lmk {n : Nat} {i : Int} (hx : ev N (fl L B) x = .int .i64 i) (hi : i = (n : Int)) (hn : n ≤ 1000000)
  (K : ∀ X w1, w.heap.size = X → Bk w1 X n 5 (fun _ => .int .u8 0) → Kp [] w w1 → w1.heap.size = X + 1 → wpList Tryd.prog ops Q rest (fr N (fl ((dd, .slice (some ⟨X, 0, none⟩) n n) :: L) B)) w1) :
  wpList Tryd.prog ops Q (⟨some dd, .makeSlice 22 x x, ty, pos, af, none⟩ :: rest) (fr N (fl L B)) w := by
 subst hi
 have hr := run_make_row' (P := Tryd.prog) 22 5 (.int .u8 0) 1 und22 (by kernel_rfl) rfl .i64 .i64 n (by omega) (by omega) w
 refine L1 (v := .slice (some ⟨w.heap.size, 0, none⟩) n n) (w' := w.alloc (.cells (madeCells #[.int .u8 0] n) 5)) ?_ (K _ _ rfl ?_ ((Kp.refl [] w).alloc _) (by simp))
 ·simp [execOp, hx, hr]
 ·obtain ⟨C, h1, h2, h3⟩ := World.rowIs_made w (.int .u8 0) n 5
  exact ⟨C, h1, h2, h3⟩
end
end Go.Proofs.YtejeloeaklpinaaDoor
namespace Go.Proofs.YtejeloeaklpinaaDoor
attribute [local irreducible] wpList wpStill wpMix Code.wp Calls fr
theorem copied_c (w : World) (v : Value) (xs : List Nat) (hA : Ag w v xs) (hn : xs.length ≤ 140737488355328) :
  Ret 15 [v] w fun v' w' => Sl w' v' xs ∧ Kp [] w w' ∧ ∀ k, v'.ownBlock = some k → w.heap.size ≤ k := by
 refine calls_fr (N := 5) Tryd.func15 rfl rfl (by simp) rfl ?_
 refine sqr ?_
 refine L1 (asg (v := .slice _ _ _) rfl) ?_
 refine nt ?_
 refine sqr ?_
 refine L1 (mv (v := v) rfl) ?_
 refine Lapg (v := .slice none 0 0) rfl rfl (Sl.nil w) hA (by simpa using hn) ?_
 intro v' w1 hS kp hown
 refine L1 (asg (v := v') rfl) ?_
 refine nt ?_
 refine wp_ret ?_
 refine ret1 rfl rfl ?_
 exact ⟨v', rfl, by simpa using hS, kp.mono (by simp [obk, Value.ownBlock]), fun k hk => (hown k hk).elim (fun h => by cases h) id⟩
theorem newReader_c (w : World) (a : Option Addr) (n c : Nat) :
  Ret 14 [.slice a n c] w fun v' w' => v' = .pointer (some ⟨w.heap.size, 0, none⟩) ∧ Bk w' w.heap.size 3 70 (fun k => if k = 0 then .slice a n c else if k = 1 then .int .i64 0 else .int .i64 (-1)) ∧ Kp [] w w' ∧ w'.heap.size = w.heap.size + 1 := by
 refine calls_fr (N := 6) Tryd.func14 rfl rfl (by simp) rfl ?_
 refine sqr ?_
 refine L1 (asg (v := .pointer _) rfl) ?_
 refine nt ?_
 refine sqr ?_
 refine Ms rfl ?_
 refine L1 (bd70 rfl rfl rfl) ?_
 refine L1 (bx70 rfl) ?_
 refine L1 (asg (v := .pointer _) rfl) ?_
 refine nt ?_
 refine wp_ret ?_
 refine ret1 rfl rfl ?_
 refine ⟨_, rfl, rfl, ?_, (Kp.refl [] w).alloc _, by simp⟩
 exact Bk.newOf w _ 70 3 (fun k => if k = 0 then .slice a n c else if k = 1 then .int .i64 0 else .int .i64 (-1)) rfl
theorem makeReader_c (w : World) (F R : Nat) (g : Nat → Value) (hF : Bk w F 1054 95 g) :
  Ret 34 [.pointer (some ⟨F, 0, none⟩), .iface 43 (.pointer (some ⟨R, 0, none⟩))] w fun v w' => v = .tuple #[] ∧ Bk w' F 1054 95 (upd (upd g 1 (.pointer none)) 0 (.iface 43 (.pointer (some ⟨R, 0, none⟩)))) ∧ Kp [F] w w' := by
 have kp := Kp.refl [F] w
 refine calls_fr (N := 43) Tryd.func34 rfl rfl (by simp) rfl ?_
 refine wp_seq ?_
 refine sqr ?_
 refine L1 (mv (v := .iface _ _) rfl) ?_
 refine L1 (ta80 rfl) ?_
 refine L1 (mv (v := .tuple _) rfl) ?_
 refine L1 (ext2_0 rfl) ?_
 refine L1 (ext2_1 rfl) ?_
 refine L1 (asg (v := .iface _ _) rfl) ?_
 refine Ab rfl ?_
 refine nt ?_
 refine sqr ?_
 refine Mb rfl ?_
 refine nt ?_
 refine cond_t rfl ?_
 refine sqr ?_
 refine Mp rfl ?_
 refine Np rfl ?_
 refine L1 (fa95_1 rfl) ?_
 refine Lst81 (v := .pointer _) rfl rfl rfl hF (by decide) ?_
 intro w1 hF kp1
 have kp := kp.trans kp1
 clear kp1
 refine nt ?_
 refine sqr ?_
 refine Mp rfl ?_
 refine L1 (mv (v := .iface _ _) rfl) ?_
 refine Np rfl ?_
 refine L1 (fa95_0 rfl) ?_
 refine Lst80 (v := .iface _ _) rfl rfl rfl hF (by decide) ?_
 intro w1 hF kp1
 have kp := kp.trans kp1
 clear kp1
 refine nt ?_
 refine wp_ret ?_
 refine then_r ?_
 refine ret0 rfl ?_
 exact ⟨_, rfl, rfl, hF, kp⟩
/-- What init leaves: the last bytes of the dictionary in the window. -/
def InitP (F H : Nat) (w' : World) (g : Nat → Value) (xs : List Nat) : Prop :=
 ∃ g' hs, Bk w' F 1054 95 g' ∧ Bk w' H 32768 5 hs ∧ Off [1037, 1038, 1039, 1040] g g' ∧ g' 1037 = .slice (some ⟨H, 0, none⟩) 32768 32768 ∧
  g' 1038 = .int .i64 ((min xs.length 32768 % 32768 : Nat) : Int) ∧ g' 1039 = .int .i64 ((min xs.length 32768 % 32768 : Nat) : Int) ∧ g' 1040 = .bool (decide (32768 ≤ xs.length)) ∧
  (∀ k, k < 32768 → ∃ c : Nat, c < 256 ∧ hs k = .int .u8 c) ∧ ∀ j, j < min xs.length 32768 → hs j = .int .u8 (xs.getD (xs.length - min xs.length 32768 + j) 0)
theorem initP_mk {F H : Nat} {w' : World} {g g' hs : Nat → Value} {xs : List Nat} {dg : Nat → Value} {o n : Nat} (hn : n = min xs.length 32768) (ho : o = xs.length - n) (hF : Bk w' F 1054 95 g') (hH : Bk w' H 32768 5 (cpg hs dg 0 o n)) (ho' : Off [1037, 1038, 1039, 1040] g g')
  (h1 : g' 1037 = .slice (some ⟨H, 0, none⟩) 32768 32768) (h2 : g' 1038 = .int .i64 ((n % 32768 : Nat) : Int)) (h3 : g' 1039 = .int .i64 ((n % 32768 : Nat) : Int)) (h4 : g' 1040 = .bool (decide (32768 ≤ xs.length)))
  (hb : ∀ k, k < 32768 → ∃ c : Nat, c < 256 ∧ hs k = .int .u8 c) (hx : ∀ x ∈ xs, x < 256) (hd : ∀ k, k < xs.length → dg k = .int .u8 (xs.getD k 0)) : InitP F H w' g xs := by
 subst hn ho
 refine ⟨g', _, hF, hH, ho', h1, h2, h3, h4, fun k hk => ?_, fun j hj => ?_⟩
 ·unfold cpg
  split
  ·rename_i hh
   have hlt : xs.length - min xs.length 32768 + (k - 0) < xs.length := by omega
   refine ⟨xs.getD (xs.length - min xs.length 32768 + (k - 0)) 0, ?_, hd _ hlt⟩
   rw [List.getD_eq_getElem?_getD, List.getElem?_eq_getElem hlt]
   exact hx _ (List.getElem_mem hlt)
  ·exact hb k hk
 ·unfold cpg
  rw [if_pos (by omega), hd _ (by omega), Nat.sub_zero]
theorem init_n_none (w : World) (F : Nat) (g : Nat → Value) (hF : Bk w F 1054 95 g) (h37 : g 1037 = .slice none 0 0) (da : Option Addr) (dc : Nat) :
  Ret 36 [.pointer (some ⟨F, 1037, none⟩), .int .i64 32768, .slice da 0 dc] w fun v w' => v = .tuple #[] ∧ ∃ H, w.heap.size ≤ H ∧ InitP F H w' g [] ∧ Kp [F] w w' := by
 have kp := Kp.refl [F] w
 have hFlt := hF.lt
 refine calls_fr (N := 84) Tryd.func36 rfl rfl (by simp) rfl ?_
 refine sqr ?_
 refine Mp rfl ?_
 refine Mp rfl ?_
 refine Np rfl ?_
 refine L1 (fd90_0 rfl) ?_
 refine L1 (ld22 rfl (hF.cellv (by decide) h37)) ?_
 refine L1 (bd90 rfl) ?_
 refine Np rfl ?_
 refine Lst90 rfl rfl ⟨rfl, rfl, rfl, rfl⟩ hF (by decide) ?_
 intro w1 hF kp1
 have kp := kp.trans (kp1.mono (by simp))
 clear kp1
 refine nt ?_
 refine wp_seq ?_
 refine sqr ?_
 refine Mp rfl ?_
 refine Np rfl ?_
 refine L1 (fd90_0 rfl) ?_
 refine L1 (ld22 rfl (hF.cellv (v := .slice _ _ _) (by decide) rfl)) ?_
 refine L1 (cp und22 rfl) ?_
 refine Mi rfl ?_
 refine L1 (bi rfl rfl (bn_lss (v := true) (decide_eq_true (by omega)))) ?_
 refine nt ?_
 refine cond_t rfl ?_
 refine reg_lit ?_
 refine Mp rfl ?_
 refine Mi rfl ?_
 refine Lmk (n := 32768) rfl rfl (by decide) ?_
 intro H w1 hHe hH kp1 hsz
 have hle0 := kp.size
 have hFH : F ≠ H := by omega
 have hF := hF.kp kp1 (by simp)
 have kp := kp.trans (kp1.mono (by simp))
 clear kp1
 refine Np rfl ?_
 refine L1 (fd90_0 rfl) ?_
 refine Lst22 (v := .slice _ _ _) rfl rfl rfl hF (by decide) ?_
 intro w1 hF kp1
 have hH := hH.kp kp1 (by simp; exact fun e => hFH e.symm)
 have kp := kp.trans (kp1.mono (by simp))
 clear kp1
 refine nt ?_
 refine sqr ?_
 refine Mp rfl ?_
 refine Mp rfl ?_
 refine Np rfl ?_
 refine L1 (fd90_0 rfl) ?_
 refine L1 (ld22 rfl (hF.cellv (v := .slice _ _ _) (by decide) rfl)) ?_
 refine Mi rfl ?_
 refine L1 (sl_h und22 sz5 rfl rfl (h := 32768) rfl (by omega)) ?_
 refine Np rfl ?_
 refine L1 (fd90_0 rfl) ?_
 refine Lst22 (v := .slice _ _ _) rfl rfl rfl hF (by decide) ?_
 intro w1 hF kp1
 have hH := hH.kp kp1 (by simp; exact fun e => hFH e.symm)
 have kp := kp.trans (kp1.mono (by simp))
 clear kp1
 refine nt ?_
 refine wp_seq ?_
 refine sqr ?_
 refine Ms rfl ?_
 refine L1 (ln und22 rfl) ?_
 refine Mp rfl ?_
 refine Np rfl ?_
 refine L1 (fd90_0 rfl) ?_
 refine L1 (ld22 rfl (hF.cellv (v := .slice _ _ _) (by decide) rfl)) ?_
 refine L1 (ln und22 rfl) ?_
 refine L1 (bi rfl rfl (bn_gtr (v := false) (decide_eq_false (by omega)))) ?_
 refine nt ?_
 refine cond_f rfl ?_
 refine skn ?_
 refine sqr ?_
 refine Mp rfl ?_
 refine Mp rfl ?_
 refine Np rfl ?_
 refine L1 (fd90_0 rfl) ?_
 refine L1 (ld22 rfl (hF.cellv (v := .slice _ _ _) (by decide) rfl)) ?_
 refine Ms rfl ?_
 refine L1 (run_cp0 rfl rfl (by simp)) ?_
 refine Np rfl ?_
 refine L1 (fd90_1 rfl) ?_
 refine Lst3 (v := .int _ _) rfl rfl rfl hF (by decide) ?_
 intro w1 hF kp1
 have hH := hH.kp kp1 (by simp; exact fun e => hFH e.symm)
 have kp := kp.trans (kp1.mono (by simp))
 clear kp1
 refine nt ?_
 refine wp_seq ?_
 refine wp_seq ?_
 refine reg_still mixed (by kernel_rfl) ?_
 have hF := hF.drew
 have hH := hH.drew
 have kp := kp.drew
 refine S1 (mv (v := .pointer _) rfl) ?_
 refine S1 (nilP rfl) ?_
 refine S1 (fd90_1 rfl) ?_
 refine S1 (ld3 rfl (hF.cellv (v := .int _ _) (by decide) rfl)) ?_
 refine S1 (mv (v := .pointer _) rfl) ?_
 refine S1 (nilP rfl) ?_
 refine S1 (fd90_0 rfl) ?_
 refine S1 (ld22 rfl (hF.cellv (v := .slice _ _ _) (by decide) rfl)) ?_
 refine S1 (ln und22 rfl) ?_
 refine S1 (bi rfl rfl (bn_eql (v := false) (decide_eq_false (by omega)))) ?_
 refine still_nil ?_
 refine then_n ?_
 refine cond_f rfl ?_
 refine skn ?_
 refine reg_lit ?_
 refine Mp rfl ?_
 refine Mp rfl ?_
 refine Np rfl ?_
 refine L1 (fd90_1 rfl) ?_
 refine L1 (ld3 rfl (hF.cellv (v := .int _ _) (by decide) rfl)) ?_
 refine Np rfl ?_
 refine L1 (fd90_2 rfl) ?_
 refine Lst3 (v := .int _ _) rfl rfl rfl hF (by decide) ?_
 intro w1 hF kp1
 have hH := hH.kp kp1 (by simp; exact fun e => hFH e.symm)
 have kp := kp.trans (kp1.mono (by simp))
 clear kp1
 refine wpList_nil ?_
 refine end0 rfl ?_
 refine ⟨_, rfl, rfl, H, by omega, ?_, kp⟩
 refine ⟨_, _, hF, hH, by repeat (first | exact Off.refl _ _ | refine Off.upd ?_ (by decide) _), rfl, rfl, rfl, rfl, (fun _ _ => ⟨0, by decide, rfl⟩), fun j hj => by simp at hj⟩
theorem init_n_small (w : World) (F : Nat) (g : Nat → Value) (hF : Bk w F 1054 95 g) (h37 : g 1037 = .slice none 0 0) (xs : List Nat) (Db dc dn : Nat) (dg : Nat → Value) (hD : Bk w Db dn 5 dg) (hDF : Db ≠ F) (hdn : xs.length ≤ dn) (hdc : xs.length ≤ dc) (hx : ∀ x ∈ xs, x < 256) (hdg : ∀ k, k < xs.length → dg k = .int .u8 (xs.getD k 0)) (h47 : xs.length ≤ 140737488355328) (hlen : xs.length < 32768) :
  Ret 36 [.pointer (some ⟨F, 1037, none⟩), .int .i64 32768, .slice (some ⟨Db, 0, none⟩) xs.length dc] w fun v w' => v = .tuple #[] ∧ ∃ H, w.heap.size ≤ H ∧ InitP F H w' g xs ∧ Kp [F] w w' := by
 have kp := Kp.refl [F] w
 have hFlt := hF.lt
 have hDlt := hD.lt
 refine calls_fr (N := 84) Tryd.func36 rfl rfl (by simp) rfl ?_
 refine sqr ?_
 refine Mp rfl ?_
 refine Mp rfl ?_
 refine Np rfl ?_
 refine L1 (fd90_0 rfl) ?_
 refine L1 (ld22 rfl (hF.cellv (by decide) h37)) ?_
 refine L1 (bd90 rfl) ?_
 refine Np rfl ?_
 refine Lst90 rfl rfl ⟨rfl, rfl, rfl, rfl⟩ hF (by decide) ?_
 intro w1 hF kp1
 have hD := hD.kp kp1 (by simp; exact hDF)
 have kp := kp.trans (kp1.mono (by simp))
 clear kp1
 refine nt ?_
 refine wp_seq ?_
 refine sqr ?_
 refine Mp rfl ?_
 refine Np rfl ?_
 refine L1 (fd90_0 rfl) ?_
 refine L1 (ld22 rfl (hF.cellv (v := .slice _ _ _) (by decide) rfl)) ?_
 refine L1 (cp und22 rfl) ?_
 refine Mi rfl ?_
 refine L1 (bi rfl rfl (bn_lss (v := true) (decide_eq_true (by omega)))) ?_
 refine nt ?_
 refine cond_t rfl ?_
 refine reg_lit ?_
 refine Mp rfl ?_
 refine Mi rfl ?_
 refine Lmk (n := 32768) rfl rfl (by decide) ?_
 intro H w1 hHe hH kp1 hsz
 have hle0 := kp.size
 have hFH : F ≠ H := by omega
 have hF := hF.kp kp1 (by simp)
 have hD := hD.kp kp1 (by simp)
 have hDH : Db ≠ H := by omega
 have kp := kp.trans (kp1.mono (by simp))
 clear kp1
 refine Np rfl ?_
 refine L1 (fd90_0 rfl) ?_
 refine Lst22 (v := .slice _ _ _) rfl rfl rfl hF (by decide) ?_
 intro w1 hF kp1
 have hH := hH.kp kp1 (by simp; exact fun e => hFH e.symm)
 have hD := hD.kp kp1 (by simp; exact hDF)
 have kp := kp.trans (kp1.mono (by simp))
 clear kp1
 refine nt ?_
 refine sqr ?_
 refine Mp rfl ?_
 refine Mp rfl ?_
 refine Np rfl ?_
 refine L1 (fd90_0 rfl) ?_
 refine L1 (ld22 rfl (hF.cellv (v := .slice _ _ _) (by decide) rfl)) ?_
 refine Mi rfl ?_
 refine L1 (sl_h und22 sz5 rfl rfl (h := 32768) rfl (by omega)) ?_
 refine Np rfl ?_
 refine L1 (fd90_0 rfl) ?_
 refine Lst22 (v := .slice _ _ _) rfl rfl rfl hF (by decide) ?_
 intro w1 hF kp1
 have hH := hH.kp kp1 (by simp; exact fun e => hFH e.symm)
 have hD := hD.kp kp1 (by simp; exact hDF)
 have kp := kp.trans (kp1.mono (by simp))
 clear kp1
 refine nt ?_
 refine wp_seq ?_
 refine sqr ?_
 refine Ms rfl ?_
 refine L1 (ln und22 rfl) ?_
 refine Mp rfl ?_
 refine Np rfl ?_
 refine L1 (fd90_0 rfl) ?_
 refine L1 (ld22 rfl (hF.cellv (v := .slice _ _ _) (by decide) rfl)) ?_
 refine L1 (ln und22 rfl) ?_
 refine L1 (bi rfl rfl (bn_gtr (v := false) (decide_eq_false (by omega)))) ?_
 refine nt ?_
 refine cond_f rfl ?_
 refine skn ?_
 refine sqr ?_
 refine Mp rfl ?_
 refine Mp rfl ?_
 refine Np rfl ?_
 refine L1 (fd90_0 rfl) ?_
 refine L1 (ld22 rfl (hF.cellv (v := .slice _ _ _) (by decide) rfl)) ?_
 refine Ms rfl ?_
 refine Lcp rfl rfl hH hD (by omega) (by omega) (fun j hj => by rw [hdg _ (by omega)]; rfl) ?_
 rw [show min xs.length 32768 = xs.length by omega]
 intro w1 hH kp1
 have hF := hF.kp kp1 (by simp; exact hFH)
 have hD := hD.kp kp1 (by simp; exact hDH)
 have kp := kp.transNew kp1 (by simp; omega)
 clear kp1
 refine Np rfl ?_
 refine L1 (fd90_1 rfl) ?_
 refine Lst3 (v := .int _ _) rfl rfl rfl hF (by decide) ?_
 intro w1 hF kp1
 have hH := hH.kp kp1 (by simp; exact fun e => hFH e.symm)
 have hD := hD.kp kp1 (by simp; exact hDF)
 have kp := kp.trans (kp1.mono (by simp))
 clear kp1
 refine nt ?_
 refine wp_seq ?_
 refine wp_seq ?_
 refine reg_still mixed (by kernel_rfl) ?_
 have hF := hF.drew
 have hH := hH.drew
 have kp := kp.drew
 have hD := hD.drew
 refine S1 (mv (v := .pointer _) rfl) ?_
 refine S1 (nilP rfl) ?_
 refine S1 (fd90_1 rfl) ?_
 refine S1 (ld3 rfl (hF.cellv (v := .int _ _) (by decide) rfl)) ?_
 refine S1 (mv (v := .pointer _) rfl) ?_
 refine S1 (nilP rfl) ?_
 refine S1 (fd90_0 rfl) ?_
 refine S1 (ld22 rfl (hF.cellv (v := .slice _ _ _) (by decide) rfl)) ?_
 refine S1 (ln und22 rfl) ?_
 refine S1 (bi rfl rfl (bn_eql (v := false) (decide_eq_false (by omega)))) ?_
 refine still_nil ?_
 refine then_n ?_
 refine cond_f rfl ?_
 refine skn ?_
 refine reg_lit ?_
 refine Mp rfl ?_
 refine Mp rfl ?_
 refine Np rfl ?_
 refine L1 (fd90_1 rfl) ?_
 refine L1 (ld3 rfl (hF.cellv (v := .int _ _) (by decide) rfl)) ?_
 refine Np rfl ?_
 refine L1 (fd90_2 rfl) ?_
 refine Lst3 (v := .int _ _) rfl rfl rfl hF (by decide) ?_
 intro w1 hF kp1
 have hH := hH.kp kp1 (by simp; exact fun e => hFH e.symm)
 have hD := hD.kp kp1 (by simp; exact hDF)
 have kp := kp.trans (kp1.mono (by simp))
 clear kp1
 refine wpList_nil ?_
 refine end0 rfl ?_
 refine ⟨_, rfl, rfl, H, by omega, ?_, kp⟩
 refine initP_mk (hs := (fun _ => .int .u8 0)) (dg := dg) (o := 0) (n := xs.length) (by omega) (by omega) hF hH (by repeat (first | exact Off.refl _ _ | refine Off.upd ?_ (by decide) _)) rfl ?_ ?_ ?_ (fun _ _ => ⟨0, by decide, rfl⟩) hx hdg
 ·rw [Nat.mod_eq_of_lt (by omega)]; rfl
 ·rw [Nat.mod_eq_of_lt (by omega)]; rfl
 ·show Value.bool false = _
  rw [decide_eq_false (by omega)]
theorem init_n_exact (w : World) (F : Nat) (g : Nat → Value) (hF : Bk w F 1054 95 g) (h37 : g 1037 = .slice none 0 0) (xs : List Nat) (Db dc dn : Nat) (dg : Nat → Value) (hD : Bk w Db dn 5 dg) (hDF : Db ≠ F) (hdn : xs.length ≤ dn) (hdc : xs.length ≤ dc) (hx : ∀ x ∈ xs, x < 256) (hdg : ∀ k, k < xs.length → dg k = .int .u8 (xs.getD k 0)) (h47 : xs.length ≤ 140737488355328) (hlen : xs.length = 32768) :
  Ret 36 [.pointer (some ⟨F, 1037, none⟩), .int .i64 32768, .slice (some ⟨Db, 0, none⟩) xs.length dc] w fun v w' => v = .tuple #[] ∧ ∃ H, w.heap.size ≤ H ∧ InitP F H w' g xs ∧ Kp [F] w w' := by
 have kp := Kp.refl [F] w
 have hFlt := hF.lt
 have hDlt := hD.lt
 refine calls_fr (N := 84) Tryd.func36 rfl rfl (by simp) rfl ?_
 refine sqr ?_
 refine Mp rfl ?_
 refine Mp rfl ?_
 refine Np rfl ?_
 refine L1 (fd90_0 rfl) ?_
 refine L1 (ld22 rfl (hF.cellv (by decide) h37)) ?_
 refine L1 (bd90 rfl) ?_
 refine Np rfl ?_
 refine Lst90 rfl rfl ⟨rfl, rfl, rfl, rfl⟩ hF (by decide) ?_
 intro w1 hF kp1
 have hD := hD.kp kp1 (by simp; exact hDF)
 have kp := kp.trans (kp1.mono (by simp))
 clear kp1
 refine nt ?_
 refine wp_seq ?_
 refine sqr ?_
 refine Mp rfl ?_
 refine Np rfl ?_
 refine L1 (fd90_0 rfl) ?_
 refine L1 (ld22 rfl (hF.cellv (v := .slice _ _ _) (by decide) rfl)) ?_
 refine L1 (cp und22 rfl) ?_
 refine Mi rfl ?_
 refine L1 (bi rfl rfl (bn_lss (v := true) (decide_eq_true (by omega)))) ?_
 refine nt ?_
 refine cond_t rfl ?_
 refine reg_lit ?_
 refine Mp rfl ?_
 refine Mi rfl ?_
 refine Lmk (n := 32768) rfl rfl (by decide) ?_
 intro H w1 hHe hH kp1 hsz
 have hle0 := kp.size
 have hFH : F ≠ H := by omega
 have hF := hF.kp kp1 (by simp)
 have hD := hD.kp kp1 (by simp)
 have hDH : Db ≠ H := by omega
 have kp := kp.trans (kp1.mono (by simp))
 clear kp1
 refine Np rfl ?_
 refine L1 (fd90_0 rfl) ?_
 refine Lst22 (v := .slice _ _ _) rfl rfl rfl hF (by decide) ?_
 intro w1 hF kp1
 have hH := hH.kp kp1 (by simp; exact fun e => hFH e.symm)
 have hD := hD.kp kp1 (by simp; exact hDF)
 have kp := kp.trans (kp1.mono (by simp))
 clear kp1
 refine nt ?_
 refine sqr ?_
 refine Mp rfl ?_
 refine Mp rfl ?_
 refine Np rfl ?_
 refine L1 (fd90_0 rfl) ?_
 refine L1 (ld22 rfl (hF.cellv (v := .slice _ _ _) (by decide) rfl)) ?_
 refine Mi rfl ?_
 refine L1 (sl_h und22 sz5 rfl rfl (h := 32768) rfl (by omega)) ?_
 refine Np rfl ?_
 refine L1 (fd90_0 rfl) ?_
 refine Lst22 (v := .slice _ _ _) rfl rfl rfl hF (by decide) ?_
 intro w1 hF kp1
 have hH := hH.kp kp1 (by simp; exact fun e => hFH e.symm)
 have hD := hD.kp kp1 (by simp; exact hDF)
 have kp := kp.trans (kp1.mono (by simp))
 clear kp1
 refine nt ?_
 refine wp_seq ?_
 refine sqr ?_
 refine Ms rfl ?_
 refine L1 (ln und22 rfl) ?_
 refine Mp rfl ?_
 refine Np rfl ?_
 refine L1 (fd90_0 rfl) ?_
 refine L1 (ld22 rfl (hF.cellv (v := .slice _ _ _) (by decide) rfl)) ?_
 refine L1 (ln und22 rfl) ?_
 refine L1 (bi rfl rfl (bn_gtr (v := false) (decide_eq_false (by omega)))) ?_
 refine nt ?_
 refine cond_f rfl ?_
 refine skn ?_
 refine sqr ?_
 refine Mp rfl ?_
 refine Mp rfl ?_
 refine Np rfl ?_
 refine L1 (fd90_0 rfl) ?_
 refine L1 (ld22 rfl (hF.cellv (v := .slice _ _ _) (by decide) rfl)) ?_
 refine Ms rfl ?_
 refine Lcp rfl rfl hH hD (by omega) (by omega) (fun j hj => by rw [hdg _ (by omega)]; rfl) ?_
 rw [show min xs.length 32768 = 32768 by omega]
 intro w1 hH kp1
 have hF := hF.kp kp1 (by simp; exact hFH)
 have hD := hD.kp kp1 (by simp; exact hDH)
 have kp := kp.transNew kp1 (by simp; omega)
 clear kp1
 refine Np rfl ?_
 refine L1 (fd90_1 rfl) ?_
 refine Lst3 (v := .int _ _) rfl rfl rfl hF (by decide) ?_
 intro w1 hF kp1
 have hH := hH.kp kp1 (by simp; exact fun e => hFH e.symm)
 have hD := hD.kp kp1 (by simp; exact hDF)
 have kp := kp.trans (kp1.mono (by simp))
 clear kp1
 refine nt ?_
 refine wp_seq ?_
 refine wp_seq ?_
 refine reg_still mixed (by kernel_rfl) ?_
 have hF := hF.drew
 have hH := hH.drew
 have kp := kp.drew
 have hD := hD.drew
 refine S1 (mv (v := .pointer _) rfl) ?_
 refine S1 (nilP rfl) ?_
 refine S1 (fd90_1 rfl) ?_
 refine S1 (ld3 rfl (hF.cellv (v := .int _ _) (by decide) rfl)) ?_
 refine S1 (mv (v := .pointer _) rfl) ?_
 refine S1 (nilP rfl) ?_
 refine S1 (fd90_0 rfl) ?_
 refine S1 (ld22 rfl (hF.cellv (v := .slice _ _ _) (by decide) rfl)) ?_
 refine S1 (ln und22 rfl) ?_
 refine S1 (bi rfl rfl (bn_eql (v := true) (decide_eq_true (by omega)))) ?_
 refine still_nil ?_
 refine then_n ?_
 refine cond_t rfl ?_
 refine sqr ?_
 refine Mp rfl ?_
 refine Np rfl ?_
 refine L1 (fd90_1 rfl) ?_
 refine Lst3 (v := .int _ _) rfl rfl rfl hF (by decide) ?_
 intro w1 hF kp1
 have hH := hH.kp kp1 (by simp; exact fun e => hFH e.symm)
 have hD := hD.kp kp1 (by simp; exact hDF)
 have kp := kp.trans (kp1.mono (by simp))
 clear kp1
 refine nt ?_
 refine reg_lit ?_
 refine Mp rfl ?_
 refine Np rfl ?_
 refine L1 (fd90_3 rfl) ?_
 refine Lst4 (v := .bool _) rfl rfl rfl hF (by decide) ?_
 intro w1 hF kp1
 have hH := hH.kp kp1 (by simp; exact fun e => hFH e.symm)
 have hD := hD.kp kp1 (by simp; exact hDF)
 have kp := kp.trans (kp1.mono (by simp))
 clear kp1
 refine nt ?_
 refine reg_lit ?_
 refine Mp rfl ?_
 refine Mp rfl ?_
 refine Np rfl ?_
 refine L1 (fd90_1 rfl) ?_
 refine L1 (ld3 rfl (hF.cellv (v := .int _ _) (by decide) rfl)) ?_
 refine Np rfl ?_
 refine L1 (fd90_2 rfl) ?_
 refine Lst3 (v := .int _ _) rfl rfl rfl hF (by decide) ?_
 intro w1 hF kp1
 have hH := hH.kp kp1 (by simp; exact fun e => hFH e.symm)
 have hD := hD.kp kp1 (by simp; exact hDF)
 have kp := kp.trans (kp1.mono (by simp))
 clear kp1
 refine wpList_nil ?_
 refine end0 rfl ?_
 refine ⟨_, rfl, rfl, H, by omega, ?_, kp⟩
 refine initP_mk (hs := (fun _ => .int .u8 0)) (dg := dg) (o := 0) (n := 32768) (by omega) (by omega) hF hH (by repeat (first | exact Off.refl _ _ | refine Off.upd ?_ (by decide) _)) rfl ?_ ?_ ?_ (fun _ _ => ⟨0, by decide, rfl⟩) hx hdg
 ·rfl
 ·rfl
 ·show Value.bool true = _
  rw [decide_eq_true (by omega)]
theorem init_n_great (w : World) (F : Nat) (g : Nat → Value) (hF : Bk w F 1054 95 g) (h37 : g 1037 = .slice none 0 0) (xs : List Nat) (Db dc dn : Nat) (dg : Nat → Value) (hD : Bk w Db dn 5 dg) (hDF : Db ≠ F) (hdn : xs.length ≤ dn) (hdc : xs.length ≤ dc) (hx : ∀ x ∈ xs, x < 256) (hdg : ∀ k, k < xs.length → dg k = .int .u8 (xs.getD k 0)) (h47 : xs.length ≤ 140737488355328) (hlen : 32768 < xs.length) :
  Ret 36 [.pointer (some ⟨F, 1037, none⟩), .int .i64 32768, .slice (some ⟨Db, 0, none⟩) xs.length dc] w fun v w' => v = .tuple #[] ∧ ∃ H, w.heap.size ≤ H ∧ InitP F H w' g xs ∧ Kp [F] w w' := by
 have kp := Kp.refl [F] w
 have hFlt := hF.lt
 have hDlt := hD.lt
 obtain ⟨oo, hoo⟩ : ∃ oo, xs.length = oo + 32768 := ⟨xs.length - 32768, by omega⟩
 have hlc : oo < dc := by omega
 have hle : oo ≤ xs.length := by omega
 refine calls_fr (N := 84) Tryd.func36 rfl rfl (by simp) rfl ?_
 refine sqr ?_
 refine Mp rfl ?_
 refine Mp rfl ?_
 refine Np rfl ?_
 refine L1 (fd90_0 rfl) ?_
 refine L1 (ld22 rfl (hF.cellv (by decide) h37)) ?_
 refine L1 (bd90 rfl) ?_
 refine Np rfl ?_
 refine Lst90 rfl rfl ⟨rfl, rfl, rfl, rfl⟩ hF (by decide) ?_
 intro w1 hF kp1
 have hD := hD.kp kp1 (by simp; exact hDF)
 have kp := kp.trans (kp1.mono (by simp))
 clear kp1
 refine nt ?_
 refine wp_seq ?_
 refine sqr ?_
 refine Mp rfl ?_
 refine Np rfl ?_
 refine L1 (fd90_0 rfl) ?_
 refine L1 (ld22 rfl (hF.cellv (v := .slice _ _ _) (by decide) rfl)) ?_
 refine L1 (cp und22 rfl) ?_
 refine Mi rfl ?_
 refine L1 (bi rfl rfl (bn_lss (v := true) (decide_eq_true (by omega)))) ?_
 refine nt ?_
 refine cond_t rfl ?_
 refine reg_lit ?_
 refine Mp rfl ?_
 refine Mi rfl ?_
 refine Lmk (n := 32768) rfl rfl (by decide) ?_
 intro H w1 hHe hH kp1 hsz
 have hle0 := kp.size
 have hFH : F ≠ H := by omega
 have hF := hF.kp kp1 (by simp)
 have hD := hD.kp kp1 (by simp)
 have hDH : Db ≠ H := by omega
 have kp := kp.trans (kp1.mono (by simp))
 clear kp1
 refine Np rfl ?_
 refine L1 (fd90_0 rfl) ?_
 refine Lst22 (v := .slice _ _ _) rfl rfl rfl hF (by decide) ?_
 intro w1 hF kp1
 have hH := hH.kp kp1 (by simp; exact fun e => hFH e.symm)
 have hD := hD.kp kp1 (by simp; exact hDF)
 have kp := kp.trans (kp1.mono (by simp))
 clear kp1
 refine nt ?_
 refine sqr ?_
 refine Mp rfl ?_
 refine Mp rfl ?_
 refine Np rfl ?_
 refine L1 (fd90_0 rfl) ?_
 refine L1 (ld22 rfl (hF.cellv (v := .slice _ _ _) (by decide) rfl)) ?_
 refine Mi rfl ?_
 refine L1 (sl_h und22 sz5 rfl rfl (h := 32768) rfl (by omega)) ?_
 refine Np rfl ?_
 refine L1 (fd90_0 rfl) ?_
 refine Lst22 (v := .slice _ _ _) rfl rfl rfl hF (by decide) ?_
 intro w1 hF kp1
 have hH := hH.kp kp1 (by simp; exact fun e => hFH e.symm)
 have hD := hD.kp kp1 (by simp; exact hDF)
 have kp := kp.trans (kp1.mono (by simp))
 clear kp1
 refine nt ?_
 refine wp_seq ?_
 refine sqr ?_
 refine Ms rfl ?_
 refine L1 (ln und22 rfl) ?_
 refine Mp rfl ?_
 refine Np rfl ?_
 refine L1 (fd90_0 rfl) ?_
 refine L1 (ld22 rfl (hF.cellv (v := .slice _ _ _) (by decide) rfl)) ?_
 refine L1 (ln und22 rfl) ?_
 refine L1 (bi rfl rfl (bn_gtr (v := true) (decide_eq_true (by omega)))) ?_
 refine nt ?_
 refine cond_t rfl ?_
 refine reg_lit ?_
 refine Ms rfl ?_
 refine Ms rfl ?_
 refine L1 (ln und22 rfl) ?_
 refine Mp rfl ?_
 refine Np rfl ?_
 refine L1 (fd90_0 rfl) ?_
 refine L1 (ld22 rfl (hF.cellv (v := .slice _ _ _) (by decide) rfl)) ?_
 refine L1 (ln und22 rfl) ?_
 refine L1 (bi rfl rfl (bn_sub (c := ((oo : Nat) : Int)) (by omega) (by omega) (by omega))) ?_
 refine L1 (slb_l und22 sz5 rfl rfl (l := oo) rfl hle hlc) ?_
 refine L1 (asg (v := .slice _ _ _) rfl) ?_
 refine nt ?_
 refine sqr ?_
 refine Mp rfl ?_
 refine Mp rfl ?_
 refine Np rfl ?_
 refine L1 (fd90_0 rfl) ?_
 refine L1 (ld22 rfl (hF.cellv (v := .slice _ _ _) (by decide) rfl)) ?_
 refine Ms rfl ?_
 refine Lcp rfl rfl hH hD (by omega) (by omega) (fun j hj => by rw [hdg _ (by omega)]; rfl) ?_
 rw [show min (xs.length - oo) 32768 = 32768 by omega]
 intro w1 hH kp1
 have hF := hF.kp kp1 (by simp; exact hFH)
 have hD := hD.kp kp1 (by simp; exact hDH)
 have kp := kp.transNew kp1 (by simp; omega)
 clear kp1
 refine Np rfl ?_
 refine L1 (fd90_1 rfl) ?_
 refine Lst3 (v := .int _ _) rfl rfl rfl hF (by decide) ?_
 intro w1 hF kp1
 have hH := hH.kp kp1 (by simp; exact fun e => hFH e.symm)
 have hD := hD.kp kp1 (by simp; exact hDF)
 have kp := kp.trans (kp1.mono (by simp))
 clear kp1
 refine nt ?_
 refine wp_seq ?_
 refine wp_seq ?_
 refine reg_still mixed (by kernel_rfl) ?_
 have hF := hF.drew
 have hH := hH.drew
 have kp := kp.drew
 have hD := hD.drew
 refine S1 (mv (v := .pointer _) rfl) ?_
 refine S1 (nilP rfl) ?_
 refine S1 (fd90_1 rfl) ?_
 refine S1 (ld3 rfl (hF.cellv (v := .int _ _) (by decide) rfl)) ?_
 refine S1 (mv (v := .pointer _) rfl) ?_
 refine S1 (nilP rfl) ?_
 refine S1 (fd90_0 rfl) ?_
 refine S1 (ld22 rfl (hF.cellv (v := .slice _ _ _) (by decide) rfl)) ?_
 refine S1 (ln und22 rfl) ?_
 refine S1 (bi rfl rfl (bn_eql (v := true) (decide_eq_true (by omega)))) ?_
 refine still_nil ?_
 refine then_n ?_
 refine cond_t rfl ?_
 refine sqr ?_
 refine Mp rfl ?_
 refine Np rfl ?_
 refine L1 (fd90_1 rfl) ?_
 refine Lst3 (v := .int _ _) rfl rfl rfl hF (by decide) ?_
 intro w1 hF kp1
 have hH := hH.kp kp1 (by simp; exact fun e => hFH e.symm)
 have hD := hD.kp kp1 (by simp; exact hDF)
 have kp := kp.trans (kp1.mono (by simp))
 clear kp1
 refine nt ?_
 refine reg_lit ?_
 refine Mp rfl ?_
 refine Np rfl ?_
 refine L1 (fd90_3 rfl) ?_
 refine Lst4 (v := .bool _) rfl rfl rfl hF (by decide) ?_
 intro w1 hF kp1
 have hH := hH.kp kp1 (by simp; exact fun e => hFH e.symm)
 have hD := hD.kp kp1 (by simp; exact hDF)
 have kp := kp.trans (kp1.mono (by simp))
 clear kp1
 refine nt ?_
 refine reg_lit ?_
 refine Mp rfl ?_
 refine Mp rfl ?_
 refine Np rfl ?_
 refine L1 (fd90_1 rfl) ?_
 refine L1 (ld3 rfl (hF.cellv (v := .int _ _) (by decide) rfl)) ?_
 refine Np rfl ?_
 refine L1 (fd90_2 rfl) ?_
 refine Lst3 (v := .int _ _) rfl rfl rfl hF (by decide) ?_
 intro w1 hF kp1
 have hH := hH.kp kp1 (by simp; exact fun e => hFH e.symm)
 have hD := hD.kp kp1 (by simp; exact hDF)
 have kp := kp.trans (kp1.mono (by simp))
 clear kp1
 refine wpList_nil ?_
 refine end0 rfl ?_
 refine ⟨_, rfl, rfl, H, by omega, ?_, kp⟩
 refine initP_mk (hs := (fun _ => .int .u8 0)) (dg := dg) (o := oo) (n := 32768) (by omega) (by omega) hF (by simpa using hH) (by repeat (first | exact Off.refl _ _ | refine Off.upd ?_ (by decide) _)) rfl ?_ ?_ ?_ (fun _ _ => ⟨0, by decide, rfl⟩) hx hdg
 ·rfl
 ·rfl
 ·show Value.bool true = _
  rw [decide_eq_true (by omega)]
end Go.Proofs.YtejeloeaklpinaaDoor
namespace Go.Proofs.YtejeloeaklpinaaDoor
attribute [local irreducible] wpList wpStill wpMix Code.wp Calls fr
theorem init_n (w : World) (F : Nat) (g : Nat → Value) (hF : Bk w F 1054 95 g) (h37 : g 1037 = .slice none 0 0) (dv : Value) (xs : List Nat) (hS : Sl w dv xs) (hx : ∀ x ∈ xs, x < 256) (h47 : xs.length ≤ 140737488355328) (hDF : ∀ k, dv.ownBlock = some k → k ≠ F) :
  Ret 36 [.pointer (some ⟨F, 1037, none⟩), .int .i64 32768, dv] w fun v w' => v = .tuple #[] ∧ ∃ H, w.heap.size ≤ H ∧ InitP F H w' g xs ∧ Kp [F] w w' := by
 by_cases h0 : xs = []
 ·subst h0
  obtain ⟨a, c, rfl⟩ := hS.val
  exact init_n_none w F g hF h37 a c
 ·rcases hS with ⟨_, h⟩ | ⟨b, cap, dg, rfl, hD, hxc, hcm, hdg⟩
  ·exact absurd h h0
  ·have hbF : b ≠ F := hDF b rfl
   rcases Nat.lt_trichotomy xs.length 32768 with h | h | h
   ·exact init_n_small w F g hF h37 xs b cap cap dg hD hbF hxc hxc hx hdg h47 h
   ·exact init_n_exact w F g hF h37 xs b cap cap dg hD hbF hxc hxc hx hdg h47 h
   ·exact init_n_great w F g hF h37 xs b cap cap dg hD hbF hxc hxc hx hdg h47 h
/-- The reader's cells ahead of init. -/
def gI (R bt cb : Nat) : Nat → Value := upd (upd (upd (upd (upd g95 1 (.pointer none)) 0 (.iface 43 (.pointer (some ⟨R, 0, none⟩)))) 1035 (.pointer (some ⟨bt, 0, none⟩))) 1036 (.pointer (some ⟨cb, 0, none⟩))) 1045 (fnv 35)
theorem nr_raw (w : World) (R : Nat) :
  Ret 24 [.iface 43 (.pointer (some ⟨R, 0, none⟩))] w fun v w' => ∃ F H bt cb, v = .iface 99 (.pointer (some ⟨F, 0, none⟩)) ∧ w.heap.size ≤ F ∧ F < bt ∧ bt < cb ∧ cb < H ∧ InitP F H w' (gI R bt cb) [] ∧ Bk w' bt 316 97 (fun _ => .int .i64 0) ∧ Bk w' cb 19 98 (fun _ => .int .i64 0) ∧ Kp [] w w' := by
 have kp := Kp.refl [] w
 refine calls_fr (N := 14) Tryd.func24 rfl rfl (by simp) rfl ?_
 refine sqr ?_
 refine L1 (asg (v := .nilIface) rfl) ?_
 refine nt ?_
 refine sqr ?_
 refine Lal95 ?_
 intro F w1 heF hF kp1 hszF
 skip
 have hszk := kp.size
 have kp := kp.trans kp1
 clear kp1
 refine nt ?_
 refine sqr ?_
 refine L1 (mv (v := .iface _ _) rfl) ?_
 refine LC (cl2 has34 rfl rfl rfl) (makeReader_c _ F R g95 hF) ?_
 rintro v w1 ⟨rfl, hF, kp1⟩
 skip
 have hsz1 := kp1.size
 have kp := kp.transNew kp1 (by simp; omega)
 clear kp1
 refine nt ?_
 refine sqr ?_
 refine Lal97 ?_
 intro bt w1 hebt hbt kp1 hszbt
 have hF := hF.kp kp1 (by simp)
 skip
 have hszk := kp.size
 have kp := kp.trans kp1
 clear kp1
 refine L1 (fa95_7 rfl) ?_
 refine Lst87 (v := .pointer _) rfl rfl rfl hF (by decide) ?_
 intro w1 hF kp1
 have hbt := hbt.kp kp1 (by simp; omega)
 skip
 have hsz1 := kp1.size
 have kp := kp.transNew kp1 (by simp; omega)
 clear kp1
 refine nt ?_
 refine sqr ?_
 refine Lal98 ?_
 intro cb w1 hecb hcb kp1 hszcb
 have hF := hF.kp kp1 (by simp)
 have hbt := hbt.kp kp1 (by simp)
 skip
 have hszk := kp.size
 have kp := kp.trans kp1
 clear kp1
 refine L1 (fa95_8 rfl) ?_
 refine Lst88 (v := .pointer _) rfl rfl rfl hF (by decide) ?_
 intro w1 hF kp1
 have hbt := hbt.kp kp1 (by simp; omega)
 have hcb := hcb.kp kp1 (by simp; omega)
 skip
 have hsz1 := kp1.size
 have kp := kp.transNew kp1 (by simp; omega)
 clear kp1
 refine nt ?_
 refine sqr ?_
 refine L1 (fa95_11 rfl) ?_
 refine Lst92 (v := fnv 35) rfl rfl rfl hF (by decide) ?_
 intro w1 hF kp1
 have hbt := hbt.kp kp1 (by simp; omega)
 have hcb := hcb.kp kp1 (by simp; omega)
 skip
 have hsz1 := kp1.size
 have kp := kp.transNew kp1 (by simp; omega)
 clear kp1
 refine nt ?_
 refine sqr ?_
 refine L1 (fa95_9 rfl) ?_
 refine LC (cl3 has36 rfl rfl rfl rfl) (init_n _ F (gI R bt cb) hF rfl (.slice none 0 0) [] (Sl.nil _) (by simp) (by simp) (by intro k hk; cases hk)) ?_
 rintro v w1 ⟨rfl, H, hHs, hI, kp1⟩
 have hbt := hbt.kp kp1 (by simp; omega)
 have hcb := hcb.kp kp1 (by simp; omega)
 have hltc := hcb.lt
 have hsz1 := kp1.size
 have kp := kp.transNew kp1 (by simp; omega)
 refine nt ?_
 refine sqr ?_
 refine L1 (mkI99 rfl) ?_
 refine L1 (asg (v := .iface _ _) rfl) ?_
 refine nt ?_
 refine wp_ret ?_
 refine ret1 rfl rfl ?_
 exact ⟨_, rfl, F, H, bt, cb, rfl, by omega, by omega, by omega, by omega, hI, hbt, hcb, kp⟩
theorem nrd_raw (w : World) (R : Nat) (dv : Value) (xs : List Nat) (hS : Sl w dv xs) (hx : ∀ x ∈ xs, x < 256) (h47 : xs.length ≤ 140737488355328) :
  Ret 26 [.iface 43 (.pointer (some ⟨R, 0, none⟩)), dv] w fun v w' => ∃ F H bt cb, v = .iface 99 (.pointer (some ⟨F, 0, none⟩)) ∧ w.heap.size ≤ F ∧ F < bt ∧ bt < cb ∧ cb < H ∧ InitP F H w' (gI R bt cb) xs ∧ Bk w' bt 316 97 (fun _ => .int .i64 0) ∧ Bk w' cb 19 98 (fun _ => .int .i64 0) ∧ Kp [] w w' := by
 have kp := Kp.refl [] w
 have hS0 := hS
 refine calls_fr (N := 17) Tryd.func26 rfl rfl (by simp) rfl ?_
 refine sqr ?_
 refine L1 (asg (v := .nilIface) rfl) ?_
 refine nt ?_
 refine sqr ?_
 refine Lal95 ?_
 intro F w1 heF hF kp1 hszF
 have hS := hS.kp kp1 (by simp)
 have hszk := kp.size
 have kp := kp.trans kp1
 clear kp1
 refine nt ?_
 refine sqr ?_
 refine L1 (mv (v := .iface _ _) rfl) ?_
 refine LC (cl2 has34 rfl rfl rfl) (makeReader_c _ F R g95 hF) ?_
 rintro v w1 ⟨rfl, hF, kp1⟩
 have hS := hS.kp kp1 (by intro k hk; simp; have := hS0.lt hk; omega)
 have hsz1 := kp1.size
 have kp := kp.transNew kp1 (by simp; omega)
 clear kp1
 refine nt ?_
 refine sqr ?_
 refine Lal97 ?_
 intro bt w1 hebt hbt kp1 hszbt
 have hF := hF.kp kp1 (by simp)
 have hS := hS.kp kp1 (by simp)
 have hszk := kp.size
 have kp := kp.trans kp1
 clear kp1
 refine L1 (fa95_7 rfl) ?_
 refine Lst87 (v := .pointer _) rfl rfl rfl hF (by decide) ?_
 intro w1 hF kp1
 have hbt := hbt.kp kp1 (by simp; omega)
 have hS := hS.kp kp1 (by intro k hk; simp; have := hS0.lt hk; omega)
 have hsz1 := kp1.size
 have kp := kp.transNew kp1 (by simp; omega)
 clear kp1
 refine nt ?_
 refine sqr ?_
 refine Lal98 ?_
 intro cb w1 hecb hcb kp1 hszcb
 have hF := hF.kp kp1 (by simp)
 have hbt := hbt.kp kp1 (by simp)
 have hS := hS.kp kp1 (by simp)
 have hszk := kp.size
 have kp := kp.trans kp1
 clear kp1
 refine L1 (fa95_8 rfl) ?_
 refine Lst88 (v := .pointer _) rfl rfl rfl hF (by decide) ?_
 intro w1 hF kp1
 have hbt := hbt.kp kp1 (by simp; omega)
 have hcb := hcb.kp kp1 (by simp; omega)
 have hS := hS.kp kp1 (by intro k hk; simp; have := hS0.lt hk; omega)
 have hsz1 := kp1.size
 have kp := kp.transNew kp1 (by simp; omega)
 clear kp1
 refine nt ?_
 refine sqr ?_
 refine L1 (fa95_11 rfl) ?_
 refine Lst92 (v := fnv 35) rfl rfl rfl hF (by decide) ?_
 intro w1 hF kp1
 have hbt := hbt.kp kp1 (by simp; omega)
 have hcb := hcb.kp kp1 (by simp; omega)
 have hS := hS.kp kp1 (by intro k hk; simp; have := hS0.lt hk; omega)
 have hsz1 := kp1.size
 have kp := kp.transNew kp1 (by simp; omega)
 clear kp1
 refine nt ?_
 refine sqr ?_
 refine L1 (fa95_9 rfl) ?_
 refine L1 (mv (v := dv) rfl) ?_
 refine LC (cl3 has36 rfl rfl rfl rfl) (init_n _ F (gI R bt cb) hF rfl dv xs hS hx h47 (fun k hk => by have := hS0.lt hk; omega)) ?_
 rintro v w1 ⟨rfl, H, hHs, hI, kp1⟩
 have hbt := hbt.kp kp1 (by simp; omega)
 have hcb := hcb.kp kp1 (by simp; omega)
 have hltc := hcb.lt
 have hsz1 := kp1.size
 have kp := kp.transNew kp1 (by simp; omega)
 refine nt ?_
 refine sqr ?_
 refine L1 (mkI99 rfl) ?_
 refine L1 (asg (v := .iface _ _) rfl) ?_
 refine nt ?_
 refine wp_ret ?_
 refine ret1 rfl rfl ?_
 exact ⟨_, rfl, F, H, bt, cb, rfl, by omega, by omega, by omega, by omega, hI, hbt, hcb, kp⟩
theorem len_c (E : Env) (w : World) (pos : Nat) (hE : E.Ok) (hrd : Rd E w pos) : Ret 18 [.pointer (some ⟨E.R, 0, none⟩)] w fun v w' => v = .int .i64 ((E.N - pos : Nat) : Int) ∧ Kp [] w w' := by
 have hN := hE.N47
 obtain ⟨v, z, r, hR, r0, r1, r2, hle, hd⟩ := hrd
 obtain ⟨sa, sc, rfl⟩ := hd.len
 have kp := Kp.refl [] w
 refine calls_fr (N := 23) Tryd.func18 rfl rfl (by simp) rfl ?_
 refine sqr ?_
 refine Ai rfl ?_
 refine nt ?_
 refine wp_seq ?_
 refine wp_seq ?_
 refine reg_still mixed (by kernel_rfl) ?_
 have hR := hR.drew
 have kp := kp.drew
 refine S1 (mv (v := .pointer _) rfl) ?_
 refine S1 (nilP rfl) ?_
 refine S1 (fa70_1 rfl) ?_
 refine S1 (ld2 rfl (hR.cellv (by decide) r1)) ?_
 refine S1 (mv (v := .pointer _) rfl) ?_
 refine S1 (nilP rfl) ?_
 refine S1 (fa70_0 rfl) ?_
 refine S1 (ld22 rfl (hR.cellv (by decide) r0)) ?_
 refine S1 (ln und22 rfl) ?_
 refine S1 (bi rfl rfl (bn_geq (v := decide (E.N ≤ pos)) (decide_eq_decide.2 (by omega)))) ?_
 refine still_nil ?_
 refine then_n ?_
 refine cond_d (p := E.N ≤ pos) rfl (fun hge => ?_) (fun hge => ?_)
 ·skip
  refine sqr ?_
  refine Ai rfl ?_
  refine nt ?_
  refine wp_ret ?_
  refine then_r ?_
  refine ret1 rfl rfl ?_
  exact ⟨_, rfl, congrArg (fun n : Nat => Value.int .i64 (n : Int)) (show 0 = E.N - pos by omega), kp⟩
 ·skip
  refine skn ?_
  refine wp_seq ?_
  refine reg_still mixed (by kernel_rfl) ?_
  have hR := hR.drew
  have kp := kp.drew
  refine S1 (mv (v := .pointer _) rfl) ?_
  refine S1 (nilP rfl) ?_
  refine S1 (fa70_0 rfl) ?_
  refine S1 (ld22 rfl (hR.cellv (by decide) r0)) ?_
  refine S1 (ln und22 rfl) ?_
  refine S1 (mv (v := .pointer _) rfl) ?_
  refine S1 (nilP rfl) ?_
  refine S1 (fa70_1 rfl) ?_
  refine S1 (ld2 rfl (hR.cellv (by decide) r1)) ?_
  refine S1 (bi rfl rfl (bn_sub (c := ((E.N - pos : Nat) : Int)) (by omega) (by omega) (by omega))) ?_
  refine S1 (asg (v := .int _ _) rfl) ?_
  refine still_nil ?_
  refine then_n ?_
  refine wp_ret ?_
  refine ret1 rfl rfl ?_
  exact ⟨_, rfl, rfl, kp⟩
end Go.Proofs.YtejeloeaklpinaaDoor
namespace Go.Proofs.YtejeloeaklpinaaDoor
/-- The machine's start behind a dictionary. -/
def lastW (xs : List Nat) : List Nat := xs.drop (xs.length - 32768)
def A0 (xs : List Nat) : A := ⟨0, 0, lastW xs, false, .next, 0, (lastW xs).length, (lastW xs).length⟩
theorem lastW_length (xs : List Nat) : (lastW xs).length = min xs.length 32768 := by unfold lastW; rw [List.length_drop]; omega
theorem lastW_getD (xs : List Nat) (i : Nat) : (lastW xs).getD i 0 = xs.getD (xs.length - min xs.length 32768 + i) 0 := by
 unfold lastW
 rw [List.getD_eq_getElem?_getD, List.getElem?_drop, ← List.getD_eq_getElem?_getD, show xs.length - 32768 = xs.length - min xs.length 32768 by omega]
attribute [irreducible] lastW
theorem hz_g95 (R bt cb : Nat) (g' : Nat → Value) (o : Off [1037, 1038, 1039, 1040] (gI R bt cb) g') : HZ g' 5 ∧ HZ g' 520 := by
 have e : ∀ j, 5 ≤ j → j < 1035 → g' j = g95 j := by
  intro j h1 h2
  rw [o j (by simp; omega)]
  unfold gI
  rw [upd_ne _ _ _ _ (by omega), upd_ne _ _ _ _ (by omega), upd_ne _ _ _ _ (by omega), upd_ne _ _ _ _ (by omega), upd_ne _ _ _ _ (by omega)]
 constructor
 ·refine .inr ⟨(e _ (by omega) (by omega)).trans rfl, fun k hk => (e _ (by omega) (by omega)).trans ?_, (e _ (by omega) (by omega)).trans rfl, (e _ (by omega) (by omega)).trans rfl⟩
  unfold g95
  rw [if_neg (by omega), if_neg (by omega), if_neg (by omega), if_neg (by omega), if_neg (by omega), if_neg (by omega), if_neg (by omega), if_neg (by omega)]
 ·refine .inr ⟨(e _ (by omega) (by omega)).trans rfl, fun k hk => (e _ (by omega) (by omega)).trans ?_, (e _ (by omega) (by omega)).trans rfl, (e _ (by omega) (by omega)).trans rfl⟩
  unfold g95
  rw [if_neg (by omega), if_neg (by omega), if_neg (by omega), if_neg (by omega), if_neg (by omega), if_neg (by omega), if_neg (by omega), if_neg (by omega)]
/-- What init has left, as the window's facts. -/
theorem initP_win {E : Env} {w : World} {g g' hs : Nat → Value} {xs : List Nat} (hx : ∀ x ∈ xs, x < 256) (h37 : g' 1037 = .slice (some ⟨E.H, 0, none⟩) 32768 32768)
  (h38 : g' 1038 = .int .i64 ((min xs.length 32768 % 32768 : Nat) : Int)) (h39 : g' 1039 = .int .i64 ((min xs.length 32768 % 32768 : Nat) : Int)) (h40 : g' 1040 = .bool (decide (32768 ≤ xs.length)))
  (hb : ∀ k, k < 32768 → ∃ c : Nat, c < 256 ∧ hs k = .int .u8 c) (hl : ∀ j, j < min xs.length 32768 → hs j = .int .u8 (xs.getD (xs.length - min xs.length 32768 + j) 0)) :
  Win (lastW xs) hs ∧ Dw E g' (lastW xs).length (lastW xs).length ((lastW xs).length % 32768) := by
 have hlen := lastW_length xs
 refine ⟨⟨hb, fun i hi _ => ?_, fun i hi => ?_⟩, ?_⟩
 ·rw [hlen] at hi
  rw [Nat.mod_eq_of_lt (by omega), lastW_getD]
  exact hl i hi
 ·rw [hlen] at hi
  rw [lastW_getD, List.getD_eq_getElem?_getD, List.getElem?_eq_getElem (show xs.length - min xs.length 32768 + i < xs.length by omega)]
  exact hx _ (List.getElem_mem _)
 ·rw [hlen]
  by_cases h : 32768 ≤ xs.length
  ·have e : min xs.length 32768 = 32768 := by omega
   rw [e] at h38 h39 ⊢
   rw [Nat.mod_self] at h38 h39 ⊢
   exact ⟨1, 0, by omega, by omega, by omega, by omega, h37, h38, h39, h40.trans (congrArg Value.bool ((decide_eq_true h).trans (decide_eq_true (Nat.lt_succ_self 0)).symm))⟩
  ·have e : min xs.length 32768 % 32768 = min xs.length 32768 := Nat.mod_eq_of_lt (by omega)
   rw [e] at h38 h39 ⊢
   exact ⟨0, min xs.length 32768, by omega, by omega, by omega, by omega, h37, h38, h39, h40.trans (congrArg Value.bool ((decide_eq_false h).trans (decide_eq_false (Nat.lt_irrefl 0)).symm))⟩
theorem rep_new (E : Env) (w : World) (xs : List Nat) (bs cs : Nat → Value) (hx : ∀ x ∈ xs, x < 256) (hI : InitP E.F E.H w (gI E.R E.bt E.cb) xs) (hbt : Bk w E.bt 316 97 bs) (hcb : Bk w E.cb 19 98 cs) (hrd : Rd E w 0) (hgl : Gl E w) (hbu : E.buf < w.heap.size ∧ E.own < w.heap.size) : Rep E w (A0 xs) := by
 obtain ⟨g', hs, hF, hH, ho, h37, h38, h39, h40, hb, hl⟩ := hI
 obtain ⟨hV, hD⟩ := initP_win (E := E) (w := w) (g := g') hx h37 h38 h39 h40 hb hl
 have hS : Stc E g' := ⟨(ho 0 (by decide)).trans rfl, (ho 1035 (by decide)).trans rfl, (ho 1036 (by decide)).trans rfl, h37, (ho 1 (by decide)).trans rfl⟩
 have hZ := hz_g95 _ _ _ _ ho
 have hO : (A0 xs).out = lastW xs := rfl
 refine ⟨g', hs, bs, cs, ⟨⟨hF, hH, hbt, hcb, hrd, hgl, hbu⟩, hS, hV, hD, ?_, hZ⟩, .inl ⟨rfl, (ho _ (by decide)).trans rfl⟩, fun _ => ⟨⟨?_, (ho _ (by decide)).trans rfl, (ho _ (by decide)).trans rfl, ?_⟩, (ho _ (by decide)).trans rfl, trivial⟩⟩
 ·have e0 : (A0 xs).fl - (A0 xs).e = 0 := Nat.sub_self _
  refine ⟨Nat.le_refl _, none, 0, ((ho _ (by decide)).trans rfl).trans (congrArg (fun n => Value.slice none n 0) e0.symm), by rw [e0]; exact Nat.le_refl _, fun h => absurd h (Nat.lt_irrefl _)⟩
 ·exact Bt.zero (pos := 0) ⟨0, (ho _ (by decide)).trans rfl⟩ ((ho _ (by decide)).trans rfl) ((ho _ (by decide)).trans rfl)
 ·exact ⟨.inl ((ho _ (by decide)).trans rfl), (ho _ (by decide)).trans rfl⟩
/-- Only the buffer and the grown slice are others. -/
structure SameE (E E' : Env) : Prop where
 B : E'.B = E.B
 aE : E'.aE = E.aE
 aU : E'.aU = E.aU
 F : E'.F = E.F
 R : E'.R = E.R
 S : E'.S = E.S
 H : E'.H = E.H
 bt : E'.bt = E.bt
 cb : E'.cb = E.cb
 N : E'.N = E.N
 d : E'.d = E.d
def Env.re (E : Env) (b o : Nat) : Env := { E with buf := b, own := o }
theorem SameE.re (E : Env) (b o : Nat) : SameE E (E.re b o) := ⟨rfl, rfl, rfl, rfl, rfl, rfl, rfl, rfl, rfl, rfl, rfl⟩
theorem Env.Ok.re {E : Env} (h : E.Ok) (b o : Nat) : (E.re b o).Ok :=
 ⟨h.bF, h.bR, h.bH, h.bbt, h.bcb, h.FR, h.FS, h.FH, h.Fb, h.Fc, h.RS, h.RH, h.Rb, h.Rc, h.SH, h.Sb, h.Sc, h.Hb, h.Hc, h.bc, h.d8, h.N47⟩
theorem Gl.re {E : Env} {w : World} (h : Gl E w) (b o : Nat) : Gl (E.re b o) w :=
 ⟨h.B6, h.le, h.eof, h.ueof, h.ne, h.bE, h.bU, h.hE, h.hU, h.ord⟩
/-- A block that is new, or one of the two. -/
def Fit (E : Env) (w : World) (b : Nat) : Prop := w.heap.size ≤ b ∨ b = E.buf ∨ b = E.own
theorem nX {E : Env} {w : World} {b o x : Nat} (hx : x ∉ E.X) (hlt : x < w.heap.size) (hb : Fit E w b) (ho : Fit E w o) : x ∉ (E.re b o).X := by
 simp only [Env.X, Env.re, List.mem_cons, List.not_mem_nil, or_false, not_or] at hx ⊢
 unfold Fit at hb ho
 obtain ⟨h1, h2, h3, h4, h5, h6, h7⟩ := hx
 refine ⟨h1, h2, h3, h4, h5, ?_, ?_⟩
 ·rintro rfl; rcases hb with h | h | h
  ·omega
  ·exact h6 h
  ·exact h7 h
 ·rintro rfl; rcases ho with h | h | h
  ·omega
  ·exact h6 h
  ·exact h7 h
theorem HTab.re {E : Env} {w w' : World} {gx : Nat → Value} {o : Nat} {c : Cd} {b1 o1 : Nat} (h : HTab E w gx o c) (k : Kp [] w w') (hb : Fit E w b1) (ho : Fit E w o1) : HTab (E.re b1 o1) w' gx o c := by
 obtain ⟨h0, la, ll, lc, mask, h1, h2, h3, h4⟩ := h
 refine ⟨h0, la, ll, lc, mask, h1, h2, h3, fun x => ?_⟩
 obtain ⟨h5, ch, h6, h7, h8⟩ := h4 x
 refine ⟨h5, ch, h6, h7, ?_⟩
 rcases h8 with h8 | ⟨h8, h9, lb, lo, ib, io, il, ic, h10, h11, h12, h13, h14, h15⟩
 ·exact .inl h8
 ·exact .inr ⟨h8, h9, lb, lo, ib, io, il, ic, h10, nX h11 (World.block_lt_of_cell? w _ h13) hb ho, nX h12 (World.block_lt_of_cell? w _ h15) hb ho, k.cell h13 (by simp), h14, k.cell h15 (by simp)⟩
theorem HMode.re {E : Env} {w w' : World} {g : Nat → Value} {hl : Cd} {hd : Option Cd} {b1 o1 : Nat} (h : HMode E w g hl hd) (k : Kp [] w w') (hb : Fit E w b1) (ho : Fit E w o1) : HMode (E.re b1 o1) w' g hl hd := by
 cases hd with
 | none =>
  obtain ⟨h1, h2, X, gx, h3, h4, h5, h6⟩ := h
  exact ⟨h1, h2, X, gx, h3, nX h4 h5.lt hb ho, h5.kp k (by simp), h6.re k hb ho⟩
 | some hd =>
  obtain ⟨h1, h2, h3, h4, h5, h6⟩ := h
  exact ⟨h1, h2, h3, h4, h5.re k hb ho, h6.re k hb ho⟩
theorem Rep.re {E : Env} {w w' : World} {a : A} {b1 o1 : Nat} (h : Rep E w a) (k : Kp [] w w') (hb : Fit E w b1) (ho : Fit E w o1) (hb' : b1 < w'.heap.size) (ho' : o1 < w'.heap.size) : Rep (E.re b1 o1) w' a := by
 obtain ⟨g, hs, bs, cs, hC, he, hl⟩ := h
 have hW := hC.W.new k
 refine ⟨g, hs, bs, cs, ⟨⟨hW.F, hW.H, hW.bt, hW.cb, hW.rd, hW.gl.re b1 o1, ⟨hb', ho'⟩⟩, ⟨hC.S.r, hC.S.bt, hC.S.cb, hC.S.hi, hC.S.rb⟩, hC.V, by obtain ⟨q, rd, q1, q2, q3, q4, q5⟩ := hC.D; exact ⟨q, rd, q1, q2, q3, q4, q5.hist, q5.wr, q5.rd, q5.full⟩, hC.T, hC.Z⟩, he, fun h0 => ?_⟩
 obtain ⟨h1, h2, h3⟩ := hl h0
 refine ⟨⟨⟨h1.B.ro, h1.B.b, h1.B.nb, h1.B.le, h1.B.l32⟩, h1.fin, h1.err, ?_⟩, h2, h3⟩
 have hm := h1.md
 cases hmd : a.md with
 | next => rw [hmd] at hm; exact hm
 | data n => rw [hmd] at hm; exact hm
 | huff hl hd c =>
  rw [hmd] at hm
  cases c with
  | none => exact ⟨hm.1.re k hb ho, hm.2⟩
  | some x => exact ⟨hm.1.re k hb ho, hm.2⟩
theorem Rep.setown {E : Env} {w w' : World} {a : A} (h : Rep E w a) (hO : E.OkO) (k : Kp [E.own] w w') : Rep E w' a := by
 obtain ⟨g, hs, bs, cs, hC, he, hl⟩ := h
 refine ⟨g, hs, bs, cs, ⟨hC.W.setown hO k, hC.S, hC.V, hC.D, hC.T, hC.Z⟩, he, fun h0 => ?_⟩
 obtain ⟨h1, h2, h3⟩ := hl h0
 exact ⟨h1.keep (k.mono (by simp [Env.X])) (Off.refl [] g) (by simp) (by simp) ⟨rfl, rfl, rfl, rfl, rfl⟩, h2, h3⟩
theorem Rep.gl {E : Env} {w : World} {a : A} (h : Rep E w a) : Gl E w := by
 obtain ⟨g, hs, bs, cs, hC, _⟩ := h; exact hC.W.gl
theorem Rep.rd {E : Env} {w : World} {a : A} (h : Rep E w a) : Rd E w a.pos := by
 obtain ⟨g, hs, bs, cs, hC, _⟩ := h; exact hC.W.rd
/-- The code of an error. -/
def code (er : Nat) : Nat := if er = 1 then 0 else if er = 2 then 2 else 1
theorem codeOf_c (E : Env) (w : World) (hG : Gl E w) (er : Nat) (v : Value) (h : ErrV E er v) (h0 : er ≠ 0) : Ret 25 [v] w fun v' w' => v' = .int .i64 ((code er : Nat) : Int) ∧ w' = w := by
 rcases h with ⟨h, _⟩ | ⟨rfl, rfl⟩ | ⟨rfl, rfl⟩ | ⟨rfl, n, rfl⟩
 ·exact absurd h h0
 ·exact codeOf_eof E w hG
 ·exact codeOf_ueof E w hG
 ·exact codeOf_cor E w hG n
/-- How great the buffer of round i is. -/
def szAt (szs : List Int) (i : Nat) : Nat := if szs.length = 0 then 512 else if 1 ≤ szs.getD (i % szs.length) 0 then (szs.getD (i % szs.length) 0).toNat else 512
/-- What is read till the end, the error, or too much: from round i on, behind acc. -/
inductive Dr (S : Src) (szs : List Int) : Nat → A → List Nat → List Nat → Nat → A → Prop where
 | stop {i : Nat} {a : A} {acc : List Nat} : 10000 ≤ i → Dr S szs i a acc acc 3 a
 | over {i k er : Nat} {a a' : A} {acc : List Nat} : i < 10000 → Reads S (szAt szs i) a k er a' → 100000 < acc.length + k → Dr S szs i a acc (acc ++ (a'.out.drop (a'.e - k)).take k) 3 a'
 | fin {i k er : Nat} {a a' : A} {acc : List Nat} : i < 10000 → Reads S (szAt szs i) a k er a' → acc.length + k ≤ 100000 → er ≠ 0 → Dr S szs i a acc (acc ++ (a'.out.drop (a'.e - k)).take k) (code er) a'
 | next {i k : Nat} {a a' b : A} {acc r : List Nat} {c : Nat} : i < 10000 → Reads S (szAt szs i) a k 0 a' → acc.length + k ≤ 100000 → Dr S szs (i + 1) a' (acc ++ (a'.out.drop (a'.e - k)).take k) r c b → Dr S szs i a acc r c b
end Go.Proofs.YtejeloeaklpinaaDoor
namespace Go.Proofs.YtejeloeaklpinaaDoor
attribute [local irreducible] wpList wpStill wpMix Code.wp Calls fr
/-- The list of sizes that came in. -/
def AgI (w : World) (v : Value) (szs : List Int) : Prop := ∃ a c, v = .slice a szs.length c ∧ ∀ j, j < szs.length → ∃ ad, a = some ad ∧ ad.spot = none ∧ w.cell? ⟨ad.block, ad.off + j, none⟩ = some (.int .i64 (szs.getD j 0))
theorem AgI.kp {w w' : World} {v : Value} {szs : List Int} (h : AgI w v szs) (k : Kp [] w w') : AgI w' v szs := by
 obtain ⟨a, c, h1, h2⟩ := h
 refine ⟨a, c, h1, fun j hj => ?_⟩
 obtain ⟨ad, h3, h4, h5⟩ := h2 j hj
 exact ⟨ad, h3, h4, k.cell h5 (by simp)⟩
theorem szAt_le (szs : List Int) (hs : ∀ z ∈ szs, z ≤ 100000) (i : Nat) : szAt szs i ≤ 100000 := by
 unfold szAt
 split
 ·omega
 ·rename_i h0
  split
  ·have hlt : i % szs.length < szs.length := Nat.mod_lt _ (by omega)
   have : szs.getD (i % szs.length) 0 ≤ 100000 := by
    rw [List.getD_eq_getElem?_getD, List.getElem?_eq_getElem hlt]
    exact hs _ (List.getElem_mem hlt)
   omega
  ·omega
theorem gotB_ys {out : List Nat} {e k : Nat} {gb : Nat → Value} (he : e + k ≤ out.length) : ((out.drop e).take k).length = k ∧ ∀ j, j < k → gotB out e 0 k gb (0 + j) = .int .u8 (((out.drop e).take k).getD j 0) := by
 refine ⟨by rw [List.length_take, List.length_drop]; omega, fun j hj => ?_⟩
 unfold gotB
 rw [if_pos (by omega), List.getD_eq_getElem?_getD, List.getD_eq_getElem?_getD, List.getElem?_take, if_pos hj, List.getElem?_drop, Nat.zero_add, Nat.sub_zero]
theorem Reads.le {S : Src} {n : Nat} {a b : A} {k er : Nat} (h : Reads S n a k er b) : k ≤ n ∧ k ≤ b.e := by
 induction h with
 | give h => refine ⟨Nat.min_le_left _ _, ?_⟩; simp only; omega
 | done h1 h2 => omega
 | step _ _ _ _ ih => exact ih
theorem Steps.all {S : Src} {a b : A} {n k er : Nat} {P : A → Prop} (hs : ∀ c, Steps S a c → P c) (h : Reads S n a k er b) (hP : ∀ c d, P c → P d → True) : True := trivial
/-- The states that a reader may come to, by steps and by taking what is handed on. -/
inductive Far (S : Src) : A → A → Prop where
 | refl (a : A) : Far S a a
 | step {a b c : A} : a.e = a.fl → a.err = 0 → Runs S a b → Far S b.late c → Far S a c
 | take {a c : A} (k : Nat) : a.e + k ≤ a.fl → Far S { a with e := a.e + k } c → Far S a c
theorem Far.trans {S : Src} {a b c : A} (h : Far S a b) (k : Far S b c) : Far S a c := by
 induction h with
 | refl => exact k
 | step h1 h2 h3 _ ih => exact .step h1 h2 h3 (ih k)
 | take n h1 _ ih => exact .take n h1 (ih k)
theorem Steps.far {S : Src} {a b : A} (h : Steps S a b) : Far S a b := by
 induction h with
 | refl => exact .refl _
 | step h1 h2 h3 _ ih => exact .step h1 h2 h3 ih
theorem Reads.far {S : Src} {n : Nat} {a b : A} {k er : Nat} (h : Reads S n a k er b) : Far S a b := by
 induction h with
 | give h => exact .take _ (by omega) (.refl _)
 | done h1 h2 => exact .refl _
 | step h1 h2 h3 _ ih => exact .step h1 h2 h3 ih
theorem Rep.ltL {E : Env} {w : World} {a : A} (h : Rep E w a) : ∀ b, b ∈ E.L → b < w.heap.size := by
 obtain ⟨g, hs, bs, cs, hC, _⟩ := h
 intro b hb
 exact hC.W.lts b (by simp only [Env.L, Env.X, List.mem_cons, List.not_mem_nil, or_false] at hb ⊢; omega)
theorem okB_new {E : Env} {w : World} {a : A} {b0 o0 bf o : Nat} (h : Rep (E.re b0 o0) w a) (hS : E.S < w.heap.size) (hb : w.heap.size ≤ bf) : (E.re bf o).OkB := by
 have hl := h.ltL
 have hB := h.gl.le
 have h1 : E.F < w.heap.size := hl E.F (by simp [Env.L, Env.re])
 have h2 : E.H < w.heap.size := hl E.H (by simp [Env.L, Env.re])
 have h3 : E.R < w.heap.size := hl E.R (by simp [Env.L, Env.re])
 have h4 : E.bt < w.heap.size := hl E.bt (by simp [Env.L, Env.re])
 have h5 : E.cb < w.heap.size := hl E.cb (by simp [Env.L, Env.re])
 have h6 : E.B ≤ w.heap.size := hB
 refine ⟨?_, ?_, ?_, ?_, ?_, ?_, ?_⟩ <;> simp only [Env.re] <;> omega
theorem okO_new {E : Env} {w : World} {a : A} {b0 o0 b x : Nat} (h : Rep (E.re b0 o0) w a) (hS : E.S < w.heap.size) (hx : w.heap.size ≤ x) : (E.re b x).OkO := by
 have hl := h.ltL
 have hB := h.gl.le
 have h1 : E.F < w.heap.size := hl E.F (by simp [Env.L, Env.re])
 have h2 : E.H < w.heap.size := hl E.H (by simp [Env.L, Env.re])
 have h3 : E.R < w.heap.size := hl E.R (by simp [Env.L, Env.re])
 have h4 : E.bt < w.heap.size := hl E.bt (by simp [Env.L, Env.re])
 have h5 : E.cb < w.heap.size := hl E.cb (by simp [Env.L, Env.re])
 have h6 : E.B ≤ w.heap.size := hB
 refine ⟨?_, ?_, ?_, ?_, ?_, ?_, ?_⟩ <;> simp only [Env.re] <;> omega
theorem nown {E : Env} {b o : Nat} (h : (E.re b o).OkO) (hb : o ≠ b) (hm : o ∈ (E.re b o).buf :: (E.re b o).L) : False := by
 have h1 : o ≠ E.F := h.oF
 have h2 : o ≠ E.R := h.oR
 have h3 : o ≠ E.H := h.oH
 have h4 : o ≠ E.bt := h.ob
 have h5 : o ≠ E.cb := h.oc
 simp only [Env.re, Env.L, List.mem_cons, List.not_mem_nil, or_false] at hm
 omega
theorem HTab.reO {E : Env} {w w' : World} {gx : Nat → Value} {o : Nat} {c : Cd} {b1 o1 : Nat} (h : HTab E w gx o c) (k : Kp [E.own] w w') (hb : Fit E w b1) (ho : Fit E w o1) : HTab (E.re b1 o1) w' gx o c := by
 obtain ⟨h0, la, ll, lc, mask, h1, h2, h3, h4⟩ := h
 refine ⟨h0, la, ll, lc, mask, h1, h2, h3, fun x => ?_⟩
 obtain ⟨h5, ch, h6, h7, h8⟩ := h4 x
 refine ⟨h5, ch, h6, h7, ?_⟩
 rcases h8 with h8 | ⟨h8, h9, lb, lo, ib, io, il, ic, h10, h11, h12, h13, h14, h15⟩
 ·exact .inl h8
 ·refine .inr ⟨h8, h9, lb, lo, ib, io, il, ic, h10, nX h11 (World.block_lt_of_cell? w _ h13) hb ho, nX h12 (World.block_lt_of_cell? w _ h15) hb ho, k.cell h13 ?_, h14, k.cell h15 ?_⟩
  ·intro hm; simp at hm; exact h11 (by simp [Env.X, hm])
  ·intro hm; simp at hm; exact h12 (by simp [Env.X, hm])
theorem HMode.reO {E : Env} {w w' : World} {g : Nat → Value} {hl : Cd} {hd : Option Cd} {b1 o1 : Nat} (h : HMode E w g hl hd) (k : Kp [E.own] w w') (hb : Fit E w b1) (ho : Fit E w o1) : HMode (E.re b1 o1) w' g hl hd := by
 cases hd with
 | none =>
  obtain ⟨h1, h2, X, gx, h3, h4, h5, h6⟩ := h
  exact ⟨h1, h2, X, gx, h3, nX h4 h5.lt hb ho, h5.kp k (by intro hm; simp at hm; exact h4 (by simp [Env.X, hm])), h6.reO k hb ho⟩
 | some hd =>
  obtain ⟨h1, h2, h3, h4, h5, h6⟩ := h
  exact ⟨h1, h2, h3, h4, h5.reO k hb ho, h6.reO k hb ho⟩
theorem Rep.reO {E : Env} {w w' : World} {a : A} {b1 o1 : Nat} (h : Rep E w a) (hO : E.OkO) (k : Kp [E.own] w w') (hb : Fit E w b1) (ho : Fit E w o1) (hb' : b1 < w'.heap.size) (ho' : o1 < w'.heap.size) : Rep (E.re b1 o1) w' a := by
 obtain ⟨g, hs, bs, cs, hC, he, hl⟩ := h
 have hW := hC.W.setown hO k
 refine ⟨g, hs, bs, cs, ⟨⟨hW.F, hW.H, hW.bt, hW.cb, hW.rd, hW.gl.re b1 o1, ⟨hb', ho'⟩⟩, ⟨hC.S.r, hC.S.bt, hC.S.cb, hC.S.hi, hC.S.rb⟩, hC.V, by obtain ⟨q, rd, q1, q2, q3, q4, q5⟩ := hC.D; exact ⟨q, rd, q1, q2, q3, q4, q5.hist, q5.wr, q5.rd, q5.full⟩, hC.T, hC.Z⟩, he, fun h0 => ?_⟩
 obtain ⟨h1, h2, h3⟩ := hl h0
 refine ⟨⟨⟨h1.B.ro, h1.B.b, h1.B.nb, h1.B.le, h1.B.l32⟩, h1.fin, h1.err, ?_⟩, h2, h3⟩
 have hm := h1.md
 cases hmd : a.md with
 | next => rw [hmd] at hm; exact hm
 | data n => rw [hmd] at hm; exact hm
 | huff hl hd c =>
  rw [hmd] at hm
  cases c with
  | none => exact ⟨hm.1.reO k hb ho, hm.2⟩
  | some x => exact ⟨hm.1.reO k hb ho, hm.2⟩
theorem Rep.bus {E : Env} {w : World} {a : A} (h : Rep E w a) : E.buf < w.heap.size ∧ E.own < w.heap.size := by
 obtain ⟨g, hs, bs, cs, hC, _⟩ := h; exact hC.W.bu
theorem own_next {E : Env} {w0 w3 w4 : World} {a : A} {bf o2 : Nat} {ov ov2 : Value} {xs : List Nat} (hS : E.S < w3.heap.size) (hR3 : Rep (E.re bf o2) w3 a) (hR4 : Rep (E.re bf o2) w4 a) (kp3 : Kp (obk ov) w3 w4) (hSl : Sl w4 ov2 xs)
  (hown2 : ∀ x, ov.ownBlock = some x → x = o2 ∧ (E.re bf o2).OkO ∧ w0.heap.size ≤ x) (hown4 : ∀ k, ov2.ownBlock = some k → ov.ownBlock = some k ∨ w3.heap.size ≤ k) (h03 : w0.heap.size ≤ w3.heap.size) :
  ∃ o3, Rep (E.re bf o3) w4 a ∧ ∀ x, ov2.ownBlock = some x → x = o3 ∧ (E.re bf o3).OkO ∧ w0.heap.size ≤ x := by
 cases hno : ov2.ownBlock with
 | none => exact ⟨o2, hR4, fun x hx => by cases hx⟩
 | some x =>
  rcases hown4 x hno with h | h
  ·obtain ⟨rfl, h2, h3⟩ := hown2 x h
   exact ⟨x, hR4, fun y hy => by cases hy; exact ⟨rfl, h2, h3⟩⟩
  ·have hx := hSl.lt hno
   have hbu := hR3.bus
   have hbu4 := hR4.bus
   refine ⟨x, ?_, fun y hy => by cases hy; exact ⟨rfl, okO_new hR3 hS h, by omega⟩⟩
   cases hno2 : ov.ownBlock with
   | none => exact hR3.re (kp3.mono (by simp [obk, hno2])) (b1 := bf) (o1 := x) (.inr (.inl rfl)) (.inl h) hbu4.1 hx
   | some y =>
    obtain ⟨rfl, hO, _⟩ := hown2 y hno2
    exact hR3.reO hO (kp3.mono (by simp [obk, hno2]; rfl)) (b1 := bf) (o1 := x) (.inr (.inl rfl)) (.inl h) hbu4.1 hx
theorem obk_new {v : Value} {n : Nat} {L : List Nat} (h : ∀ x, v.ownBlock = some x → n ≤ x) : ∀ i, i ∈ obk v → i < n → i ∈ L := by
 intro i hi hlt
 unfold obk at hi
 split at hi
 ·rename_i x hx
  have := h x hx
  simp at hi
  omega
 ·simp at hi
theorem errNil {E : Env} {c : Nat} {v : Value} (h : ErrV E c v) (hc : c = 0) : v = .nilIface := by
 rcases h with ⟨_, h⟩ | ⟨h, _⟩ | ⟨h, _⟩ | ⟨h, _⟩
 ·exact h
 ·omega
 ·omega
 ·omega
theorem drained_c (E : Env) (w : World) (a : A) (hE : E.Ok) (hSb : E.S < w.heap.size) (hR : Rep E w a) (hP : Pend a) (sa : Option Addr) (sc : Nat) (szs : List Int) (hszs : ∀ z ∈ szs, z ≤ 100000)
  (hsz : ∀ j, j < szs.length → ∃ ad, sa = some ad ∧ ad.spot = none ∧ ad.block ∉ E.L ∧ w.cell? ⟨ad.block, ad.off + j, none⟩ = some (.int .i64 (szs.getD j 0))) (hH : ∀ a', Far E.S' a a' → needs E.S' a' → HC) :
  Ret 16 [.iface 99 (.pointer (some ⟨E.F, 0, none⟩)), .slice sa szs.length sc] w fun v w' => ∃ r c a' b o ov, v = .tuple #[ov, .int .i64 ((c : Nat) : Int)] ∧ Sl w' ov r ∧ Rep (E.re b o) w' a' ∧ Pend a' ∧ Far E.S' a a' ∧ Dr E.S' szs 0 a [] r c a' ∧ (∀ x, ov.ownBlock = some x → x = o ∧ (E.re b o).OkO ∧ w.heap.size ≤ x) ∧ Kp E.L w w' := by
 have kp0 := Kp.refl [] w
 refine calls_fr (N := 59) Tryd.func16 rfl rfl (by simp) rfl ?_
 refine sqr ?_
 refine L1 (asg (v := .slice _ _ _) rfl) ?_
 refine Ai rfl ?_
 refine nt ?_
 refine sqr ?_
 refine L1 (asg (v := .slice _ _ _) rfl) ?_
 refine nt ?_
 refine wp_seq ?_
 refine sqr ?_
 refine Ai rfl ?_
 refine nt ?_
 refine wp_block ?_
 refine loop_fr (fun k f w' => f 0 = .iface 99 (.pointer (some ⟨E.F, 0, none⟩)) ∧ f 1 = .slice sa szs.length sc ∧ ∃ (i : Nat) (acc : List Nat) (ov : Value) (a' : A) (b o : Nat), f 7 = .int .i64 (i : Int) ∧ f 6 = ov ∧ i ≤ 10000 ∧ k = 10000 - i ∧ Sl w' ov acc ∧ acc.length ≤ 100000 ∧ Rep (E.re b o) w' a' ∧ Pend a' ∧ Far E.S' a a' ∧ (∀ x, ov.ownBlock = some x → x = o ∧ (E.re b o).OkO ∧ w.heap.size ≤ x) ∧ Kp E.L w w' ∧ (∀ r c z, Dr E.S' szs i a' acc r c z → Dr E.S' szs 0 a [] r c z)) 10000 ⟨rfl, rfl, 0, [], .slice none 0 0, a, E.buf, E.own, rfl, rfl, by omega, rfl, Sl.nil w, by simp, hR, hP, .refl _, (fun x hx => by cases hx), kp0.mono (by simp), fun _ _ _ h => h⟩ ?_
 clear kp0
 intro k f w1 HJ
 obtain ⟨s0, s1, i, acc, ov, a1, b0, o0, s7, s6, hi, rfl, hSl, hacc, hR1, hP1, hfar, hown, kp, hdr⟩ := HJ
 refine slots (fc s0 (fc s1 (fc s6 (fc s7 fnil)))) ?_
 refine wp_seq ?_
 refine sqr ?_
 refine Mi rfl ?_
 refine L1 (bi rfl rfl (bn_lss (v := decide (i < 10000)) (decide_eq_decide.2 (by omega)))) ?_
 refine nt ?_
 refine cond_d (p := i < 10000) rfl (fun hlt => ?_) (fun hlt => ?_)
 ·skip
  refine skn ?_
  refine wp_seq ?_
  refine wp_block ?_
  refine sqr ?_
  refine Ai rfl ?_
  refine nt ?_
  refine seq_cut (N := 59) (fun f w' => w1 = w' ∧ f 0 = .iface 99 (.pointer (some ⟨E.F, 0, none⟩)) ∧ f 1 = .slice sa szs.length sc ∧ f 6 = ov ∧ f 7 = .int .i64 (i : Int) ∧ f 8 = .int .i64 ((szAt szs i : Nat) : Int)) ?_ ?_
  ·skip
   by_cases hz : szs.length = 0
   ·skip
    refine sqr ?_
    refine Ms rfl ?_
    refine L1 (ln und24 rfl) ?_
    refine L1 (bi rfl rfl (bn_gtr (v := false) (decide_eq_false (by omega)))) ?_
    refine Mb rfl ?_
    refine Lskip (t := 19) (b := true) rfl (by decide) rfl ?_
    refine Lskip (t := 19) (b := true) rfl (by decide) rfl ?_
    refine Lskip (t := 19) (b := true) rfl (by decide) rfl ?_
    refine Lskip (t := 19) (b := true) rfl (by decide) rfl ?_
    refine Lskip (t := 19) (b := true) rfl (by decide) rfl ?_
    refine Lskip (t := 19) (b := true) rfl (by decide) rfl ?_
    refine Lskip (t := 19) (b := true) rfl (by decide) rfl ?_
    refine Lskip (t := 19) (b := true) rfl (by decide) rfl ?_
    refine L1 (pk_f rfl rfl) ?_
    refine nt ?_
    refine cond_f rfl ?_
    refine skn ?_
    refine ⟨_, rfl, rfl, rfl, rfl, rfl, rfl, ?_⟩
    show Value.int .i64 512 = _
    unfold szAt
    rw [if_pos hz]
    rfl
   ·skip
    have hmod : i % szs.length < szs.length := Nat.mod_lt _ (by omega)
    obtain ⟨sad, rfl, hsp, hspL, hcell0⟩ := hsz (i % szs.length) hmod
    obtain ⟨sb, so, ssp⟩ := sad
    simp only at hsp hcell0 hspL
    subst hsp
    have hcell := kp.cell hcell0 hspL
    refine sqr ?_
    refine Ms rfl ?_
    refine L1 (ln und24 rfl) ?_
    refine L1 (bi rfl rfl (bn_gtr (v := true) (decide_eq_true (by omega)))) ?_
    refine Mb rfl ?_
    refine L1g (t := 19) (b := true) rfl (by decide) rfl (mv (v := .slice _ _ _) rfl) ?_
    refine L1g (t := 19) (b := true) rfl (by decide) rfl (mv (v := .int _ _) rfl) ?_
    refine L1g (t := 19) (b := true) rfl (by decide) rfl (mv (v := .slice _ _ _) rfl) ?_
    refine L1g (t := 19) (b := true) rfl (by decide) rfl (ln und24 rfl) ?_
    refine L1g (t := 19) (b := true) rfl (by decide) rfl (bi rfl rfl (bn_rem (x := i) (m := szs.length) rfl rfl (by omega))) ?_
    refine L1g (t := 19) (b := true) rfl (by decide) rfl (ix und24 sz3 rfl rfl rfl hmod) ?_
    refine L1g (t := 19) (b := true) rfl (by decide) rfl (ld3 (v := .int _ _) rfl hcell) ?_
    refine L1g (t := 19) (b := true) rfl (by decide) rfl (bi rfl rfl (bn_geq (v := decide (1 ≤ szs.getD (i % szs.length) 0)) rfl)) ?_
    refine L1 (pk_t rfl rfl) ?_
    refine nt ?_
    refine cond_d (p := 1 ≤ szs.getD (i % szs.length) 0) rfl (fun h1 => ?_) (fun h1 => ?_)
    ·skip
     refine reg_lit ?_
     refine Ms rfl ?_
     refine Mi rfl ?_
     refine Ms rfl ?_
     refine L1 (ln und24 rfl) ?_
     refine L1 (bi rfl rfl (bn_rem (x := i) (m := szs.length) rfl rfl (by omega))) ?_
     refine L1 (ix und24 sz3 rfl rfl rfl hmod) ?_
     refine L1 (ld3 (v := .int _ _) rfl hcell) ?_
     refine Ai rfl ?_
     refine nt ?_
     refine ⟨_, rfl, rfl, rfl, rfl, rfl, rfl, ?_⟩
     show Value.int .i64 (szs.getD (i % szs.length) 0) = _
     unfold szAt
     rw [if_neg hz, if_pos h1, Int.toNat_of_nonneg (by omega)]
    ·skip
     refine skn ?_
     refine ⟨_, rfl, rfl, rfl, rfl, rfl, rfl, ?_⟩
     show Value.int .i64 512 = _
     unfold szAt
     rw [if_neg hz, if_neg h1]
     rfl
  ·skip
   rintro f _ ⟨rfl, s0, s1, s6, s7, s8⟩
   have hsl := szAt_le szs hszs i
   refine slots (fc s0 (fc s1 (fc s6 (fc s7 (fc s8 fnil))))) ?_
   have hSlt : ∀ x, ov.ownBlock = some x → x < w1.heap.size := fun x hx => hSl.lt hx
   refine sqr ?_
   refine Mi rfl ?_
   refine Lmk (n := szAt szs i) rfl rfl (by omega) ?_
   intro bf w2 hbf hb kp1 hsz2
   have hSl := hSl.kp kp1 (by simp)
   have hkp := kp
   have kp := kp.trans (kp1.mono (by simp))
   obtain ⟨o2, ho2, hown2, hOk2⟩ : ∃ o2, Fit (E.re b0 o0) w1 o2 ∧ (∀ x, ov.ownBlock = some x → x = o2 ∧ (E.re bf o2).OkO ∧ w.heap.size ≤ x) ∧ o2 < w2.heap.size := by
    by_cases hno : ov.ownBlock = none
    ·exact ⟨bf, .inl (by omega), (fun x hx => by rw [hno] at hx; cases hx), by omega⟩
    ·obtain ⟨x, hx⟩ := Option.ne_none_iff_exists'.1 hno
     obtain ⟨rfl, h2, h3⟩ := hown x hx
     have hxl := hSl.lt hx
     exact ⟨x, .inr (.inr rfl), (fun y hy => by rw [hx] at hy; cases hy; exact ⟨rfl, ⟨h2.bo, h2.oF, h2.oR, h2.oS, h2.oH, h2.ob, h2.oc⟩, h3⟩), hxl⟩
   have hR2 := hR1.re kp1 (b1 := bf) (o1 := o2) (.inl (by omega)) ho2 (by omega) hOk2
   have hw01 := hkp.size
   have hU : (E.re bf o2).OkB := okB_new (E := E) (o := o2) hR1 (by omega) (by omega)
   have hR2 : Rep (E.re bf o2) w2 a1 := hR2
   refine L1 (asg (v := .slice _ _ _) rfl) ?_
   refine nt ?_
   refine sqr ?_
   refine L1 (mv (v := .iface _ _) rfl) ?_
   refine Ms rfl ?_
   refine LC (inv1 has90 rfl (meth_rd99 _) rfl) (read_c (E.re bf o2) w2 a1 (hE.re bf o2) hU hR2 0 (szAt szs i) (szAt szs i) (szAt szs i) 5 _ hb (by omega) hP1 (fun c hc hn => hH c (hfar.trans (Steps.far hc)) hn)) ?_
   rintro v w3 ⟨k, er, a2, ev2, rfl, hev, hreads, hR3, hP3, hb, kp2⟩
   have hk := hreads.le
   have hfl3 := hR3.late_fl
   have hefl3 := hR3.e_fl
   obtain ⟨hyl, hys⟩ := gotB_ys (out := a2.out) (e := a2.e - k) (k := k) (gb := fun _ => .int .u8 0) (by omega)
   have hSl := hSl.kp kp2 (by intro x hx hm; obtain ⟨rfl, hO, _⟩ := hown2 x hx; have hxl := hSlt x hx; exact nown hO (by omega) hm)
   have kp := kp.transNew kp2 (fun j hj hlt2 => (List.mem_cons.1 hj).elim (fun e => absurd hlt2 (by rw [e]; show ¬ bf < w.heap.size; omega)) id)
   have hsz3 := kp2.size
   refine L1 (mv (v := .tuple _) rfl) ?_
   refine L1 (ext2_0 rfl) ?_
   refine L1 (ext2_1 rfl) ?_
   refine Ai rfl ?_
   refine L1 (asg (v := ev2) rfl) ?_
   refine nt ?_
   refine sqr ?_
   refine L1 (mv (v := ov) rfl) ?_
   refine Ms rfl ?_
   refine Mi rfl ?_
   refine L1 (sl_h und22 sz5 rfl rfl rfl (by omega)) ?_
   refine Lap (v := ov) rfl rfl hSl hb hyl (by omega) hys (by omega) ?_
   intro ov2 w4 hSl4 kp3 hown4
   have hR4 : Rep (E.re bf o2) w4 a2 := by
    cases hno : ov.ownBlock with
    | none => exact hR3.keep (kp3.mono (by simp [obk, hno]))
    | some x => obtain ⟨rfl, hO, _⟩ := hown2 x hno; exact hR3.setown hO (kp3.mono (by simp [obk, hno]; rfl))
   have kp := kp.transNew kp3 (obk_new (fun x hx => (hown2 x hx).2.2))
   have hlen4 : (acc ++ (a2.out.drop (a2.e - k)).take k).length = acc.length + k := by rw [List.length_append, hyl]
   obtain ⟨ova, ovc, hov2⟩ := hSl4.val
   rw [hlen4] at hov2
   refine L1 (asg (v := ov2) rfl) ?_
   refine nt ?_
   refine wp_seq ?_
   refine sqr ?_
   refine L1 (mv (v := .slice ova (acc.length + k) ovc) hov2) ?_
   refine L1 (ln und22 rfl) ?_
   refine L1 (bi rfl rfl (bn_gtr (v := decide (100000 < acc.length + k)) (decide_eq_decide.2 (by omega)))) ?_
   refine nt ?_
   obtain ⟨o3, hR5, hown5⟩ := own_next (E := E) (w0 := w) (by omega) hR3 hR4 kp3 hSl4 hown2 hown4 (by omega)
   refine cond_d (p := 100000 < acc.length + k) rfl (fun hov => ?_) (fun hov => ?_)
   ·skip
    refine sqr ?_
    refine L1 (mv (v := ov2) rfl) ?_
    refine L1 (asg (v := ov2) rfl) ?_
    refine Ai rfl ?_
    refine nt ?_
    refine wp_ret ?_
    refine then_r ?_
    refine inb_r ?_
    refine then_r ?_
    refine then_r ?_
    refine inb_r ?_
    refine then_r ?_
    refine ret2 rfl rfl rfl ?_
    exact ⟨_, rfl, _, 3, a2, bf, o3, ov2, rfl, hSl4, hR5, hP3, hfar.trans hreads.far, hdr _ _ _ (.over hlt hreads hov), hown5, kp⟩
   ·skip
    refine skn ?_
    by_cases her : er = 0
    ·skip
     obtain rfl : ev2 = .nilIface := errNil hev her
     subst her
     refine sqr ?_
     refine L1 (mv (v := .nilIface) rfl) ?_
     refine L1 (en_nil rfl rfl) ?_
     refine nt ?_
     refine cond_f rfl ?_
     refine wp_skip ?_
     refine inb_n ?_
     refine then_n ?_
     refine reg_lit ?_
     refine Mi rfl ?_
     refine L1 (bi rfl rfl (bn_add (c := ((i + 1 : Nat) : Int)) (by omega) (by omega) (by omega))) ?_
     refine Ai rfl ?_
     refine nt ?_
     refine ⟨10000 - (i + 1), _, by omega, rfl, rfl, rfl, i + 1, _, ov2, a2, bf, o3, rfl, rfl, by omega, rfl, hSl4, by omega, hR5, hP3, hfar.trans hreads.far, hown5, kp, fun r c z h => hdr r c z (.next hlt hreads (by omega) h)⟩
    ·skip
     obtain ⟨et, ex, hexq⟩ := errIface hev her
     refine sqr ?_
     refine L1 (mv (v := .iface et ex) hexq) ?_
     refine L1 (en_held rfl rfl) ?_
     refine nt ?_
     refine cond_t rfl ?_
     refine sqr ?_
     refine L1 (mv (v := ov2) rfl) ?_
     refine L1 (mv (v := ev2) rfl) ?_
     refine LC (cl1 has25 rfl rfl) (codeOf_c (E.re bf o3) _ hR5.gl er ev2 hev her) ?_
     rintro v w1 ⟨rfl, rfl⟩
     refine L1 (asg (v := ov2) rfl) ?_
     refine Ai rfl ?_
     refine nt ?_
     refine wp_ret ?_
     refine inb_r ?_
     refine then_r ?_
     refine then_r ?_
     refine inb_r ?_
     refine then_r ?_
     refine ret2 rfl rfl rfl ?_
     exact ⟨_, rfl, _, code er, a2, bf, o3, ov2, rfl, hSl4, hR5, hP3, hfar.trans hreads.far, hdr _ _ _ (.fin hlt hreads (by omega) her), hown5, kp⟩
 ·skip
  refine wp_exit ?_
  refine then_e ?_
  refine then_e ?_
  refine inb_same ?_
  refine then_n ?_
  refine sqr ?_
  refine L1 (mv (v := ov) rfl) ?_
  refine L1 (asg (v := ov) rfl) ?_
  refine Ai rfl ?_
  refine nt ?_
  refine wp_ret ?_
  refine ret2 rfl rfl rfl ?_
  exact ⟨_, rfl, acc, 3, a1, b0, o0, ov, rfl, hSl, hR1, hP1, hfar, hdr _ _ _ (.stop (by omega)), hown, kp⟩
end Go.Proofs.YtejeloeaklpinaaDoor
namespace Go.Proofs.YtejeloeaklpinaaDoor
attribute [local irreducible] wpList wpStill wpMix Code.wp Calls fr
/-- The source of a list of bytes. -/
def srcOf (data : List Nat) : Src := ⟨data.length, dnum (fun k => data.getD k 0) data.length⟩
/-- What Inflate comes to: what is read, the code, how many bytes are left. -/
def InfR (data dict : List Nat) (szs : List Int) (r : List Nat) (c left : Nat) : Prop := ∃ a, Dr (srcOf data) szs 0 (A0 dict) [] r c a ∧ left = data.length - a.pos
/-- Bytes, and not too many. -/
def Bytes (xs : List Nat) : Prop := (∀ x ∈ xs, x < 256) ∧ xs.length ≤ 140737488355328
/-- What is asked of the codes by this stream. -/
def HCof (data dict : List Nat) : Prop := ∀ a, Far (srcOf data) (A0 dict) a → needs (srcOf data) a → HC
theorem reader_c (w : World) (R : Nat) (dv : Value) (dict : List Nat) (hA : Ag w dv dict) (hB : Bytes dict) :
  Ret 17 [.pointer (some ⟨R, 0, none⟩), dv] w fun v w' => ∃ F H bt cb, v = .iface 99 (.pointer (some ⟨F, 0, none⟩)) ∧ w.heap.size ≤ F ∧ F < bt ∧ bt < cb ∧ cb < H ∧ InitP F H w' (gI R bt cb) dict ∧ Bk w' bt 316 97 (fun _ => .int .i64 0) ∧ Bk w' cb 19 98 (fun _ => .int .i64 0) ∧ Kp [] w w' := by
 have hA0 := hA
 obtain ⟨da, dc, rfl, hcells⟩ := hA
 refine calls_fr (N := 16) Tryd.func17 rfl rfl (by simp) rfl ?_
 refine sqr ?_
 refine L1 (asg (v := .nilIface) rfl) ?_
 refine nt ?_
 refine wp_seq ?_
 refine sqr ?_
 refine Ms rfl ?_
 refine L1 (ln und22 rfl) ?_
 refine L1 (bi rfl rfl (bn_eql (v := decide (dict.length = 0)) (decide_eq_decide.2 (by omega)))) ?_
 refine nt ?_
 refine cond_d (p := dict.length = 0) rfl (fun h0 => ?_) (fun h0 => ?_)
 ·skip
  refine sqr ?_
  refine Mp rfl ?_
  refine L1 (mkI43 rfl) ?_
  refine LC (cl1 has24 rfl rfl) (nr_raw _ R) ?_
  rintro v w1 ⟨F, H, bt, cb, rfl, hrest⟩
  refine L1 (asg (v := .iface _ _) rfl) ?_
  refine nt ?_
  refine wp_ret ?_
  refine then_r ?_
  refine ret1 rfl rfl ?_
  obtain rfl : dict = [] := List.eq_nil_of_length_eq_zero h0
  exact ⟨_, rfl, F, H, bt, cb, rfl, hrest⟩
 ·skip
  refine skn ?_
  refine sqr ?_
  refine Mp rfl ?_
  refine L1 (mkI43 rfl) ?_
  refine Ms rfl ?_
  refine LC (cl1 has15 rfl rfl) (copied_c _ _ dict hA0 hB.2) ?_
  rintro v w1 ⟨hSl, kp1, _⟩
  refine LC (cl2 has26 rfl rfl rfl) (nrd_raw _ R v dict hSl hB.1 hB.2) ?_
  rintro v2 w2 ⟨F, H, bt, cb, rfl, hF, h1, h2, h3, h4, h5, h6, kp2⟩
  refine L1 (asg (v := .iface _ _) rfl) ?_
  refine nt ?_
  refine wp_ret ?_
  refine ret1 rfl rfl ?_
  have hsz := kp1.size
  exact ⟨_, rfl, F, H, bt, cb, rfl, by omega, h1, h2, h3, h4, h5, h6, kp1.trans kp2⟩
/-- The environment of a reader over a source that was laid ahead of it. -/
def mkE (B : Nat) (aE aU : Addr) (F R S H bt cb : Nat) (data : List Nat) : Env := ⟨B, aE, aU, F, R, S, H, bt, cb, F, F, data.length, fun k => data.getD k 0⟩
def ownOf (v : Value) : Nat := match v.ownBlock with
 | some b => b
 | none => 0
theorem getD_lt {xs : List Nat} (h : ∀ x ∈ xs, x < 256) (k : Nat) : xs.getD k 0 < 256 := by
 by_cases hk : k < xs.length
 ·rw [List.getD_eq_getElem?_getD, List.getElem?_eq_getElem hk]; exact h _ (List.getElem_mem hk)
 ·rw [List.getD_eq_getElem?_getD, List.getElem?_eq_none (by omega)]; decide
theorem mkE_ok {E0 : Env} {w : World} (hG : Gl E0 w) {F R H bt cb : Nat} {data : List Nat} (hD : Bytes data) {v : Value} (hv : Sl w v data) (hvB : ∀ k, v.ownBlock = some k → E0.B ≤ k) (hvR : ∀ k, v.ownBlock = some k → k < R) (hR : R < w.heap.size) (hRB : E0.B ≤ R) (h1 : w.heap.size ≤ F) (h2 : F < bt) (h3 : bt < cb) (h4 : cb < H) :
  (mkE E0.B E0.aE E0.aU F R (ownOf v) H bt cb data).Ok := by
 have hS : ownOf v < R := by
  unfold ownOf; split
  ·rename_i b hb; exact hvR b hb
  ·have := hG.B6; omega
 refine ⟨?_, hRB, ?_, ?_, ?_, ?_, ?_, ?_, ?_, ?_, ?_, ?_, ?_, ?_, ?_, ?_, ?_, ?_, ?_, ?_, fun k => getD_lt hD.1 k, hD.2⟩ <;> simp only [mkE] <;> omega
theorem mkE_rd {E0 : Env} {w : World} {F R H bt cb : Nat} {data : List Nat} {v : Value} {rg : Nat → Value} (hv : Sl w v data) (hR : Bk w R 3 70 rg) (h0 : rg 0 = v) (h1 : rg 1 = .int .i64 0) (h2 : rg 2 = .int .i64 (-1)) :
  Rd (mkE E0.B E0.aE E0.aU F R (ownOf v) H bt cb data) w 0 := by
 refine ⟨v, -1, rg, hR, h0, h1, h2, Nat.zero_le _, ?_⟩
 rcases hv with ⟨rfl, rfl⟩ | ⟨b, cap, g, rfl, hb, hc, hm, hg⟩
 ·exact .inl ⟨rfl, rfl⟩
 ·exact .inr ⟨cap, cap, g, rfl, hb, ⟨hc, hc⟩, hg⟩
theorem mkE_gl {E0 : Env} {w : World} (h : Gl E0 w) {F R S H bt cb : Nat} {data : List Nat} : Gl (mkE E0.B E0.aE E0.aU F R S H bt cb data) w :=
 ⟨h.B6, h.le, h.eof, h.ueof, h.ne, h.bE, h.bU, h.hE, h.hU, h.ord⟩
theorem inflate_c (E0 : Env) (w : World) (hG : Gl E0 w) (dv xv : Value) (data dict : List Nat) (hA : Ag w dv data) (hD : Bytes data) (hX : Ag w xv dict) (hXb : Bytes dict) (sa : Option Addr) (sc : Nat) (szs : List Int) (hszs : ∀ z ∈ szs, z ≤ 100000)
  (hsz : ∀ j, j < szs.length → ∃ ad, sa = some ad ∧ ad.spot = none ∧ w.cell? ⟨ad.block, ad.off + j, none⟩ = some (.int .i64 (szs.getD j 0))) (hH : HCof data dict) :
  Ret 9 [dv, xv, .slice sa szs.length sc] w fun v w' => ∃ r c left ov, v = .tuple #[ov, .int .i64 ((c : Nat) : Int), .int .i64 ((left : Nat) : Int)] ∧ Sl w' ov r ∧ InfR data dict szs r c left ∧ Kp [] w w' ∧ ∀ k, ov.ownBlock = some k → w.heap.size ≤ k := by
 have kp0 := Kp.refl [] w
 refine calls_fr (N := 27) Tryd.func9 rfl rfl (by simp) rfl ?_
 refine sqr ?_
 refine L1 (asg (v := .slice _ _ _) rfl) ?_
 refine Ai rfl ?_
 refine Ai rfl ?_
 refine nt ?_
 refine sqr ?_
 refine L1 (mv (v := dv) rfl) ?_
 refine LC (cl1 has15 rfl rfl) (copied_c _ _ data hA hD.2) ?_
 rintro v1 w1 ⟨hSl, kp1, hown1⟩
 obtain ⟨va, vc, rfl⟩ := hSl.val
 have hB1 := hG.le
 have hG1 := hG.kp kp1 (by simp)
 have hX1 := hX.kp kp1
 refine LC (cl1 has14 rfl rfl) (newReader_c _ va data.length vc) ?_
 rintro v w2 ⟨rfl, hR, kp2, hsz2⟩
 have hSl2 := hSl.kp kp2 (by simp)
 have hG2 := hG1.kp kp2 (by simp)
 have hX2 := hX1.kp kp2
 have hs1 := kp1.size
 obtain ⟨R, hRe⟩ : ∃ R, R = w1.heap.size := ⟨_, rfl⟩
 rw [← hRe] at hR hsz2 ⊢
 refine L1 (asg (v := .pointer _) rfl) ?_
 refine nt ?_
 refine sqr ?_
 refine Mp rfl ?_
 refine L1 (mv (v := xv) rfl) ?_
 refine LC (cl2 has17 rfl rfl rfl) (reader_c _ R _ dict hX2 hXb) ?_
 rintro v w3 ⟨F, H, bt, cb, rfl, hF, hFb, hbc, hcH, hI, hbt, hcb, kp3⟩
 have hSl3 := hSl2.kp kp3 (by simp)
 have hG3 := hG2.kp kp3 (by simp)
 have hR3 := hR.kp kp3 (by simp)
 have hE : (mkE E0.B E0.aE E0.aU F R (ownOf (.slice va data.length vc)) H bt cb data).Ok := mkE_ok hG2 hD hSl2 (fun k hk => by have := hown1 k hk; omega) (fun k hk => by have := hSl.lt hk; omega) (by omega) (by omega) hF hFb hbc hcH
 have hFlt : F < w3.heap.size := by obtain ⟨g, hs, hbF, _⟩ := hI; exact hbF.lt
 have hRep := rep_new (mkE E0.B E0.aE E0.aU F R (ownOf (.slice va data.length vc)) H bt cb data) w3 dict _ _ hXb.1 hI hbt hcb (mkE_rd (E0 := E0) hSl3 hR3 rfl rfl rfl) (mkE_gl hG3) ⟨hFlt, hFlt⟩
 have hs2 := kp2.size
 have hs3 := kp3.size
 have hSlt : ownOf (.slice va data.length vc) < w3.heap.size := by
  unfold ownOf
  split
  ·rename_i b hb; have := hSl.lt hb; omega
  ·omega
 have kpA : Kp [] w w3 := (kp1.trans kp2).trans kp3
 refine Ms rfl ?_
 refine LC (cl2 has16 rfl rfl rfl) (drained_c (mkE E0.B E0.aE E0.aU F R (ownOf (.slice va data.length vc)) H bt cb data) w3 (A0 dict) hE hSlt hRep (fun h => absurd h (Nat.lt_irrefl _)) sa sc szs hszs ?_ hH) ?_
 ·intro j hj
  obtain ⟨ad, h1, h2, h3⟩ := hsz j hj
  refine ⟨ad, h1, h2, ?_, kpA.cell h3 (by simp)⟩
  have hlt := World.block_lt_of_cell? w _ h3
  simp only at hlt
  simp only [mkE, Env.L, List.mem_cons, List.not_mem_nil, or_false]
  omega
 rintro v w4 ⟨r, c, a', b, o, ov, rfl, hSl4, hR4, hP4, hfar, hdr, hown4, kp4⟩
 refine L1 (mv (v := .tuple _) rfl) ?_
 refine L1 (ext2_0 rfl) ?_
 refine L1 (ext2_1 rfl) ?_
 refine L1 (asg (v := ov) rfl) ?_
 refine Ai rfl ?_
 refine nt ?_
 refine sqr ?_
 refine L1 (mv (v := ov) rfl) ?_
 refine Mi rfl ?_
 refine Mp rfl ?_
 refine LC (cl1 has18 rfl rfl) (len_c ((mkE E0.B E0.aE E0.aU F R (ownOf (.slice va data.length vc)) H bt cb data).re b o) _ a'.pos (hE.re b o) hR4.rd) ?_
 rintro v w5 ⟨rfl, kp5⟩
 refine L1 (asg (v := ov) rfl) ?_
 refine Ai rfl ?_
 refine Ai rfl ?_
 refine nt ?_
 refine wp_ret ?_
 refine ret3 rfl rfl rfl rfl ?_
 refine ⟨_, rfl, r, c, data.length - a'.pos, ov, rfl, hSl4.kp kp5 (by simp), ⟨a', hdr, rfl⟩, ?_, fun k hk => by have := (hown4 k hk).2.2; omega⟩
 refine Kp.transNew (kpA.transNew kp4 ?_) kp5 (by simp)
 intro i hi hlt
 simp only [mkE, Env.L, List.mem_cons, List.not_mem_nil, or_false] at hi
 omega
end Go.Proofs.YtejeloeaklpinaaDoor
namespace Go.Proofs.YtejeloeaklpinaaDoor
open Go.ChangeShapes Go.WideShapes Go.ChangeAt Go.RowKit
theorem laidOut : laidOutB Tryd.prog = true := by kernel_rfl
theorem gOrder : Tryd.prog.globalNamed "loop.example/pub-g03122/pub/flate.codeOrder" = some 2 := by kernel_rfl
theorem gEOF : Tryd.prog.globalNamed "io.EOF" = some 0 := by kernel_rfl
theorem gUEOF : Tryd.prog.globalNamed "io.ErrUnexpectedEOF" = some 1 := by kernel_rfl
theorem tEOF : (Tryd.prog.globals[0]?).map (·.type) = some 62 := by kernel_rfl
theorem tUEOF : (Tryd.prog.globals[1]?).map (·.type) = some 62 := by kernel_rfl
theorem cells150 : Tryd.prog.cellsOf 150 = 1 := by kernel_rfl
theorem cells9 : Tryd.prog.cellsOf 9 = 1 := by kernel_rfl
theorem starE : "*" ++ "errors.errorString" = "*errors.errorString" := by decide
theorem row131 (u : TypeId) (h : Tryd.prog.typeName? 3 u = some "*errors.errorString") : u = 131 :=
 typeName_ptr_named (nm := "errors.errorString") (by rw [starE]; kernel_rfl) (by kernel_rfl) (by decide) u (by rw [starE]; exact h)
/-- What a call leaves that lays new blocks only and answers true. -/
theorem trodAll_stays {H : Type} {enc : TypeId × Value → H} {W W' : World} {sp : Nat → Bool} : ∀ {ts : List TypeId} {vs : List Value} {ds : List (DataW H)} {ps : List MemPlace}, (∀ t ∈ ts, Tryd.prog.readableRec t = true ∧ t < Tryd.prog.types.size) →
  DataW.TrodAll enc Tryd.prog W 0 (fun _ => true) true ts vs ds ps → (∀ p ∈ ps, W.sameAt W' p) → (∀ p ∈ ps, sp p.block = true) → DataW.TrodAll enc Tryd.prog W' 0 sp true ts vs ds ps
 | [], [], [], _, _, h, _, _ => h
 | t :: _, _ :: _, _ :: _, _, hT, ⟨p, q, h1, h2, e⟩, hs, hp =>
  ⟨p, q, WideElems.Trod_stays laidOut (hT t (by simp)).1 (hT t (by simp)).2 h1 (fun x hx => hs x (by rw [e]; exact List.mem_append_left _ hx)) (fun x hx => hp x (by rw [e]; exact List.mem_append_left _ hx)),
   trodAll_stays (fun t ht => hT t (List.mem_cons_of_mem _ ht)) h2 (fun x hx => hs x (by rw [e]; exact List.mem_append_right _ hx)) (fun x hx => hp x (by rw [e]; exact List.mem_append_right _ hx)), e⟩
theorem sameAt_of_kp {W W' : World} (k : Kp [] W W') {p : MemPlace} (hp : p.block < W.heap.size) : W.sameAt W' p := by
 cases p with
 | cell b off => exact World.cell?_of_block (w := W) (w' := W') (a := ⟨b, off, none⟩) (k.block b hp (by simp))
 | map b => exact k.block b hp (by simp)
set_option maxRecDepth 100000 in
theorem post_true {H : Type} {enc : TypeId × Value → H} {f : Func} {s : ChangeSpec} {apart fresh handsOn again : Bool} {W W' : World} {args : Array Value} {ds gs : List (DataW H)} {before : List MemPlace}
  (hW : DataW.Whole enc Tryd.prog f.params.toList s.vars apart W args.toList ds gs before) (kp : Kp [] W W') (hr : f.resultTypes = #[4]) (hfn : s.fn H (ds ++ gs) = { results := [.lit (.bool true)], args := ds, vars := gs })
  (hpar : ∀ t ∈ f.params.toList, Tryd.prog.readableRec t = true ∧ t < Tryd.prog.types.size) (hv : s.vars = ["loop.example/pub-g03122/pub/flate.codeOrder"]) :
  s.post enc Tryd.prog f apart fresh handsOn again W args (.bool true) W' := by
 have hlt : ∀ p ∈ before, p.block < W.heap.size := fun p hp => hW.lt p hp
 have hsame : ∀ p ∈ before, W.sameAt W' p := fun p hp => sameAt_of_kp kp (hlt p hp)
 have hold : ∀ p ∈ before, (fun b => decide (b < W.heap.size)) p.block = true := fun p hp => by simpa using hlt p hp
 have hW0 := hW
 obtain ⟨p, q, hA, hV, e, hz, hn⟩ := hW
 have hA' : DataW.TrodAll enc Tryd.prog W 0 (fun _ => true) true f.params.toList args.toList ds p := hA
 have hV' : DataW.TrodVars enc Tryd.prog W (fun _ => true) s.vars gs q := hV
 have hargs : ∀ sp : Nat → Bool, (∀ p ∈ before, sp p.block = true) → DataW.TrodAll enc Tryd.prog W' 0 sp true f.params.toList args.toList ds p := fun sp hsp =>
  trodAll_stays hpar hA' (fun x hx => hsame x (by rw [e]; exact List.mem_append_left _ hx)) (fun x hx => hsp x (by rw [e]; exact List.mem_append_left _ hx))
 have hvars : ∀ sp : Nat → Bool, (∀ p ∈ before, sp p.block = true) → DataW.TrodVars enc Tryd.prog W' sp s.vars gs q := by
  intro sp hsp
  rw [hv] at hV' ⊢
  obtain ⟨g, t, cs, fuel, d, p2, rfl, h1, h2, h3, h4, rfl⟩ := trodVars_one hV'
  obtain rfl := Option.some.inj (gOrder.symm.trans h1)
  have h3' : W'.var? Tryd.prog "loop.example/pub-g03122/pub/flate.codeOrder" = some cs := by
   unfold World.var? at h3 ⊢
   rw [gOrder] at h3 ⊢
   simp only [Option.bind_some] at h3 ⊢
   have hb : 2 < W.heap.size := by
    rcases Nat.lt_or_ge 2 W.heap.size with h' | h'
    ·exact h'
    ·simp [Array.getElem?_eq_none h'] at h3
   rw [kp.block 2 hb (by simp)]
   exact h3
  have ht : t = 98 := by
   have h5 : (Tryd.prog.globals[2]?).map (·.type) = some 98 := by kernel_rfl
   exact Option.some.inj (h2.symm.trans h5)
  subst ht
  have hr98 : Tryd.prog.readableRec 98 = true := by kernel_rfl
  have hn' := DataW.trod_stays (w' := W') (sp' := sp) (kids_book laidOut hr98) (book_sized hr98) (fun h => by cases h) ⟨of_decide_eq_true (by kernel_rfl), book_self 98⟩ h4 (fun x hx => hsame x (by rw [e]; exact List.mem_append_right _ (List.mem_append_right _ hx))) (fun x hx => hsp x (by rw [e]; exact List.mem_append_right _ (List.mem_append_right _ hx)))
  exact trodVars_mk1 h1 h2 h3' hn'
 have hres : ∀ (b : Nat) (sp : Nat → Bool) (hd : Bool), DataW.TrodAll enc Tryd.prog W' b sp hd f.resultTypes.toList ((Value.bool true).resultList f.resultTypes.size) [.lit (.bool true)] [] := by
  intro b sp hd
  rw [hr]
  exact trodAll_cons_mk (shut_bool Tryd.underlying4 _) trodAll_mk0
 have hok0 : Value.okWide Tryd.prog W' .any 0 4 (.bool true) := okWide_bool_mk Tryd.underlying4 true
 have hok := ok_one (P := Tryd.prog) (W' := W') (f := f) (v := .bool true) (t := 4) hr rfl hok0
 have hk : W.keptBut W' (· ∈ before) := World.keptBut_mono (fun _ h => h.elim) (World.keptBut_none_iff.2 ⟨kp.os, kp.output, fun i hi => kp.block i hi (by simp)⟩)
 refine ⟨ds, gs, before, [], p, q, hW0, ?_, ?_, ?_, World.keptBut_mono (fun x hx => ⟨hx, ?_⟩) hk, fun _ => ?_⟩
 ·rw [hfn]; exact hres _ _ _
 ·rw [hfn]; exact hargs _ hold
 ·rw [hfn]; exact hvars _ hold
 ·have hx' := hx
  rw [e, List.mem_append] at hx'
  exact Or.inr hx'
 ·refine ⟨hok, _, _, ([] ++ p) ++ q, ⟨[] ++ p, q, trodAll_append (hargs _ (fun _ _ => rfl)) (hres _ _ _), hvars _ (fun _ _ => rfl), rfl, ?_, ?_⟩, ?_⟩
  ·intro b off hp
   have hpb : MemPlace.cell b off ∈ before := by rw [e]; simpa using hp
   rw [World.frozen?_of_block (w := W) (w' := W') (a := ⟨b, off, none⟩) (kp.block b (hlt _ hpb) (by simp))]
   exact hz b off hpb
  ·intro ha
   have := hn ha
   rw [e] at this
   simpa using this
  ·intro x hx _
   rw [e]
   simpa using hx
end Go.Proofs.YtejeloeaklpinaaDoor
namespace Go.Proofs.YtejeloeaklpinaaDoor
open Go.ChangeShapes Go.WideShapes Go.ChangeAt Go.RowKit
def laidL : List (String × DataW Unit) := [("io.ErrShortBuffer", Rows.laid_io_ErrShortBuffer), ("io.EOF", Rows.laid_io_EOF), ("io.ErrUnexpectedEOF", Rows.laid_io_ErrUnexpectedEOF), ("loop.example/pub-g03122/pub/flate.codeOrder", Rows.laid_loop_example_pub_g03122_pub_flate_codeOrder)]
set_option maxRecDepth 100000 in
/-- A listed error: its pointer, its text, and that its block may be written. -/
theorem laid_err {n : String} {text : List UInt8} {r : List (String × DataW Unit)} {W : World} {g : Nat} (h : laidMet Tryd.prog ((n, .iface "*errors.errorString" (.ptr (.agg [.lit (.string text)]))) :: r) W)
  (hg : Tryd.prog.globalNamed n = some g) (ht : (Tryd.prog.globals[g]?).map (·.type) = some 62) :
  ∃ (a : Addr) (s : ByteArray), W.cell? ⟨g, 0, none⟩ = some (.iface 131 (.pointer (some a))) ∧ W.cell? a = some (.string s) ∧ s.data.toList = text ∧ ∃ c t, W.heap[a.block]? = some (.cells c t (0, 0)) := by
 obtain ⟨ps, ⟨g0, t0, cs0, f0, p0, q0, hg0, ht0, hv0, hd0, _, e0⟩, _, hrows⟩ := h
 obtain rfl := Option.some.inj (hg.symm.trans hg0)
 obtain rfl := Option.some.inj (ht.symm.trans ht0)
 subst e0
 obtain ⟨l0⟩ := cs0
 have ok0 : ∀ u v, l0 = [.iface u v] → Value.okWide Tryd.prog W .any 0 u v := fun u v e => by
  subst e
  exact (hrows g 0 (by simp [MemPlace.row])).2 u v (by simpa using World.var?_cell hg0 hv0 0)
 obtain ⟨a0, s0, rfl, hc0, hs0, hz0, hp0⟩ := errorString_of_trod (enc := fun _ => ()) (te := 150) (ts := 9) und62 row131 und131 Tryd.underlying150 rfl rfl Tryd.underlying9 cells150 cells9 hd0 ok0
 refine ⟨a0, s0, by simpa using World.var?_cell hg0 hv0 0, hc0, hs0, ?_⟩
 subst hp0
 have hsp : a0.spot = none := World.cell?_spot hc0
 exact (hrows a0.block a0.off (by simp [MemPlace.row])).1
theorem cells3 : Tryd.prog.cellsOf 3 = 1 := by kernel_rfl
theorem cells98 : Tryd.prog.cellsOf 98 = 19 := by kernel_rfl
theorem tOrder : (Tryd.prog.globals[2]?).map (·.type) = some 98 := by kernel_rfl
set_option maxRecDepth 100000 in
theorem gl_of_laid {W : World} (h : laidMet Tryd.prog laidL W) : ∃ E0 : Env, Gl E0 W ∧ E0.B = W.heap.size := by
 obtain ⟨aE, sE, hE, hcE, htE, hbE⟩ := laid_err h.tail gEOF tEOF
 obtain ⟨aU, sU, hU, hcU, htU, hbU⟩ := laid_err h.tail.tail gUEOF tUEOF
 have hT : Lib.TabIs Tryd.prog W "loop.example/pub-g03122/pub/flate.codeOrder" .i64 [16, 17, 18, 0, 8, 7, 9, 6, 10, 5, 11, 4, 12, 3, 13, 2, 14, 1, 15] :=
  Lib.tabIs_of_head (rest := []) gOrder tOrder Tryd.underlying98 Tryd.underlying3 cells3 cells98 h.tail.tail.tail
 have hne : aE ≠ aU := by
  intro e
  subst e
  rw [hcE] at hcU
  simp only [Option.some.injEq, Value.string.injEq] at hcU
  subst hcU
  rw [htE] at htU
  exact absurd htU (by decide)
 have hord : ∀ i, i < 19 → W.cell? ⟨2, i, none⟩ = some (.int .i64 (order i)) := fun i hi => hT.cell gOrder i hi
 have h2 := World.block_lt_of_cell? W _ (hord 0 (by decide))
 exact ⟨⟨W.heap.size, aE, aU, 0, 0, 0, 0, 0, 0, 0, 0, 0, fun _ => 0⟩, ⟨by show 3 ≤ W.heap.size; simp only at h2; omega, Nat.le_refl _, hE, hU, hne, World.block_lt_of_cell? W _ hcE, World.block_lt_of_cell? W _ hcU, hbE, hbU, hord⟩, rfl⟩
set_option maxRecDepth 100000 in
/-- A slice of bytes that came in. -/
theorem openBytes {H : Type} {enc : TypeId × Value → H} {W : World} {base : Nat} {v : Value} {d : DataW H} {p : List MemPlace} (hval : Value.okWide Tryd.prog W .any base 22 v) (h : DataW.Trod enc Tryd.prog W 0 (fun _ => true) true 22 v d p) :
  ∃ xs : List Nat, Ag W v xs ∧ (∀ x ∈ xs, x < 256) ∧ (xs.length = 0 ∨ ∃ el rs, d = .slice el rs ∧ el.length = xs.length) := by
 obtain ⟨a1, len, cap, rfl⟩ := okWide_slice und22 hval
 obtain ⟨fuel, hf⟩ := h
 rcases open_ints und22 Tryd.underlying5 (by kernel_rfl) hf with ⟨hcs, hx⟩ | ⟨a, len', cap', zs, hcs, _, hl, hm, hz, hx, hcell, hwz⟩
 ·simp [Value.cells] at hcs
  obtain ⟨rfl, rfl, rfl⟩ := hcs
  exact ⟨[], ⟨none, 0, rfl, fun j hj => by simp at hj⟩, by simp, .inl rfl⟩
 ·simp [Value.cells] at hcs
  obtain ⟨rfl, rfl, rfl⟩ := hcs
  simp only [Prod.mk.injEq] at hx
  obtain ⟨rfl, rfl⟩ := hx
  simp only [if_true] at hz
  have hlen : ((zs.take len).map Int.toNat).length = len := by simp; omega
  refine ⟨(zs.take len).map Int.toNat, ⟨some a, cap, by rw [hlen], fun j hj => ⟨a, rfl, ?_⟩⟩, fun x hx => ?_, .inr ⟨_, _, rfl, ?_⟩⟩
  ·rw [hlen] at hj
   rw [hcell j (by omega)]
   have hb := range_u8 hwz j
   rw [List.getD_eq_getElem?_getD, List.getD_eq_getElem?_getD, List.getElem?_map, List.getElem?_take, if_pos hj]
   rw [List.getElem?_eq_getElem (show j < zs.length by omega)] at hb ⊢
   simp only [Option.getD_some, Option.map_some] at hb ⊢
   rw [Int.toNat_of_nonneg hb.1]
  ·obtain ⟨z, hz1, rfl⟩ := List.mem_map.1 hx
   have := bounds_u8 (hwz z (List.mem_of_mem_take hz1))
   omega
  ·rw [hlen]
   simp [lits]
   omega
end Go.Proofs.YtejeloeaklpinaaDoor
namespace Go.Proofs.YtejeloeaklpinaaDoor
open Go.ChangeShapes Go.WideShapes Go.ChangeAt Go.RowKit
section
variable {ρ : Operand → Value} {d : Option Nat} {x y z : Operand} {ty : TypeId} {pos : String} {af : Array Edge} {gd : Option (Nat × Bool)} {w : World}
theorem bs1 {h : Int} (hx : ρ x = .int .u8 h) : (execOp ρ ⟨d, .buildSlice 22 1 #[(0, x)], ty, pos, af, gd⟩).run Tryd.prog w = .ok (.value (.slice (some ⟨w.heap.size, 0, none⟩) 1 1)) (w.alloc (.cells #[.int .u8 h] 5)) := by
 simp only [execOp, List.map_toArray, List.map_cons, List.map_nil, hx]
 kernel_rfl
end
theorem Ag.nil (w : World) : Ag w (.slice none 0 0) [] := ⟨none, 0, rfl, fun j hj => by simp at hj⟩
theorem Bytes.nil : Bytes [] := ⟨by simp, by simp⟩
theorem lastW_nil : lastW [] = [] := by unfold lastW; rfl
attribute [local irreducible] wpList wpStill wpMix Code.wp Calls fr
end Go.Proofs.YtejeloeaklpinaaDoor
namespace Go.Proofs.YtejeloeaklpinaaDoor
/-- The head of a block, a block, the stream and the bytes up to block k. -/
def stHead (last : Bool) (n : Nat) : List Nat := [if last then 1 else 0, n % 256, n / 256 % 256, 255 - n % 256, 255 - n / 256 % 256]
def stBlk (ps : List (List Nat)) (k : Nat) : List Nat := stHead (decide (k + 1 = ps.length)) (ps.getD k []).length ++ ps.getD k []
def stUp (ps : List (List Nat)) : Nat → List Nat
 | 0 => []
 | k + 1 => stUp ps k ++ stBlk ps k
def whUp (ps : List (List Nat)) : Nat → List Nat
 | 0 => []
 | k + 1 => whUp ps k ++ ps.getD k []
theorem whUp_pre (ps : List (List Nat)) (k : Nat) : ∀ d, ∃ r, whUp ps (k + d) = whUp ps k ++ r
 | 0 => ⟨[], by simp⟩
 | d + 1 => by
  obtain ⟨r, h⟩ := whUp_pre ps k d
  exact ⟨r ++ ps.getD (k + d) [], by rw [← Nat.add_assoc]; simp only [whUp]; rw [h, List.append_assoc]⟩
theorem srcb {data : List Nat} (hb : ∀ x ∈ data, x < 256) {i : Nat} (hi : i < data.length) : bv (srcOf data).D (8 * i) 8 = data.getD i 0 := by
 have e := dnum_byte (fun k => data.getD k 0) (fun k => getD_lt hb k) data.length i hi
 rw [pow256] at e
 exact e
section
variable {ps : List (List Nat)}
/-- Flushes that may come. -/
def stF (ps : List (List Nat)) (k l : Nat) : Nat := (ps.length - k) + ((whUp ps ps.length).length / 32768 - l / 32768)
inductive St (ps : List (List Nat)) : Nat → A → Prop where
 | next {a : A} (k : Nat) : k < ps.length → a.md = .next → a.err = 0 → a.pos = (stUp ps k).length → a.p = 8 * a.pos → a.out = whUp ps k → St ps (stF ps k a.out.length) a
 | data {a : A} (k j : Nat) : k < ps.length → a.md = .data ((ps.getD k []).length - j) → j ≤ (ps.getD k []).length → a.err = 0 → a.fin = decide (k + 1 = ps.length) → a.pos = (stUp ps k).length + 5 + j → a.out = whUp ps k ++ (ps.getD k []).take j → St ps (stF ps k a.out.length) a
 | done {a : A} : a.err = 1 → a.pos = (stUp ps ps.length).length → a.out = whUp ps ps.length → a.fl = a.out.length → St ps 0 a
theorem St.e {F : Nat} {a : A} (h : St ps F a) (e : Nat) : St ps F { a with e := e } := by
 cases h with
 | next k h1 h2 h3 h4 h5 h6 => exact .next (a := { a with e := e }) k h1 h2 h3 h4 h5 h6
 | data k j h1 h2 h3 h4 h5 h6 h7 => exact .data (a := { a with e := e }) k j h1 h2 h3 h4 h5 h6 h7
 | done h1 h2 h3 h4 => exact .done h1 h2 h3 h4
theorem St.late {F : Nat} {a : A} (h : St ps F a) : a.late = a := by
 unfold A.late
 split
 ·rename_i h0
  cases h with
  | next _ _ _ h3 => exact absurd h3 h0.1
  | data _ _ _ _ _ h4 => exact absurd h4 h0.1
  | done _ _ _ h4 => unfold A.flush; rw [← h4]
 ·rfl
theorem St.err {F : Nat} {a : A} (h : St ps F a) : a.err = 0 ∨ a.err = 1 ∧ a.fl = a.out.length ∧ a.out = whUp ps ps.length ∧ a.pos = (stUp ps ps.length).length := by
 cases h with
 | next _ _ _ h3 => exact .inl h3
 | data _ _ _ _ _ h4 => exact .inl h4
 | done h1 h2 h3 h4 => exact .inr ⟨h1, h4, h3, h2⟩
theorem St.out {F : Nat} {a : A} (h : St ps F a) : ∃ r, whUp ps ps.length = a.out ++ r := by
 cases h with
 | next k h1 _ _ _ _ h6 =>
  obtain ⟨r, h⟩ := whUp_pre ps k (ps.length - k)
  rw [show k + (ps.length - k) = ps.length by omega] at h
  exact ⟨r, by rw [h, h6]⟩
 | data k j h1 _ _ _ _ _ h7 =>
  obtain ⟨r, h⟩ := whUp_pre ps (k + 1) (ps.length - (k + 1))
  rw [show k + 1 + (ps.length - (k + 1)) = ps.length by omega] at h
  exact ⟨(ps.getD k []).drop j ++ r, by rw [h, h7]; simp only [whUp, List.append_assoc]; rw [← List.append_assoc ((ps.getD k []).take j), List.take_append_drop]⟩
 | done h1 h2 h3 h4 => exact ⟨[], by rw [h3, List.append_nil]⟩
/-- What a Read leaves to be read. -/
def ind (a : A) : Nat := if a.e < a.fl then 1 else 0
theorem St.a0 (h : 0 < ps.length) : St ps (stF ps 0 0) (A0 []) := by
 have hl : (A0 []).out = whUp ps 0 := by show lastW [] = []; exact lastW_nil
 have hn : (A0 []).out.length = 0 := by rw [hl]; rfl
 have := St.next (ps := ps) (a := A0 []) 0 h rfl rfl rfl rfl hl
 rwa [hn] at this
end
end Go.Proofs.YtejeloeaklpinaaDoor
namespace Go.Proofs.YtejeloeaklpinaaDoor
open Go.ChangeShapes Go.WideShapes Go.ChangeAt Go.RowKit
/-- Bytes as a string. -/
def bstr (xs : List Nat) : ByteArray := (xs.map fun c : Nat => (c : Int)).foldl (fun r n => r.push (UInt8.ofNat n.toNat)) ByteArray.empty
theorem und9 : Tryd.prog.underlying 9 = some .string := by kernel_rfl
section
variable {ρ : Operand → Value} {d : Option Nat} {x y z u v : Operand} {ty : TypeId} {pos : String} {af : Array Edge} {gd : Option (Nat × Bool)} {w : World}
theorem ixg {t e : TypeId} {ad : Addr} {n c j : Nat} {k : IntKind} {i : Int} (ht : Tryd.prog.underlying t = some (.slice e)) (he : ∀ w, (sizeOf e).run Tryd.prog w = .ok 1 w) (hx : ρ x = .slice (some ad) n c) (hy : ρ y = .int k i) (hi : i = (j : Int)) (hj : j < n) :
  (execOp ρ ⟨d, .indexAddr t x y, ty, pos, af, gd⟩).run Tryd.prog w = .ok (.value (.pointer (some (ad.add j)))) w := by
 subst hi
 have h0 : (0 : Int) ≤ (j : Int) ∧ (j : Int) < (n : Int) := by omega
 simp [execOp, hx, hy, Instr.indexAt, asIntOf, run_underlying ht, h0, he]
 intro h; omega
theorem bs0 : (execOp ρ ⟨d, .buildSlice 22 0 #[], ty, pos, af, gd⟩).run Tryd.prog w = .ok (.value (.slice (some ⟨w.heap.size, 0, none⟩) 0 0)) (w.alloc (.cells #[] 5)) := by
 simp only [execOp, List.map_toArray, List.map_nil]
 kernel_rfl
theorem cvs {v0 : Value} {xs : List Nat} (hx : ρ x = v0) (hA : Ag w v0 xs) : (execOp ρ ⟨d, .convert 22 9 x, ty, pos, af, gd⟩).run Tryd.prog w = .ok (.value (.string (bstr xs))) w := by
 obtain ⟨a, c, rfl, h⟩ := hA
 have hr : (convert 22 9 (.slice a xs.length c)).run Tryd.prog w = .ok (.string (bstr xs)) w := by
  rw [run_convert_bytes_string w 22 9 5 a xs.length c und22 Tryd.underlying5 und9]
  cases a with
  | none =>
   have h0 : xs = [] := by
    cases xs with
    | nil => rfl
    | cons y ys => obtain ⟨ad, h1, _⟩ := h 0 (by simp); cases h1
   subst h0
   simp [Conv.bytesToString, bstr]
  | some ad =>
   refine run_bytesToString w ad xs.length c (xs.map fun c : Nat => (c : Int)) ?_
   have h1 := run_loadCells_list (P := Tryd.prog) (w := w) ad (xs.map fun c : Nat => Value.int .u8 (c : Int)) (fun j v hv => by
    have hj : j < xs.length := by have := (List.getElem?_eq_some_iff.1 hv).1; simpa using this
    obtain ⟨ad', he, h2⟩ := h j hj
    cases he
    rw [map_get xs j hj] at hv
    cases hv
    exact h2)
   rw [List.length_map] at h1
   rw [h1, List.map_map]
   rfl
 simp [execOp, hx, hr]
theorem bis {a b : ByteArray} {v : Bool} (hx : ρ x = .string a) (hy : ρ y = .string b) (h : a = b) : (execOp ρ ⟨d, .binOp .eql 9 x y 9, ty, pos, af, gd⟩).run Tryd.prog w = .ok (.value (.bool true)) w := by
 subst h
 have he : eqGuard .eql 9 x y (.string a) (.string a) = pure () := rfl
 simp only [execOp, hx, hy, he]
 simp [binOp, Op.stringOp]
end
theorem sl0 (w : World) : Sl (w.alloc (.cells #[] 5)) (.slice (some ⟨w.heap.size, 0, none⟩) 0 0) [] :=
 .inr ⟨w.heap.size, 0, fun _ => .int .u8 0, rfl, Bk.newOf w _ 5 0 _ rfl, Nat.le_refl _, by decide, fun k hk => by simp at hk⟩
theorem obk_ge {v : Value} {n : Nat} (h : ∀ k, v.ownBlock = some k → n ≤ k) : ∀ i, i ∈ obk v → i < n → i ∈ ([] : List Nat) := by
 intro i hi hlt
 unfold obk at hi
 split at hi
 ·rename_i b hb; simp at hi; have := h b hb; omega
 ·simp at hi
attribute [local irreducible] wpList wpStill wpMix Code.wp Calls fr
end Go.Proofs.YtejeloeaklpinaaDoor
namespace Go.Proofs.YtejeloeaklpinaaDoor
def One (xs : List Value) : Prop := ∀ u ∈ xs, u.oneCell' = true
/-- A slice of ints that begins at its block's head (or nil). -/
def Sv (w : World) (v : Value) (xs : List Value) : Prop :=
 (v = .slice none 0 0 ∧ xs = []) ∨ ∃ b cap g, v = .slice (some ⟨b, 0, none⟩) xs.length cap ∧ Bk w b cap 3 g ∧ xs.length ≤ cap ∧ cap ≤ maxLen ∧ ∀ k, k < xs.length → g k = xs.getD k undef
theorem Sv.kp {w w' : World} {v : Value} {xs : List Value} {L : List Nat} (h : Sv w v xs) (k : Kp L w w') (hL : ∀ b, v.ownBlock = some b → b ∉ L) : Sv w' v xs := by
 rcases h with h | ⟨b, cap, g, rfl, h2, h3⟩
 ·exact .inl h
 ·exact .inr ⟨b, cap, g, rfl, h2.kp k (hL b rfl), h3⟩
theorem Sv.lt {w : World} {v : Value} {xs : List Value} (h : Sv w v xs) {b : Nat} (hb : v.ownBlock = some b) : b < w.heap.size := by
 rcases h with ⟨rfl, _⟩ | ⟨b', cap, g, rfl, h2, _⟩
 ·simp [Value.ownBlock] at hb
 ·simp only [Value.ownBlock, Option.some.injEq] at hb
  subst hb; exact h2.lt
theorem Sv.val {w : World} {v : Value} {xs : List Value} (h : Sv w v xs) : ∃ a c, v = .slice a xs.length c := by
 rcases h with ⟨rfl, rfl⟩ | ⟨b', cap, g, rfl, h2, _⟩
 ·exact ⟨_, _, rfl⟩
 ·exact ⟨_, _, rfl⟩
theorem Sv.nil (w : World) : Sv w (.slice none 0 0) [] := .inl ⟨rfl, rfl⟩
theorem Sv.at {w : World} {v : Value} {xs : List Value} (h : Sv w v xs) : ∃ a c, v = .slice a xs.length c ∧ ∀ j, j < xs.length → ∃ b, a = some ⟨b, 0, none⟩ ∧ w.cell? ⟨b, j, none⟩ = some (xs.getD j undef) := by
 rcases h with ⟨rfl, rfl⟩ | ⟨b', cap, g, rfl, h2, h3, h4, h5⟩
 ·exact ⟨_, _, rfl, fun j hj => by simp at hj⟩
 ·exact ⟨_, _, rfl, fun j hj => ⟨b', rfl, h2.cellv (by omega) (h5 j hj)⟩⟩
theorem info3 : ∃ i, Tryd.prog.info? 3 = some i ∧ i.zero = some (.int .i64 0) ∧ i.size = 1 ∧ i.bytes = 8 := by
 have h : (Tryd.prog.info? 3).map (fun i => (i.zero, i.size, i.bytes)) = some (some (.int .i64 0), 1, 8) := by kernel_rfl
 obtain ⟨i, hi, he⟩ := Option.map_eq_some_iff.1 h
 simp only [Prod.mk.injEq] at he
 exact ⟨i, hi, he.1, he.2.1, he.2.2⟩
theorem getD_appV (xs ys : List Value) (k : Nat) : (xs ++ ys).getD k undef = if k < xs.length then xs.getD k undef else ys.getD (k - xs.length) undef := by
 by_cases h : k < xs.length
 ·rw [if_pos h, List.getD_eq_getElem?_getD, List.getElem?_append_left h, ← List.getD_eq_getElem?_getD]
 ·rw [if_neg h, List.getD_eq_getElem?_getD, List.getElem?_append_right (by omega), ← List.getD_eq_getElem?_getD]
theorem getV (ys : List Value) (j : Nat) (h : j < ys.length) : ys[j]? = some (ys.getD j undef) := by
 rw [List.getD_eq_getElem?_getD, List.getElem?_eq_getElem h]
 rfl
theorem grownNewV {w : World} {xs ys : List Value} {C : Array Value} {cap : Nat} {Z : Array Value} (hC : C = xs.toArray ++ ys.toArray ++ Z) (hZ : Z.size = cap - (xs.length + ys.length)) (hcap : xs.length + ys.length ≤ cap) (hm : cap ≤ maxLen) :
  Sv (w.drew.alloc (.cells C 3)) (.slice (some ⟨w.heap.size, 0, none⟩) (xs.length + ys.length) cap) (xs ++ ys) := by
 have hs : C.size = cap := by subst hC; simp; omega
 refine .inr ⟨w.heap.size, cap, fun k => C.getD k undef, by rw [List.length_append], by rw [← hs]; exact Bk.new w.drew C 3, by rw [List.length_append]; exact hcap, hm, fun k hk => ?_⟩
 rw [List.length_append] at hk
 rw [getD_appV]
 subst hC
 simp only [Array.getD_eq_getD_getElem?]
 by_cases h : k < xs.length
 ·rw [if_pos h, Array.getElem?_append_left (by simp; omega), Array.getElem?_append_left (by simpa using h)]
  simp [h]
 ·rw [if_neg h, Array.getElem?_append_left (by simp; omega), Array.getElem?_append_right (by simpa using h)]
  simp only [List.size_toArray, List.getElem?_toArray]
  rw [getV _ _ (by omega)]
  rfl
theorem ap_runV (w : World) (ty : TypeId) {v : Value} {xs ys : List Value} {a : Addr} {m c2 : Nat} (hS : Sv w v xs) (h1 : One ys) (hl : ys.length = m) (hys : ∀ j, j < m → w.cell? (a.add j) = some (ys.getD j undef)) (hm0 : 0 < m) (hmax : xs.length + m ≤ 8796093022208) :
  ∃ v' w', (Builtin.append_ #[24, 24] ty #[v, .slice (some a) m c2]).run Tryd.prog w = .ok v' w' ∧ Sv w' v' (xs ++ ys) ∧ Kp (obk v) w w' ∧ ∀ k, v'.ownBlock = some k → v.ownBlock = some k ∨ w.heap.size ≤ k := by
 obtain ⟨i, hi, hz, hsz, hby⟩ := info3
 have hl' : ys.length = m * i.size := by rw [hsz]; omega
 have hnews : ∀ j u, ys[j]? = some u → w.cell? (a.add j) = some u := by
  intro j u hj
  have hlt : j < ys.length := (List.getElem?_eq_some_iff.1 hj).1
  rw [getV _ _ hlt] at hj
  rw [hys j (by omega)]
  exact hj
 have hmx : xs.length + m ≤ maxLen := by simp only [maxLen]; omega
 rcases hS with ⟨rfl, rfl⟩ | ⟨b, cap, g, rfl, hB, hxc, hcm, hg⟩
 ·have hr := run_append_nil (P := Tryd.prog) w 24 ty 3 i (.int .i64 0) und24 hi hz a m c2 _ hl' hnews (by omega) (by simp at hmax; omega) (by rw [hby]; simp at hmax; omega)
  have hge := grownCap_ge w m 0 3
  refine ⟨_, _, hr, ?_, ((Kp.refl _ w).drew.alloc _), fun k hk => ?_⟩
  ·have := grownNewV (w := w) (xs := []) (ys := ys) (C := ys.toArray ++ Builtin.zeroCells (Value.int .i64 0).cells (grownCap w m 0 3 - m)) (cap := grownCap w m 0 3) (Z := Builtin.zeroCells (Value.int .i64 0).cells (grownCap w m 0 3 - m)) (by simp) (by simp [Builtin.zeroCells, Value.cells]; omega) (by simp; omega) (grownCap_le_maxLen w m 0 3 (by simp at hmx; exact hmx))
   simpa [hl] using this
  ·simp only [Value.ownBlock, Option.some.injEq] at hk
   exact .inr (by omega)
 ·obtain ⟨C, hC, hCs, hCg⟩ := hB
  by_cases hroom : xs.length + m ≤ cap
  ·have hr := run_append_room (P := Tryd.prog) w 24 ty 3 i und24 hi b xs.length cap C hC a m c2 _ hl' hnews h1 hroom (by rw [hsz]; omega)
   rw [hsz, Nat.mul_one] at hr
   refine ⟨_, _, hr, ?_, (Kp.refl _ w).setRow (by simp [obk, Value.ownBlock]) _, fun k hk => .inl hk⟩
   refine .inr ⟨b, cap, fun k => if k < xs.length then xs.getD k undef else if k < xs.length + m then ys.getD (k - xs.length) undef else g k, by rw [List.length_append, hl], ?_, by rw [List.length_append]; omega, hcm, fun k hk => ?_⟩
   ·refine Bk.setRow (g := g) ⟨C, hC, hCs, hCg⟩ _ ?_ ?_
    ·simp; omega
    ·intro k hk
     have htl : (C.toList.take xs.length).length = xs.length := by simp; omega
     rw [List.getElem?_toArray]
     by_cases hk1 : k < xs.length
     ·rw [if_pos hk1, List.append_assoc, List.getElem?_append_left (by omega), List.getElem?_take, if_pos hk1]
      rw [← hg k hk1]
      simpa using hCg k hk
     ·rw [if_neg hk1, List.append_assoc, List.getElem?_append_right (by omega), htl]
      by_cases hk2 : k < xs.length + m
      ·rw [if_pos hk2, List.getElem?_append_left (by omega), getV _ _ (by omega)]
      ·rw [if_neg hk2, List.getElem?_append_right (by omega), List.getElem?_drop, hl]
       rw [show xs.length + m + (k - xs.length - m) = k by omega]
       simpa using hCg k hk
   ·rw [List.length_append] at hk
    rw [getD_appV]
    simp only
    by_cases hk1 : k < xs.length
    ·rw [if_pos hk1, if_pos hk1]
    ·rw [if_neg hk1, if_neg hk1, if_pos (by omega)]
  ·have holds : ∀ j u, xs[j]? = some u → w.cell? ((⟨b, 0, none⟩ : Addr).add j) = some u := by
    intro j u hj
    have hlt : j < xs.length := (List.getElem?_eq_some_iff.1 hj).1
    rw [getV _ _ hlt] at hj
    rw [Addr.add_lit, Nat.zero_add, Bk.cell (n := cap) (t := 3) (g := g) ⟨C, hC, hCs, hCg⟩ (k := j) (by omega), hg j hlt]
    exact hj
   have hr := run_append_grow (P := Tryd.prog) w 24 ty 3 i (.int .i64 0) und24 hi hz ⟨b, 0, none⟩ xs.length cap xs (by rw [hsz, Nat.mul_one]) holds a m c2 _ hl' hnews (by omega) (by omega) (growslice_fits (by omega) (by rw [hby]; omega))
   have hge := grownCap_ge w (xs.length + m) cap 3
   refine ⟨_, _, hr, ?_, ((Kp.refl _ w).drew.alloc _), fun k hk => ?_⟩
   ·have := grownNewV (w := w) (xs := xs) (ys := ys) (cap := grownCap w (xs.length + m) cap 3) (Z := Builtin.zeroCells (Value.int .i64 0).cells (grownCap w (xs.length + m) cap 3 - (xs.length + m))) rfl (by simp [Builtin.zeroCells, Value.cells]; omega) (by omega) (grownCap_le_maxLen w (xs.length + m) cap 3 hmx)
    rw [hl] at this
    exact this
   ·simp only [Value.ownBlock, Option.some.injEq] at hk
    exact .inr (by omega)
section
variable {ρ : Operand → Value} {d : Option Nat} {x y z : Operand} {ty : TypeId} {pos : String} {af : Array Edge} {gd : Option (Nat × Bool)} {w : World}
theorem bsi1 {h : Int} (hx : ρ x = .int .i64 h) : (execOp ρ ⟨d, .buildSlice 24 1 #[(0, x)], ty, pos, af, gd⟩).run Tryd.prog w = .ok (.value (.slice (some ⟨w.heap.size, 0, none⟩) 1 1)) (w.alloc (.cells #[.int .i64 h] 3)) := by
 simp only [execOp, List.map_toArray, List.map_cons, List.map_nil, hx]
 kernel_rfl
theorem bsi0 : (execOp ρ ⟨d, .buildSlice 24 0 #[], ty, pos, af, gd⟩).run Tryd.prog w = .ok (.value (.slice (some ⟨w.heap.size, 0, none⟩) 0 0)) (w.alloc (.cells #[] 3)) := by
 simp only [execOp, List.map_toArray, List.map_nil]
 kernel_rfl
end
theorem sv0 (w : World) : Sv (w.alloc (.cells #[] 3)) (.slice (some ⟨w.heap.size, 0, none⟩) 0 0) [] :=
 .inr ⟨w.heap.size, 0, fun _ => undef, rfl, Bk.newOf w _ 3 0 _ rfl, Nat.le_refl _, by decide, fun k hk => by simp at hk⟩
attribute [local irreducible] wpList wpStill wpMix Code.wp Calls fr
section
variable {ops : Array Oper} {Q : Exit → Act → World → Prop} {N : Nat} {L : List (Nat × Value)} {B : Nat → Value} {w : World} {rest : List Oper} {dd : Nat} {x y : Operand} {ty : TypeId} {pos : String} {af : Array Edge}
theorem Lapv {v : Value} {xs ys : List Value} {b2 o2 m c2 n2 : Nat} {t2 : TypeId} {g2 : Nat → Value} (hx : ev N (fl L B) x = v) (hy : ev N (fl L B) y = .slice (some ⟨b2, o2, none⟩) m c2) (hS : Sv w v xs) (hB2 : Bk w b2 n2 t2 g2) (h1 : One ys) (hl : ys.length = m) (h2 : o2 + m ≤ n2) (hys : ∀ j, j < m → g2 (o2 + j) = ys.getD j undef) (hm0 : 0 < m) (hmax : xs.length + m ≤ 8796093022208)
  (K : ∀ v' w1, Sv w1 v' (xs ++ ys) → Kp (obk v) w w1 → (∀ k, v'.ownBlock = some k → v.ownBlock = some k ∨ w.heap.size ≤ k) → wpList Tryd.prog ops Q rest (fr N (fl ((dd, v') :: L) B)) w1) :
  wpList Tryd.prog ops Q (⟨some dd, .call ⟨.builtin .append, #[x, y], #[24, 24]⟩, ty, pos, af, none⟩ :: rest) (fr N (fl L B)) w := by
 obtain ⟨v', w1, hr, h3, h4, h5⟩ := ap_runV w ty (a := ⟨b2, o2, none⟩) (c2 := c2) hS h1 hl (fun j hj => by rw [Addr.add_lit, hB2.cell (by omega), hys j hj]) hm0 hmax
 exact L1 (by simp [execOp, resolve, invoke, builtin, hx, hy, hr]) (K v' w1 h3 h4 h5)
/-- One int more: the new slice is built and appended. -/
theorem Lapv1 {v : Value} {xs : List Value} {h : Int} {d2 : Nat} {ty2 : TypeId} {pos2 : String} {af2 : Array Edge} (hx : ev N (fl L B) x = v) (hy : ev N (fl L B) y = .int .i64 h) (hne : ∀ t, x = .tmp t → t ≠ d2) (hS : Sv w v xs) (hmax : xs.length + 1 ≤ 8796093022208) (hd : d2 < N)
  (K : ∀ v' u w1, Sv w1 v' (xs ++ [.int .i64 h]) → Kp (obk v) w w1 → (∀ k, v'.ownBlock = some k → v.ownBlock = some k ∨ w.heap.size ≤ k) → wpList Tryd.prog ops Q rest (fr N (fl ((dd, v') :: (d2, u) :: L) B)) w1) :
  wpList Tryd.prog ops Q (⟨some d2, .buildSlice 24 1 #[(0, y)], ty2, pos2, af2, none⟩ :: ⟨some dd, .call ⟨.builtin .append, #[x, .tmp d2], #[24, 24]⟩, ty, pos, af, none⟩ :: rest) (fr N (fl L B)) w := by
 refine L1 (bsi1 hy) ?_
 have hb : Bk (w.alloc (.cells #[.int .i64 h] 3)) w.heap.size 1 3 (fun _ => .int .i64 h) := Bk.newOf w _ 3 1 _ rfl
 have hx' : ev N (fl ((d2, .slice (some ⟨w.heap.size, 0, none⟩) 1 1) :: L) B) x = v := by
  rw [← hx]
  cases x with
  | tmp t =>
   simp only [ev, fl]
   rw [if_neg (hne t rfl)]
  | const u => rfl
  | global g => rfl
  | func k => rfl
 have hk : Kp [] w (w.alloc (.cells #[.int .i64 h] 3)) := (Kp.refl [] w).alloc _
 refine Lapv (m := 1) (c2 := 1) (b2 := w.heap.size) (o2 := 0) hx' (by simp [ev, fl, hd]) (hS.kp hk (by simp)) hb (ys := [.int .i64 h]) (fun u hu => by simp at hu; subst hu; rfl) rfl (Nat.le_refl _) (fun j hj => by rw [show j = 0 by omega]; rfl) (by decide) hmax ?_
 intro v' w1 h1 h2 h3
 refine K v' _ w1 h1 ((hk.mono (by simp)).trans h2) fun k hk2 => ?_
 rcases h3 k hk2 with h | h
 ·exact .inl h
 ·exact .inr (by simp at h; omega)
end
end Go.Proofs.YtejeloeaklpinaaDoor
namespace Go.Proofs.YtejeloeaklpinaaDoor
attribute [local irreducible] wpList wpStill wpMix Code.wp Calls fr
/-- A set of codes where it lies: in the reader's own block, or in a block apart. -/
def HAt (E : Env) (w : World) (g : Nat → Value) (hb ho : Nat) (c : Cd) : Prop :=
 (hb = E.F ∧ (ho = 5 ∨ ho = 520) ∧ HTab E w g ho c) ∨ (hb ∉ E.X ∧ ho = 0 ∧ ∃ gx, Bk w hb 515 86 gx ∧ HTab E w gx 0 c)
theorem HAt.keep {E : Env} {w w' : World} {g g' : Nat → Value} {hb ho : Nat} {c : Cd} {L : List Nat} (h : HAt E w g hb ho c) (k : Kp E.X w w') (o : Off L g g') (hL : ∀ j, j ∈ L → j < 5 ∨ 1035 ≤ j) : HAt E w' g' hb ho c := by
 rcases h with ⟨h1, h2, h3⟩ | ⟨h1, h2, gx, h3, h4⟩
 ·exact .inl ⟨h1, h2, h3.keep k fun j a b => o j (fun hm => by have := hL j hm; rcases h2 with rfl | rfl <;> omega)⟩
 ·exact .inr ⟨h1, h2, gx, h3.kp k h1, h4.keep k (fun _ _ _ => rfl)⟩
theorem HAt.cells {E : Env} {w : World} {g : Nat → Value} {hb ho : Nat} {c : Cd} (h : HAt E w g hb ho c) (hF : Bk w E.F 1054 95 g) : ∃ gx, (∀ j, ho ≤ j → j < ho + 515 → w.cell? ⟨hb, j, none⟩ = some (gx j)) ∧ HTab E w gx ho c := by
 rcases h with ⟨rfl, h2, h3⟩ | ⟨h1, rfl, gx, h3, h4⟩
 ·exact ⟨g, fun j a b => hF.cell (by rcases h2 with rfl | rfl <;> omega), h3⟩
 ·exact ⟨gx, fun j a b => h3.cell (by omega), h4⟩
theorem und83 : Tryd.prog.underlying 83 = some (.array 512 82) := by kernel_rfl
theorem bn_and64u {t : TypeId} {a : Int} {x : Nat} (ha : a = (x : Int)) (hx : x < 32) : binOp .and t (.int .u64 a) (.int .u64 31) = pure (.int .u64 (x : Int)) := by
 have := bn_mask64 (t := t) (a := a) (b := 31) (x := x) (k := 5) ha rfl (by omega) (by decide)
 rw [this, Nat.mod_eq_of_lt (by simpa using hx)]
/-- What is known of the look-up at the bits that are held. -/
theorem sym_ok {S : Src} {c : Cd} {p pos pos' : Nat} (hc : LkOk c) (hm : p + c.m ≤ 8 * pos') (hle : c.lk (bv S.D p (8 * pos' - p)) % 16 ≤ 8 * pos' - p) (hN : pos' ≤ S.N) (h1 : pos ≤ pos') (h2 : pos' = pos ∨ 8 * pos' < p + max c.m (c.lk (S.D / 2 ^ p) % 16) + 8) :
  getSym S c p pos = if c.lk (bv S.D p (8 * pos' - p)) % 16 = 0 then .bad p pos' else .ok (c.lk (bv S.D p (8 * pos' - p)) / 16) (p + c.lk (bv S.D p (8 * pos' - p)) % 16) pos' := by
 have e : c.lk (S.D / 2 ^ p) = c.lk (bv S.D p (8 * pos' - p)) := hc.le (S.D / 2 ^ p) (8 * pos' - p) (by omega) hle
 unfold getSym
 simp only [e]
 rw [e] at h2
 by_cases h0 : c.lk (bv S.D p (8 * pos' - p)) % 16 = 0
 ·rw [if_pos h0, if_pos h0, if_pos (by omega)]
  rw [h0] at h2
  rw [← rdTo_of h1 (by rw [Nat.max_eq_left (Nat.zero_le _)] at h2; exact h2) hm]
 ·rw [if_neg h0, if_neg h0, if_pos (by omega), ← rdTo_of h1 h2 (by omega)]
theorem sym_short {S : Src} {c : Cd} {p pos n : Nat} (h : 8 * S.N < p + n) (hn : n = c.m ∨ (c.m ≤ n ∧ n ≤ c.lk (S.D / 2 ^ p) % 16)) : getSym S c p pos = .short := by
 unfold getSym
 simp only
 by_cases h0 : c.lk (S.D / 2 ^ p) % 16 = 0
 ·rw [if_pos h0, if_neg (by omega)]
 ·rw [if_neg h0, if_neg (by omega)]
/-- What huffSym leaves. -/
def SymPost (E : Env) (w : World) (g hs bs cs : Nat → Value) (r : Got) (v : Value) (w' : World) : Prop :=
 ∃ g', Kp E.L w w' ∧ (match r with
  | .ok s p' pos' => v = .tuple #[.int .i64 (s : Int), .nilIface] ∧ Wd E w' g' hs bs cs pos' ∧ Bt E g' p' pos' ∧ Off [2, 3, 4] g g'
  | .short => v = .tuple #[.int .i64 0, UEOFv E] ∧ Wd E w' g' hs bs cs E.N ∧ Off [2, 3, 4] g g'
  | .bad _ pos' => (∃ x, v = .tuple #[.int .i64 0, .iface 107 (.int .i64 x)]) ∧ Wd E w' g' hs bs cs pos' ∧ Off [2, 3, 4, 1048] g g')
theorem sym_c (E : Env) (w : World) (g hs bs cs : Nat → Value) (p pos hb ho : Nat) (c : Cd) (hE : E.Ok) (hW : Wd E w g hs bs cs pos) (hS : Stc E g) (hB : Bt E g p pos) (hH : HAt E w g hb ho c) (hLk : LkOk c) :
  Ret 54 [fp E, .pointer (some ⟨hb, ho, none⟩)] w fun v w' => SymPost E w g hs bs cs (getSym E.S' c p pos) v w' := by
 have kp := Kp.refl E.L w
 have hN := hE.N47
 have hp0 := hB.le
 have hp1 := hB.l32
 have hm15 := hLk.m15
 obtain ⟨gx, hcx, hTx⟩ := hH.cells hW.F
 have hmn := hTx.1
 refine calls_fr (N := 137) Tryd.func54 rfl rfl (by simp [fp]) rfl ?_
 refine sqr ?_
 refine Ai rfl ?_
 refine L1 (asg (v := .nilIface) rfl) ?_
 refine nt ?_
 refine sqr ?_
 refine Mp rfl ?_
 refine Np rfl ?_
 refine L1 (fb86_0 rfl) ?_
 refine L1 (ld3 rfl (by have := hcx ho (Nat.le_refl _) (by omega); rw [hmn] at this; exact this)) ?_
 refine L1 (cv3_38 rfl (wrap_u64n _ (by omega) (by omega))) ?_
 refine Ai rfl ?_
 refine nt ?_
 refine wp_seq ?_
 refine reg_still mixed (by kernel_rfl) ?_
 have hW := hW.drew
 have kp := kp.drew
 refine S1 (mv (v := .pointer _) rfl) ?_
 refine S1 (nilP rfl) ?_
 refine S1 (fa95_4 rfl) ?_
 refine S1 (ld38 rfl (hW.F.cellv (by decide) hB.nb)) ?_
 refine S1 (mv (v := .pointer _) rfl) ?_
 refine S1 (nilP rfl) ?_
 refine S1 (fa95_3 rfl) ?_
 refine S1 (ld82 rfl (hW.F.cellv (by decide) hB.b)) ?_
 refine S1 (asg (v := .int _ _) rfl) ?_
 refine S1 (asg (v := .int _ _) rfl) ?_
 refine still_nil ?_
 refine then_n ?_
 refine wp_block ?_
 refine loop_fr (fun k f w' => f 0 = fp E ∧ f 1 = .pointer (some ⟨hb, ho, none⟩) ∧ ∃ g' pos' n, f 6 = .int .u64 ((n : Nat) : Int) ∧ f 7 = .int .u64 ((8 * pos' - p : Nat) : Int) ∧ f 8 = .int .u32 ((bv E.D p (8 * pos' - p) : Nat) : Int) ∧ Wd E w' g' hs bs cs pos' ∧ (∃ x, g' 2 = .int .i64 x) ∧ Off [2] g g' ∧ Kp E.L w w' ∧ k = 2 * (E.N - pos') + (if 8 * pos' - p < n then 0 else 1) ∧ n ≤ 15 ∧ pos ≤ pos' ∧ (pos' = pos ∨ 8 * pos' < p + max c.m (c.lk (E.D / 2 ^ p) % 16) + 8) ∧ ((n = c.m ∧ pos' = pos) ∨ (c.m ≤ 8 * pos' - p ∧ 8 * pos' - p < n ∧ n ≤ c.lk (E.D / 2 ^ p) % 16)) ∧ 8 * pos' ≤ p + 32) (2 * (E.N - pos) + (if 8 * pos - p < c.m then 0 else 1)) ⟨rfl, rfl, g, pos, c.m, rfl, rfl, rfl, hW, hB.ro, Off.refl _ _, kp, rfl, hm15, Nat.le_refl _, .inl rfl, .inl ⟨rfl, rfl⟩, hp1⟩ ?_
 clear hW kp hcx hTx hmn gx hp0 hp1
 intro k f w0 HJ
 obtain ⟨s0, s1, g1, pos1, n1, s6, s7, s8, hW, hro, ho1, kp, rfl, hn15, hpp, hpq, hnn, hp32⟩ := HJ
 refine slots (fc s0 (fc s1 (fc s6 (fc s7 (fc s8 fnil))))) ?_
 have hp0 := hB.le
 refine wp_block ?_
 refine wp_seq ?_
 refine wp_block ?_
 refine loop_fr (fun k f w' => f 0 = fp E ∧ f 1 = .pointer (some ⟨hb, ho, none⟩) ∧ f 6 = .int .u64 ((n1 : Nat) : Int) ∧ ∃ g' pos', f 7 = .int .u64 ((8 * pos' - p : Nat) : Int) ∧ f 8 = .int .u32 ((bv E.D p (8 * pos' - p) : Nat) : Int) ∧ Wd E w' g' hs bs cs pos' ∧ (∃ x, g' 2 = .int .i64 x) ∧ Off [2] g g' ∧ Kp E.L w w' ∧ k = E.N - pos' ∧ pos1 ≤ pos' ∧ (pos' = pos ∨ 8 * pos' < p + max c.m (c.lk (E.D / 2 ^ p) % 16) + 8) ∧ 8 * pos' ≤ p + 32) (E.N - pos1) ⟨rfl, rfl, rfl, g1, pos1, rfl, rfl, hW, hro, ho1, kp, rfl, Nat.le_refl _, hpq, hp32⟩ ?_
 clear hW kp hro ho1
 intro k f w1 HJ
 obtain ⟨s0, s1, s6, g2, pos2, s7, s8, hW, ⟨ro, hro⟩, ho2, kp, rfl, hpp2, hpq2, hp322⟩ := HJ
 refine slots (fc s0 (fc s1 (fc s6 (fc s7 (fc s8 fnil))))) ?_
 have hS2 := hS.off ho2 (by decide)
 have hle2 := hW.rd.le
 refine wp_seq ?_
 refine sqr ?_
 refine Mi rfl ?_
 refine Mi rfl ?_
 refine L1 (bi rfl rfl (bn_lss (v := decide (8 * pos2 - p < n1)) (decide_eq_decide.2 (by omega)))) ?_
 refine nt ?_
 refine cond_d (p := 8 * pos2 - p < n1) rfl (fun hlt => ?_) (fun hlt => ?_)
 ·skip
  have hnx : n1 = c.m ∨ (c.m ≤ n1 ∧ n1 ≤ c.lk (E.D / 2 ^ p) % 16) := by omega
  by_cases hpn : pos2 < E.N
  ·skip
   have hd8 := hE.d8 pos2
   have h2p : 2 ^ (8 * pos2 - p) ≤ 2 ^ 24 := Nat.pow_le_pow_right (by omega) (by omega)
   have hbv := bv_lt E.D p (8 * pos2 - p)
   have hwm : E.d pos2 * 2 ^ (8 * pos2 - p) < 4294967296 := Nat.lt_of_le_of_lt (Nat.mul_le_mul (Nat.le_of_lt_succ hd8) h2p) (by decide)
   refine skn ?_
   refine wp_block ?_
   refine sqr ?_
   refine Mp rfl ?_
   refine Np rfl ?_
   refine L1 (fa95_0 rfl) ?_
   refine L1 (ld80 rfl (hW.F.cellv (by decide) hS2.r)) ?_
   refine LC (inv0 has82 rfl (meth_rb _)) (readByte_ok E _ pos2 hE hW.rd hpn) ?_
   rintro v w2 ⟨rfl, hrd, kp1⟩
   have hW := hW.setR hE hrd kp1
   have kp := kp.R kp1
   clear kp1 hrd
   refine L1 (mv (v := .tuple _) rfl) ?_
   refine L1 (ext2_0 rfl) ?_
   refine L1 (ext2_1 rfl) ?_
   refine Ai rfl ?_
   refine L1 (asg (v := .nilIface) rfl) ?_
   refine nt ?_
   refine wp_seq ?_
   refine sqr ?_
   refine L1 (mv (v := .nilIface) rfl) ?_
   refine L1 (en_nil rfl rfl) ?_
   refine nt ?_
   refine cond_f rfl ?_
   refine skn ?_
   refine sqr ?_
   refine Mp rfl ?_
   refine Np rfl ?_
   refine L1 (fa95_2 rfl) ?_
   refine L1 (ld2 rfl (hW.F.cellv (by decide) hro)) ?_
   refine L1 (bi rfl rfl (bn_addw)) ?_
   refine Np rfl ?_
   refine L1 (fa95_2 rfl) ?_
   refine Lst2 (v := .int _ _) rfl rfl rfl hW.F (by decide) ?_
   intro w1 hb1 kp1
   have hW := hW.setF hE hb1 kp1
   have kp := kp.F kp1
   clear hb1 kp1
   refine nt ?_
   refine sqr ?_
   refine Mi rfl ?_
   refine Mi rfl ?_
   refine L1 (cv5_82 rfl (wrap_u32n _ (by omega) (by omega))) ?_
   refine Mi rfl ?_
   refine L1 (bi rfl rfl (bn_and64u rfl (by omega))) ?_
   refine L1 (bi rfl rfl (bn_shl32 rfl rfl (by omega) hwm)) ?_
   refine L1 (bi rfl rfl (bn_or32 rfl rfl (by omega) hwm)) ?_
   refine Ai rfl ?_
   refine nt ?_
   refine reg_lit ?_
   refine Mi rfl ?_
   refine L1 (bi rfl rfl (bn_addu (c := ((8 * (pos2 + 1) - p : Nat) : Int)) (by omega) (by omega) (by omega))) ?_
   refine Ai rfl ?_
   refine wpList_nil ?_
   refine inb_n ?_
   refine then_n ?_
   refine ⟨E.N - (pos2 + 1), _, by omega, rfl, rfl, rfl, rfl, _, pos2 + 1, rfl, ?_, hW, ⟨_, rfl⟩, ho2.upd (by decide) _, kp, rfl, by omega, .inr (by omega), by omega⟩
   show Value.int .u32 _ = Value.int .u32 _
   rw [or_high _ _ _ hbv, Env.D, show 8 * (pos2 + 1) - p = (8 * pos2 - p) + 8 by omega, bv_more E.d hE.d8 E.N p (8 * pos2 - p) pos2 (by omega) hpn]
  ·skip
   refine skn ?_
   refine wp_block ?_
   refine sqr ?_
   refine Mp rfl ?_
   refine Np rfl ?_
   refine L1 (fa95_0 rfl) ?_
   refine L1 (ld80 rfl (hW.F.cellv (by decide) hS2.r)) ?_
   refine LC (inv0 has82 rfl (meth_rb _)) (readByte_eof E _ pos2 hE hW.gl hW.rd (by omega)) ?_
   rintro v w2 ⟨rfl, hrd, kp1⟩
   have hW := hW.setR hE hrd kp1
   have kp := kp.R kp1
   clear kp1 hrd
   refine L1 (mv (v := .tuple _) rfl) ?_
   refine L1 (ext2_0 rfl) ?_
   refine L1 (ext2_1 rfl) ?_
   refine Ai rfl ?_
   refine L1 (asg (v := (EOFv E)) rfl) ?_
   refine nt ?_
   refine wp_seq ?_
   refine sqr ?_
   refine L1 (mv (v := EOFv E) rfl) ?_
   refine L1 (en_held (u := 131) rfl rfl) ?_
   refine nt ?_
   refine cond_t rfl ?_
   refine sqr ?_
   refine Mp rfl ?_
   refine Mi rfl ?_
   refine Np rfl ?_
   refine L1 (fa95_3 rfl) ?_
   refine Lst82 (v := .int _ _) rfl rfl rfl hW.F (by decide) ?_
   intro w1 hb1 kp1
   have hW := hW.setF hE hb1 kp1
   have kp := kp.F kp1
   clear hb1 kp1
   refine nt ?_
   refine sqr ?_
   refine Mp rfl ?_
   refine Mi rfl ?_
   refine Np rfl ?_
   refine L1 (fa95_4 rfl) ?_
   refine Lst38 (v := .int _ _) rfl rfl rfl hW.F (by decide) ?_
   intro w1 hb1 kp1
   have hW := hW.setF hE hb1 kp1
   have kp := kp.F kp1
   clear hb1 kp1
   refine nt ?_
   refine sqr ?_
   refine L1 (mv (v := (EOFv E)) rfl) ?_
   refine LC (cl1 has48 rfl rfl) (noEOF_eof E _ hW.gl) ?_
   rintro v w1 ⟨rfl, rfl⟩
   refine Ai rfl ?_
   refine L1 (asg (v := (UEOFv E)) rfl) ?_
   refine nt ?_
   refine wp_ret ?_
   refine then_r ?_
   refine inb_r ?_
   refine then_r ?_
   refine inb_r ?_
   refine then_r ?_
   refine inb_r ?_
   refine then_r ?_
   refine inb_r ?_
   refine ret2 rfl rfl rfl ?_
   have epn : pos2 = E.N := by omega
   rw [epn] at hW
   have hsh : getSym E.S' c p pos = .short := sym_short (S := E.S') (n := n1) (by show 8 * E.N < p + n1; omega) hnx
   rw [hsh]
   exact ⟨_, rfl, _, kp, rfl, hW, ((ho2.mono (by decide)).upd (by decide) _).upd (by decide) _⟩
 ·skip
  have hH2 : HAt E w1 g2 hb ho c := hH.keep kp.X ho2 (by decide)
  obtain ⟨gx, hcx, hTx⟩ := hH2.cells hW.F
  obtain ⟨hT0, la, ll, lc, mask, hT1, hT2, hT3, hT4⟩ := hTx
  obtain ⟨hlk32, ch, hch, hch32, hcase⟩ := hT4 (bv E.D p (8 * pos2 - p))
  have hbv := bv_lt E.D p (8 * pos2 - p)
  have h32 : bv E.D p (8 * pos2 - p) < 4294967296 := Nat.lt_of_lt_of_le hbv (Nat.pow_le_pow_right (n := 2) (by decide) (show 8 * pos2 - p ≤ 32 by omega))
  have hx512 : bv E.D p (8 * pos2 - p) % 512 < 512 := Nat.mod_lt _ (by decide)
  have hm2 : c.m ≤ 8 * pos2 - p := by omega
  have hro2 : ∃ x, g2 2 = .int .i64 x := ⟨_, hro⟩
  have kp2 := kp
  refine wp_exit ?_
  refine then_e ?_
  refine then_e ?_
  refine inb_same ?_
  refine then_n ?_
  refine sqr ?_
  refine Mp rfl ?_
  refine Mi rfl ?_
  refine L1 (bi rfl rfl (bn_mask32 (k := 9) rfl rfl h32 (by decide))) ?_
  refine Np rfl ?_
  refine L1 (fb86_1 rfl) ?_
  refine L1 (ixA und83 (fun w => sz82 w) rfl rfl (j := bv E.D p (8 * pos2 - p) % 512) rfl hx512) ?_
  refine L1 (ld82 (v := .int .u32 (ch : Int)) rfl (by have := hcx (ho + 1 + bv E.D p (8 * pos2 - p) % 512) (by omega) (by omega); rw [hch] at this; exact this)) ?_
  refine Ai rfl ?_
  refine nt ?_
  refine sqr ?_
  refine Mi rfl ?_
  refine L1 (bi rfl rfl (bn_mask32 (k := 4) rfl rfl hch32 (by decide))) ?_
  refine L1 (cv82_38 rfl (wrap_u64n _ (by omega) (by omega))) ?_
  refine Ai rfl ?_
  refine nt ?_
  refine seq_cut (N := 137) (fun f w' => (Wd E w' g2 hs bs cs pos2 ∧ Kp E.L w w') ∧ f 0 = fp E ∧ f 1 = .pointer (some ⟨hb, ho, none⟩) ∧ f 7 = .int .u64 ((8 * pos2 - p : Nat) : Int) ∧ f 8 = .int .u32 ((bv E.D p (8 * pos2 - p) : Nat) : Int) ∧ f 11 = .int .u32 ((c.lk (bv E.D p (8 * pos2 - p)) : Nat) : Int) ∧ f 6 = .int .u64 ((c.lk (bv E.D p (8 * pos2 - p)) % 2 ^ 4 : Nat) : Int)) ?_ ?_
  ·skip
   refine sqr ?_
   refine Mi rfl ?_
   refine L1 (bi rfl rfl (bn_gtr (v := decide (9 < ch % 2 ^ 4)) (decide_eq_decide.2 (by omega)))) ?_
   refine nt ?_
   refine cond_d (p := 9 < ch % 2 ^ 4) rfl (fun hgt9 => ?_) (fun hgt9 => ?_)
   ·skip
    rcases hcase with ⟨hc1, hc2⟩ | ⟨hc1, hc2, lb, lo, ib, io, il, ic, rfl, hlb, hib, hl1, hl2, hl3⟩
    ·omega
    refine wp_seq ?_
    refine reg_still mixed (by kernel_rfl) ?_
    have hW := hW.drew
    have kp := kp.drew
    have hcx : ∀ j, ho ≤ j → j < ho + 515 → w1.drew.cell? ⟨hb, j, none⟩ = some (gx j) := hcx
    have hl1 : w1.drew.cell? ⟨lb, lo + ch / 16, none⟩ = some (.slice (some ⟨ib, io, none⟩) il ic) := hl1
    have hl3 : w1.drew.cell? ⟨ib, io + (bv E.D p (8 * pos2 - p) / 512 &&& mask), none⟩ = some (.int .u32 (c.lk (bv E.D p (8 * pos2 - p)) : Int)) := hl3
    refine S1 (mv (v := .pointer _) rfl) ?_
    refine S1 (nilP rfl) ?_
    refine S1 (fb86_2 rfl) ?_
    refine S1 (ld84 (v := .slice _ _ _) rfl (by have := hcx (ho + 513) (by omega) (by omega); rw [hT1] at this; exact this)) ?_
    refine S1 (mv (v := .int _ _) rfl) ?_
    refine S1 (bi rfl rfl (bn_shr (n := 4) rfl rfl (by decide))) ?_
    refine S1 (ix und84 sz130 rfl rfl rfl hc2) ?_
    refine S1 (ld130 (v := .slice _ _ _) rfl hl1) ?_
    refine S1 (mv (v := .int _ _) rfl) ?_
    refine S1 (bi rfl rfl (bn_shr (n := 9) rfl rfl (by decide))) ?_
    refine S1 (mv (v := .pointer _) rfl) ?_
    refine S1 (nilP rfl) ?_
    refine S1 (fb86_3 rfl) ?_
    refine S1 (ld82 (v := .int .u32 (mask : Int)) rfl (by have := hcx (ho + 514) (by omega) (by omega); rw [hT2] at this; exact this)) ?_
    refine S1 (bi rfl rfl (bn_and32 rfl rfl (by omega) hT3)) ?_
    refine S1 (ix und130 sz82 rfl rfl rfl hl2) ?_
    refine S1 (ld82 (v := .int .u32 _) rfl hl3) ?_
    refine S1 (asg (v := .int _ _) rfl) ?_
    refine still_nil ?_
    refine then_n ?_
    refine reg_lit ?_
    refine Mi rfl ?_
    refine L1 (bi rfl rfl (bn_mask32 (k := 4) rfl rfl hlk32 (by decide))) ?_
    refine L1 (cv82_38 rfl (wrap_u64n _ (by omega) (by omega))) ?_
    refine Ai rfl ?_
    refine nt ?_
    exact ⟨_, rfl, ⟨hW, kp⟩, rfl, rfl, rfl, rfl, rfl, rfl⟩
   ·skip
    have hc2 : c.lk (bv E.D p (8 * pos2 - p)) = ch := hcase.elim (fun h => h.2) (fun h => absurd h.1 (by omega))
    rw [hc2]
    refine skn ?_
    exact ⟨_, rfl, ⟨hW, kp⟩, rfl, rfl, rfl, rfl, rfl, rfl⟩
  ·skip
   clear hcx hT4 hcase hW kp kp2
   rintro f w3 ⟨⟨hW, kp⟩, s0, s1, s7, s8, s11, s6⟩
   have kp2 := kp
   refine slots (fc s0 (fc s1 (fc s7 (fc s8 (fc s11 (fc s6 fnil)))))) ?_
   generalize hve : c.lk (bv E.D p (8 * pos2 - p)) = v at *
   refine sqr ?_
   refine Mi rfl ?_
   refine Mi rfl ?_
   refine L1 (bi rfl rfl (bn_leq (v := decide (v % 16 ≤ 8 * pos2 - p)) (decide_eq_decide.2 (by omega)))) ?_
   refine nt ?_
   refine cond_d (p := v % 16 ≤ 8 * pos2 - p) rfl (fun hfit => ?_) (fun hfit => ?_)
   ·skip
    have hsym := sym_ok (S := E.S') (pos := pos) (pos' := pos2) hLk (p := p) (by omega) (by show c.lk (bv E.D p (8 * pos2 - p)) % 16 ≤ _; rw [hve]; exact hfit) hle2 (by omega) hpq2
    have hve' : c.lk (bv E.S'.D p (8 * pos2 - p)) = v := hve
    rw [hve'] at hsym
    refine wp_seq ?_
    refine sqr ?_
    refine Mi rfl ?_
    refine L1 (bi rfl rfl (bn_eql (v := decide (v % 16 = 0)) (decide_eq_decide.2 (by omega)))) ?_
    refine nt ?_
    refine cond_d (p := v % 16 = 0) rfl (fun hz => ?_) (fun hz => ?_)
    ·skip
     rw [if_pos hz] at hsym
     refine sqr ?_
     refine Mp rfl ?_
     refine Mi rfl ?_
     refine Np rfl ?_
     refine L1 (fa95_3 rfl) ?_
     refine Lst82 (v := .int _ _) rfl rfl rfl hW.F (by decide) ?_
     intro w1 hb1 kp1
     have hW := hW.setF hE hb1 kp1
     have kp := kp.F kp1
     clear hb1 kp1
     refine nt ?_
     refine sqr ?_
     refine Mp rfl ?_
     refine Mi rfl ?_
     refine Np rfl ?_
     refine L1 (fa95_4 rfl) ?_
     refine Lst38 (v := .int _ _) rfl rfl rfl hW.F (by decide) ?_
     intro w1 hb1 kp1
     have hW := hW.setF hE hb1 kp1
     have kp := kp.F kp1
     clear hb1 kp1
     refine nt ?_
     refine sqr ?_
     refine Mp rfl ?_
     refine Mp rfl ?_
     refine Np rfl ?_
     refine L1 (fa95_2 rfl) ?_
     refine L1 (ld2 rfl (hW.F.cellv (by decide) hro)) ?_
     refine L1 (mkI107 rfl) ?_
     refine Np rfl ?_
     refine L1 (fa95_14 rfl) ?_
     refine Lst62 (v := .iface _ _) rfl rfl rfl hW.F (by decide) ?_
     intro w1 hb1 kp1
     have hW := hW.setF hE hb1 kp1
     have kp := kp.F kp1
     clear hb1 kp1
     refine nt ?_
     refine wp_seq ?_
     refine reg_still mixed (by kernel_rfl) ?_
     have hW := hW.drew
     have kp := kp.drew
     refine S1 (mv (v := .pointer _) rfl) ?_
     refine S1 (nilP rfl) ?_
     refine S1 (fa95_14 rfl) ?_
     refine S1 (ld62 rfl (hW.F.cellv (v := .iface _ _) (by decide) rfl)) ?_
     refine S1 (asg (v := .int _ _) rfl) ?_
     refine S1 (asg (v := .iface _ _) rfl) ?_
     refine still_nil ?_
     refine then_n ?_
     refine wp_ret ?_
     refine then_r ?_
     refine inb_r ?_
     refine then_r ?_
     refine inb_r ?_
     refine ret2 rfl rfl rfl ?_
     rw [hsym]
     exact ⟨_, rfl, _, kp, ⟨_, rfl⟩, hW, (((ho2.mono (by decide)).upd (by decide) _).upd (by decide) _).upd (by decide) _⟩
    ·skip
     rw [if_neg hz] at hsym
     have hv15 : v % 16 < 16 := Nat.mod_lt _ (by decide)
     refine skn ?_
     refine sqr ?_
     refine Mp rfl ?_
     refine Mi rfl ?_
     refine Mi rfl ?_
     refine L1 (bi rfl rfl (bn_and64u (x := v % 16) (by omega) (by omega))) ?_
     refine L1 (bi rfl rfl (bn_shr (n := v % 16) rfl rfl (by show v % 16 ≤ 32; omega))) ?_
     refine Np rfl ?_
     refine L1 (fa95_3 rfl) ?_
     refine Lst82 (v := .int _ _) rfl rfl rfl hW.F (by decide) ?_
     intro w1 hb1 kp1
     have hW := hW.setF hE hb1 kp1
     have kp := kp.F kp1
     clear hb1 kp1
     refine nt ?_
     refine sqr ?_
     refine Mp rfl ?_
     refine Mi rfl ?_
     refine Mi rfl ?_
     refine L1 (bi rfl rfl (bn_subu (c := ((8 * pos2 - p - v % 16 : Nat) : Int)) (by omega) (by omega) (by omega))) ?_
     refine Np rfl ?_
     refine L1 (fa95_4 rfl) ?_
     refine Lst38 (v := .int _ _) rfl rfl rfl hW.F (by decide) ?_
     intro w1 hb1 kp1
     have hW := hW.setF hE hb1 kp1
     have kp := kp.F kp1
     clear hb1 kp1
     refine nt ?_
     refine sqr ?_
     refine Mi rfl ?_
     refine L1 (bi rfl rfl (bn_shr (n := 4) rfl rfl (by decide))) ?_
     refine L1 (cv82_3 rfl (wrap_s64 _ (by omega) (by omega))) ?_
     refine Ai rfl ?_
     refine L1 (asg (v := .nilIface) rfl) ?_
     refine nt ?_
     refine wp_ret ?_
     refine inb_r ?_
     refine then_r ?_
     refine inb_r ?_
     refine ret2 rfl rfl rfl ?_
     rw [hsym]
     refine ⟨_, rfl, _, kp, rfl, hW, ⟨⟨_, hro⟩, ?_, ?_, by omega, by omega⟩, ((ho2.mono (by decide)).upd (by decide) _).upd (by decide) _⟩
     ·show Value.int .u32 _ = Value.int .u32 _
      rw [bv_shift _ _ _ _ (by omega), show 8 * pos2 - p - v % 16 = 8 * pos2 - (p + v % 16) by omega]
     ·show Value.int .u64 _ = Value.int .u64 _
      rw [show 8 * pos2 - p - v % 16 = 8 * pos2 - (p + v % 16) by omega]
   ·skip
    have hgt : v % 2 ^ 4 ≤ c.lk (E.D / 2 ^ p) % 16 := by
     have := hLk.gt (E.D / 2 ^ p) (8 * pos2 - p) hm2 (by show 8 * pos2 - p < c.lk (bv E.D p (8 * pos2 - p)) % 16; rw [hve]; omega)
     have e : c.lk (E.D / 2 ^ p % 2 ^ (8 * pos2 - p)) = v := hve
     rw [e] at this
     exact this
    refine wp_skip ?_
    refine inb_n ?_
    refine then_n ?_
    refine ⟨2 * (E.N - pos2), _, ?_, rfl, rfl, rfl, g2, pos2, _, rfl, rfl, rfl, hW, hro2, ho2, kp2, by rw [if_pos (by omega)]; rfl, by omega, by omega, hpq2, .inr ⟨by omega, by omega, hgt⟩, by omega⟩
    have hle3 := hW.rd.le
    split <;> omega
end Go.Proofs.YtejeloeaklpinaaDoor
namespace Go.Proofs.YtejeloeaklpinaaDoor
theorem undS9 : Tryd.prog.underlying 9 = some .string := by kernel_rfl
section
variable {ρ : Operand → Value} {d : Option Nat} {x y z : Operand} {ty : TypeId} {pos : String} {af : Array Edge} {gd : Option (Nat × Bool)} {w : World}
/-- A byte of a string. -/
theorem ixs {s : ByteArray} {k : IntKind} {i : Nat} {c : Nat} (hx : ρ x = .string s) (hy : ρ y = .int k (i : Int)) (hi : i < s.size) (hc : (s.data.getD i 0).toNat = c) : (execOp ρ ⟨d, .index 9 x y, ty, pos, af, gd⟩).run Tryd.prog w = .ok (.value (.int .u8 (c : Int))) w := by
 have := run_index_string (P := Tryd.prog) (w := w) 9 s k (i : Int) undS9
 rw [dif_pos (by omega)] at this
 have hs : i < s.data.size := hi
 have e : (s[((i : Int)).toNat]'(by rw [Int.toNat_natCast]; exact hi)).toNat = c := by
  rw [← hc]
  simp only [Int.toNat_natCast]
  rw [Array.getD_eq_getD_getElem?, Array.getElem?_eq_getElem hs]
  rfl
 rw [e] at this
 simp [execOp, hx, hy, this]
end
attribute [local irreducible] wpList wpStill wpMix Code.wp Calls fr
theorem reverse8_c (w : World) (x : Nat) (hx : x < 256) : Ret 57 [.int .u8 (x : Int)] w fun v w' => v = .int .u8 ((rev 8 x : Nat) : Int) ∧ w' = w := by
 refine calls_fr (N := 5) Tryd.func57 rfl rfl (by simp) rfl ?_
 refine sqr ?_
 refine Ai rfl ?_
 refine nt ?_
 refine sqr ?_
 refine Mi rfl ?_
 refine L1 (ixs (i := x) rfl rfl (Nat.lt_of_lt_of_eq hx (by kernel_rfl)) (c := rev 8 x) ?_) ?_
 ·revert hx
  revert x
  decide +kernel
 refine Ai rfl ?_
 refine nt ?_
 refine wp_ret ?_
 refine ret1 rfl rfl ?_
 exact ⟨_, rfl, rfl, rfl⟩
theorem rev8_5 : ∀ y, y < 32 → rev 8 (y * 8) = rev 5 y := by decide
end Go.Proofs.YtejeloeaklpinaaDoor
