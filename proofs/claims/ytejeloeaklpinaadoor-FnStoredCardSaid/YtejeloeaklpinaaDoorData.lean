/- Blocks that are as they stand: their bytes. Its walks are printed by gen/g_data.py. -/
import Derived.Test.YtejeloeaklpinaaDoorRep
namespace Go.Proofs.YtejeloeaklpinaaDoor
attribute [local irreducible] wpList wpStill wpMix Code.wp Calls fr
theorem rdf_short' (E : Env) (w : World) (pos : Nat) (hE : E.Ok) (hG : Gl E w) (hrd : Rd E w pos) (b o m c n : Nat) (t : TypeId) (gb : Nat → Value) (hb : Bk w b n t gb) (hbR : b ≠ E.R) (hbS : b ≠ E.S) (hbB : E.B ≤ b) (hm : o + m ≤ n) (hmc : m ≤ c) (hm0 : 0 < m) (hn : n < 1000000) (hp : E.N < pos + m) :
    Ret 49 [.iface 43 (.pointer (some ⟨E.R, 0, none⟩)), .slice (some ⟨b, o, none⟩) m c] w fun v w' => ∃ x, (x = E.aE ∨ x = E.aU) ∧ v = .tuple #[.int .i64 ((E.N - pos : Nat) : Int), .iface 131 (.pointer (some x))] ∧ Rd E w' E.N ∧ Bk w' b n t (cpd E gb o pos (E.N - pos)) ∧ Kp [E.R, b] w w' := by
  refine (rdf_short E w pos hE hG hrd b o m c n t gb hb hbR hbS hbB hm hmc hm0 hn hp).mono ?_
  rintro e w' ⟨v, rfl, rfl, h⟩
  by_cases h0 : E.N - pos = 0
  · rw [if_pos h0]; exact ⟨_, rfl, E.aE, .inl rfl, rfl, h⟩
  · rw [if_neg h0]; exact ⟨_, rfl, E.aU, .inr rfl, rfl, h⟩
theorem Wd.setHR {E : Env} {w w1 : World} {g hs bs cs g' : Nat → Value} {pos pos' : Nat} (h : Wd E w g hs bs cs pos) (hE : E.Ok) (hH : Bk w1 E.H 32768 5 g') (hR : Rd E w1 pos') (k : Kp [E.R, E.H] w w1) : Wd E w1 g g' bs cs pos' :=
  ⟨h.F.kp k (by simp; exact ⟨hE.FR, hE.FH⟩), hH, h.bt.kp k (by simp; exact ⟨fun e => hE.Rb e.symm, fun e => hE.Hb e.symm⟩), h.cb.kp k (by simp; exact ⟨fun e => hE.Rc e.symm, fun e => hE.Hc e.symm⟩),
    hR, h.gl.kp k (by simp; exact ⟨hE.bR, hE.bH⟩), ⟨Nat.lt_of_lt_of_le h.bu.1 k.size, Nat.lt_of_lt_of_le h.bu.2 k.size⟩⟩

theorem cd_short_b (E : Env) (w : World) (g hs bs cs : Nat → Value) (pos wr rd n : Nat) (full : Bool) (ro : Int) (hE : E.Ok) (hW : Wd E w g hs bs cs pos) (hS : Stc E g) (hD : DD E g wr rd full) (hro : g 2 = .int .i64 ro) (hl : g 1052 = .int .i64 n) (hw : wr < 32768) (hn : n ≤ 65535) (hle : pos ≤ E.N) (hb : 32768 - wr ≤ n) (hp : E.N < pos + (32768 - wr)) :
    Ret 52 [fp E] w fun v w' => v = .tuple #[] ∧ ∃ g', Wd E w' g' (cpd E hs wr pos (E.N - pos)) bs cs E.N ∧ g' 1048 = UEOFv E ∧ g' 1038 = .int .i64 ((wr + (E.N - pos) : Nat) : Int) ∧ Off [2, 1038, 1048, 1052] g g' ∧ Kp E.L w w' := by
  have kp := Kp.refl E.L w
  have hN := hE.N47
  refine calls_fr (N := 83) Tryd.func52 rfl rfl (by simp [fp]) rfl ?_
  refine wp_seq ?_
  -- region 0
  refine reg_lit ?_
  refine L1 (mv (v := .pointer _) rfl) ?_
  refine L1 (nilP rfl) ?_
  refine L1 (fa95_9 rfl) ?_
  refine LC (cl1 has63 rfl rfl) (writeSlice_c E _ g wr rd full hW.F hD hw) ?_
  rintro v w1 ⟨rfl, rfl⟩
  have hW := hW.drew
  have kp := kp.drew
  refine L1 (asg (v := .slice _ _ _) rfl) ?_
  refine wpList_nil ?_
  refine then_n ?_
  refine wp_seq ?_
  refine wp_seq ?_
  -- region 1
  refine reg_lit ?_
  refine L1 (mv (v := .slice _ _ _) rfl) ?_
  refine L1 (ln und22 rfl) ?_
  refine L1 (mv (v := .pointer _) rfl) ?_
  refine L1 (nilP rfl) ?_
  refine L1 (fa95_18 rfl) ?_
  refine L1 (ld3 rfl (hW.F.cellv (by decide) hl)) ?_
  refine L1 (bi rfl rfl (bn_gtr (v := false) (decide_eq_false (by omega)))) ?_
  refine wpList_nil ?_
  refine then_n ?_
  refine cond_f rfl ?_
  refine wp_skip ?_
  refine then_n ?_
  refine wp_seq ?_
  -- region 3
  refine reg_lit ?_
  refine L1 (mv (v := .pointer _) rfl) ?_
  refine L1 (nilP rfl) ?_
  refine L1 (fa95_0 rfl) ?_
  refine L1 (ld80 rfl (hW.F.cellv (by decide) hS.r)) ?_
  refine L1 (mv (v := .slice _ _ _) rfl) ?_
  refine LC (cl2 has49 rfl rfl rfl) (rdf_short' E _ pos hE hW.gl hW.rd E.H wr (32768 - wr) (32768 - wr) 32768 5 hs hW.H (fun e => hE.RH e.symm) (fun e => hE.SH e.symm) hE.bH (by omega) (by omega) (by omega) (by decide) (by omega)) ?_
  rintro v w1 ⟨ex, hex, rfl, hrd, hh, kp1⟩
  have hW := hW.setHR hE hh hrd kp1
  have kp := kp.trans (kp1.mono (by simp [Env.L]))
  clear kp1 hh hrd
  refine L1 (mv (v := .tuple _) rfl) ?_
  refine L1 (ext2_0 rfl) ?_
  refine L1 (ext2_1 rfl) ?_
  refine L1 (asg (v := .int _ _) rfl) ?_
  refine L1 (asg (v := .iface _ _) rfl) ?_
  refine wpList_nil ?_
  refine then_n ?_
  refine wp_seq ?_
  -- region 4
  refine reg_lit ?_
  refine L1 (mv (v := .pointer _) rfl) ?_
  refine L1 (nilP rfl) ?_
  refine L1 (fa95_2 rfl) ?_
  refine L1 (ld2 rfl (hW.F.cellv (by decide) hro)) ?_
  refine L1 (mv (v := .int _ _) rfl) ?_
  refine L1 (bi rfl rfl (bn_addw)) ?_
  refine L1 (nilP rfl) ?_
  refine L1 (fa95_2 rfl) ?_
  refine Lst2 (v := .int _ _) rfl rfl rfl hW.F (by decide) ?_
  intro w1 hb1 kp1
  have hW := hW.setF hE hb1 kp1
  have kp := kp.F kp1
  clear hb1 kp1
  refine wpList_nil ?_
  refine then_n ?_
  refine wp_seq ?_
  -- region 5
  refine reg_lit ?_
  refine L1 (mv (v := .pointer _) rfl) ?_
  refine L1 (nilP rfl) ?_
  refine L1 (fa95_18 rfl) ?_
  refine L1 (ld3 rfl (hW.F.cellv (by decide) hl)) ?_
  refine L1 (mv (v := .int _ _) rfl) ?_
  refine L1 (bi rfl rfl (bn_sub (c := ((n - (E.N - pos) : Nat) : Int)) (by omega) (by omega) (by omega))) ?_
  refine L1 (nilP rfl) ?_
  refine L1 (fa95_18 rfl) ?_
  refine Lst3 (v := .int _ _) rfl rfl rfl hW.F (by decide) ?_
  intro w1 hb1 kp1
  have hW := hW.setF hE hb1 kp1
  have kp := kp.F kp1
  clear hb1 kp1
  refine wpList_nil ?_
  refine then_n ?_
  refine wp_seq ?_
  -- region 6
  refine reg_lit ?_
  refine L1 (mv (v := .pointer _) rfl) ?_
  refine L1 (nilP rfl) ?_
  refine L1 (fa95_9 rfl) ?_
  refine L1 (mv (v := .int _ _) rfl) ?_
  refine LC (cl2 has64 rfl rfl rfl) (writeMark_c E _ _ wr rd full hW.F ⟨hD.hist, hD.wr, hD.rd, hD.full⟩ (E.N - pos) (by omega)) ?_
  rintro v w1 ⟨rfl, hb1, kp1⟩
  have hW := hW.setF hE hb1 kp1
  have kp := kp.F kp1
  clear hb1 kp1
  refine wpList_nil ?_
  refine then_n ?_
  refine wp_seq ?_
  refine wp_seq ?_
  -- region 7
  refine reg_lit ?_
  refine L1 (mv (v := .iface _ _) rfl) ?_
  refine L1 (en_held rfl rfl) ?_
  refine wpList_nil ?_
  refine then_n ?_
  refine cond_t rfl ?_
  refine wp_seq ?_
  -- region 8
  refine reg_lit ?_
  refine L1 (mv (v := .pointer _) rfl) ?_
  refine L1 (mv (v := .iface _ _) rfl) ?_
  refine LC (cl1 has48 rfl rfl) (noEOF_any E _ hW.gl ex hex) ?_
  rintro v w1 ⟨rfl, rfl⟩
  refine L1 (nilP rfl) ?_
  refine L1 (fa95_14 rfl) ?_
  refine Lst62 (v := (UEOFv E)) rfl rfl rfl hW.F (by decide) ?_
  intro w1 hb1 kp1
  have hW := hW.setF hE hb1 kp1
  have kp := kp.F kp1
  clear hb1 kp1
  refine wpList_nil ?_
  refine then_n ?_
  refine wp_ret ?_
  refine then_r ?_
  refine ret0 rfl ?_
  exact ⟨_, rfl, rfl, _, hW, rfl, rfl, ((((Off.refl _ g).upd (by simp) _).upd (by simp) _).upd (by simp) _).upd (by simp) _, kp⟩
theorem cd_short_s (E : Env) (w : World) (g hs bs cs : Nat → Value) (pos wr rd n : Nat) (full : Bool) (ro : Int) (hE : E.Ok) (hW : Wd E w g hs bs cs pos) (hS : Stc E g) (hD : DD E g wr rd full) (hro : g 2 = .int .i64 ro) (hl : g 1052 = .int .i64 n) (hw : wr < 32768) (hn : n ≤ 65535) (hle : pos ≤ E.N) (hb : n < 32768 - wr) (hp : E.N < pos + n) :
    Ret 52 [fp E] w fun v w' => v = .tuple #[] ∧ ∃ g', Wd E w' g' (cpd E hs wr pos (E.N - pos)) bs cs E.N ∧ g' 1048 = UEOFv E ∧ g' 1038 = .int .i64 ((wr + (E.N - pos) : Nat) : Int) ∧ Off [2, 1038, 1048, 1052] g g' ∧ Kp E.L w w' := by
  have kp := Kp.refl E.L w
  have hN := hE.N47
  refine calls_fr (N := 83) Tryd.func52 rfl rfl (by simp [fp]) rfl ?_
  refine wp_seq ?_
  -- region 0
  refine reg_lit ?_
  refine L1 (mv (v := .pointer _) rfl) ?_
  refine L1 (nilP rfl) ?_
  refine L1 (fa95_9 rfl) ?_
  refine LC (cl1 has63 rfl rfl) (writeSlice_c E _ g wr rd full hW.F hD hw) ?_
  rintro v w1 ⟨rfl, rfl⟩
  have hW := hW.drew
  have kp := kp.drew
  refine L1 (asg (v := .slice _ _ _) rfl) ?_
  refine wpList_nil ?_
  refine then_n ?_
  refine wp_seq ?_
  refine wp_seq ?_
  -- region 1
  refine reg_lit ?_
  refine L1 (mv (v := .slice _ _ _) rfl) ?_
  refine L1 (ln und22 rfl) ?_
  refine L1 (mv (v := .pointer _) rfl) ?_
  refine L1 (nilP rfl) ?_
  refine L1 (fa95_18 rfl) ?_
  refine L1 (ld3 rfl (hW.F.cellv (by decide) hl)) ?_
  refine L1 (bi rfl rfl (bn_gtr (v := true) (decide_eq_true (by omega)))) ?_
  refine wpList_nil ?_
  refine then_n ?_
  refine cond_t rfl ?_
  -- region 2
  refine reg_lit ?_
  refine L1 (mv (v := .slice _ _ _) rfl) ?_
  refine L1 (mv (v := .pointer _) rfl) ?_
  refine L1 (nilP rfl) ?_
  refine L1 (fa95_18 rfl) ?_
  refine L1 (ld3 rfl (hW.F.cellv (by decide) hl)) ?_
  refine L1 (sl_h und22 sz5 rfl rfl rfl (by omega)) ?_
  refine L1 (asg (v := .slice _ _ _) rfl) ?_
  refine wpList_nil ?_
  refine then_n ?_
  refine wp_seq ?_
  -- region 3
  refine reg_lit ?_
  refine L1 (mv (v := .pointer _) rfl) ?_
  refine L1 (nilP rfl) ?_
  refine L1 (fa95_0 rfl) ?_
  refine L1 (ld80 rfl (hW.F.cellv (by decide) hS.r)) ?_
  refine L1 (mv (v := .slice _ _ _) rfl) ?_
  refine LC (cl2 has49 rfl rfl rfl) (rdf_short' E _ pos hE hW.gl hW.rd E.H wr n (32768 - wr) 32768 5 hs hW.H (fun e => hE.RH e.symm) (fun e => hE.SH e.symm) hE.bH (by omega) (by omega) (by omega) (by decide) (by omega)) ?_
  rintro v w1 ⟨ex, hex, rfl, hrd, hh, kp1⟩
  have hW := hW.setHR hE hh hrd kp1
  have kp := kp.trans (kp1.mono (by simp [Env.L]))
  clear kp1 hh hrd
  refine L1 (mv (v := .tuple _) rfl) ?_
  refine L1 (ext2_0 rfl) ?_
  refine L1 (ext2_1 rfl) ?_
  refine L1 (asg (v := .int _ _) rfl) ?_
  refine L1 (asg (v := .iface _ _) rfl) ?_
  refine wpList_nil ?_
  refine then_n ?_
  refine wp_seq ?_
  -- region 4
  refine reg_lit ?_
  refine L1 (mv (v := .pointer _) rfl) ?_
  refine L1 (nilP rfl) ?_
  refine L1 (fa95_2 rfl) ?_
  refine L1 (ld2 rfl (hW.F.cellv (by decide) hro)) ?_
  refine L1 (mv (v := .int _ _) rfl) ?_
  refine L1 (bi rfl rfl (bn_addw)) ?_
  refine L1 (nilP rfl) ?_
  refine L1 (fa95_2 rfl) ?_
  refine Lst2 (v := .int _ _) rfl rfl rfl hW.F (by decide) ?_
  intro w1 hb1 kp1
  have hW := hW.setF hE hb1 kp1
  have kp := kp.F kp1
  clear hb1 kp1
  refine wpList_nil ?_
  refine then_n ?_
  refine wp_seq ?_
  -- region 5
  refine reg_lit ?_
  refine L1 (mv (v := .pointer _) rfl) ?_
  refine L1 (nilP rfl) ?_
  refine L1 (fa95_18 rfl) ?_
  refine L1 (ld3 rfl (hW.F.cellv (by decide) hl)) ?_
  refine L1 (mv (v := .int _ _) rfl) ?_
  refine L1 (bi rfl rfl (bn_sub (c := ((n - (E.N - pos) : Nat) : Int)) (by omega) (by omega) (by omega))) ?_
  refine L1 (nilP rfl) ?_
  refine L1 (fa95_18 rfl) ?_
  refine Lst3 (v := .int _ _) rfl rfl rfl hW.F (by decide) ?_
  intro w1 hb1 kp1
  have hW := hW.setF hE hb1 kp1
  have kp := kp.F kp1
  clear hb1 kp1
  refine wpList_nil ?_
  refine then_n ?_
  refine wp_seq ?_
  -- region 6
  refine reg_lit ?_
  refine L1 (mv (v := .pointer _) rfl) ?_
  refine L1 (nilP rfl) ?_
  refine L1 (fa95_9 rfl) ?_
  refine L1 (mv (v := .int _ _) rfl) ?_
  refine LC (cl2 has64 rfl rfl rfl) (writeMark_c E _ _ wr rd full hW.F ⟨hD.hist, hD.wr, hD.rd, hD.full⟩ (E.N - pos) (by omega)) ?_
  rintro v w1 ⟨rfl, hb1, kp1⟩
  have hW := hW.setF hE hb1 kp1
  have kp := kp.F kp1
  clear hb1 kp1
  refine wpList_nil ?_
  refine then_n ?_
  refine wp_seq ?_
  refine wp_seq ?_
  -- region 7
  refine reg_lit ?_
  refine L1 (mv (v := .iface _ _) rfl) ?_
  refine L1 (en_held rfl rfl) ?_
  refine wpList_nil ?_
  refine then_n ?_
  refine cond_t rfl ?_
  refine wp_seq ?_
  -- region 8
  refine reg_lit ?_
  refine L1 (mv (v := .pointer _) rfl) ?_
  refine L1 (mv (v := .iface _ _) rfl) ?_
  refine LC (cl1 has48 rfl rfl) (noEOF_any E _ hW.gl ex hex) ?_
  rintro v w1 ⟨rfl, rfl⟩
  refine L1 (nilP rfl) ?_
  refine L1 (fa95_14 rfl) ?_
  refine Lst62 (v := (UEOFv E)) rfl rfl rfl hW.F (by decide) ?_
  intro w1 hb1 kp1
  have hW := hW.setF hE hb1 kp1
  have kp := kp.F kp1
  clear hb1 kp1
  refine wpList_nil ?_
  refine then_n ?_
  refine wp_ret ?_
  refine then_r ?_
  refine ret0 rfl ?_
  exact ⟨_, rfl, rfl, _, hW, rfl, rfl, ((((Off.refl _ g).upd (by simp) _).upd (by simp) _).upd (by simp) _).upd (by simp) _, kp⟩
theorem Dw.push {E : Env} {g g' : Nat → Value} {n fl wr : Nat} {L : List Nat} (h : Dw E g n fl wr) (k : Nat) (h1 : g' 1038 = .int .i64 ((wr + k : Nat) : Int)) (hk : wr + k ≤ 32768) (o : Off L g g') (h0 : 1037 ∉ L ∧ 1039 ∉ L ∧ 1040 ∉ L) : Dw E g' (n + k) fl (wr + k) := by
  obtain ⟨q, rd, e1, e2, e3, e4, e5⟩ := h
  exact ⟨q, rd, by omega, by omega, by omega, e4, (o _ h0.1).trans e5.hist, h1, (o _ h0.2.1).trans e5.rd, (o _ h0.2.2).trans e5.full⟩
theorem cd_full (E : Env) (w : World) (g hs bs cs : Nat → Value) (pos wr rd n : Nat) (full : Bool) (ro : Int) (hE : E.Ok) (hW : Wd E w g hs bs cs pos) (hS : Stc E g) (hD : DD E g wr rd full) (hro : g 2 = .int .i64 ro) (hl : g 1052 = .int .i64 n) (hw : wr < 32768) (hn : n ≤ 65535) (hle : pos ≤ E.N) (hb : 32768 - wr ≤ n) (hp : pos + (32768 - wr) ≤ E.N) (no fl0 : Nat) (hDw : Dw E g no fl0 wr) :
    Ret 52 [fp E] w fun v w' => v = .tuple #[] ∧ ∃ g', Wd E w' g' (cpd E hs wr pos (32768 - wr)) bs cs (pos + (32768 - wr)) ∧ (∃ x, g' 2 = .int .i64 x) ∧ g' 1045 = fnv 52 ∧ g' 1052 = .int .i64 ((n - (32768 - wr) : Nat) : Int) ∧ Dw E g' (no + (32768 - wr)) (no + (32768 - wr)) (nx (wr + (32768 - wr))) ∧ TR E g' fl0 (no + (32768 - wr)) ∧ Off [2, 1052, 1038, 1039, 1040, 1045, 1049] g g' ∧ Kp E.L w w' := by
  have kp := Kp.refl E.L w
  have hN := hE.N47
  refine calls_fr (N := 83) Tryd.func52 rfl rfl (by simp [fp]) rfl ?_
  refine wp_seq ?_
  -- region 0
  refine reg_lit ?_
  refine L1 (mv (v := .pointer _) rfl) ?_
  refine L1 (nilP rfl) ?_
  refine L1 (fa95_9 rfl) ?_
  refine LC (cl1 has63 rfl rfl) (writeSlice_c E _ g wr rd full hW.F hD hw) ?_
  rintro v w1 ⟨rfl, rfl⟩
  have hW := hW.drew
  have kp := kp.drew
  refine L1 (asg (v := .slice _ _ _) rfl) ?_
  refine wpList_nil ?_
  refine then_n ?_
  refine wp_seq ?_
  refine wp_seq ?_
  -- region 1
  refine reg_lit ?_
  refine L1 (mv (v := .slice _ _ _) rfl) ?_
  refine L1 (ln und22 rfl) ?_
  refine L1 (mv (v := .pointer _) rfl) ?_
  refine L1 (nilP rfl) ?_
  refine L1 (fa95_18 rfl) ?_
  refine L1 (ld3 rfl (hW.F.cellv (by decide) hl)) ?_
  refine L1 (bi rfl rfl (bn_gtr (v := false) (decide_eq_false (by omega)))) ?_
  refine wpList_nil ?_
  refine then_n ?_
  refine cond_f rfl ?_
  refine wp_skip ?_
  refine then_n ?_
  refine wp_seq ?_
  -- region 3
  refine reg_lit ?_
  refine L1 (mv (v := .pointer _) rfl) ?_
  refine L1 (nilP rfl) ?_
  refine L1 (fa95_0 rfl) ?_
  refine L1 (ld80 rfl (hW.F.cellv (by decide) hS.r)) ?_
  refine L1 (mv (v := .slice _ _ _) rfl) ?_
  refine LC (cl2 has49 rfl rfl rfl) (rdf_ok E _ pos hE hW.gl hW.rd E.H wr (32768 - wr) (32768 - wr) 32768 5 hs hW.H (fun e => hE.RH e.symm) (fun e => hE.SH e.symm) hE.bH (by omega) (by omega) (by omega) (by decide) (by omega)) ?_
  rintro v w1 ⟨rfl, hrd, hh, kp1⟩
  have hW := hW.setHR hE hh hrd kp1
  have kp := kp.trans (kp1.mono (by simp [Env.L]))
  clear kp1 hh hrd
  refine L1 (mv (v := .tuple _) rfl) ?_
  refine L1 (ext2_0 rfl) ?_
  refine L1 (ext2_1 rfl) ?_
  refine L1 (asg (v := .int _ _) rfl) ?_
  refine L1 (asg (v := .nilIface) rfl) ?_
  refine wpList_nil ?_
  refine then_n ?_
  refine wp_seq ?_
  -- region 4
  refine reg_lit ?_
  refine L1 (mv (v := .pointer _) rfl) ?_
  refine L1 (nilP rfl) ?_
  refine L1 (fa95_2 rfl) ?_
  refine L1 (ld2 rfl (hW.F.cellv (by decide) hro)) ?_
  refine L1 (mv (v := .int _ _) rfl) ?_
  refine L1 (bi rfl rfl (bn_addw)) ?_
  refine L1 (nilP rfl) ?_
  refine L1 (fa95_2 rfl) ?_
  refine Lst2 (v := .int _ _) rfl rfl rfl hW.F (by decide) ?_
  intro w1 hb1 kp1
  have hW := hW.setF hE hb1 kp1
  have kp := kp.F kp1
  clear hb1 kp1
  refine wpList_nil ?_
  refine then_n ?_
  refine wp_seq ?_
  -- region 5
  refine reg_lit ?_
  refine L1 (mv (v := .pointer _) rfl) ?_
  refine L1 (nilP rfl) ?_
  refine L1 (fa95_18 rfl) ?_
  refine L1 (ld3 rfl (hW.F.cellv (by decide) hl)) ?_
  refine L1 (mv (v := .int _ _) rfl) ?_
  refine L1 (bi rfl rfl (bn_sub (c := ((n - (32768 - wr) : Nat) : Int)) (by omega) (by omega) (by omega))) ?_
  refine L1 (nilP rfl) ?_
  refine L1 (fa95_18 rfl) ?_
  refine Lst3 (v := .int _ _) rfl rfl rfl hW.F (by decide) ?_
  intro w1 hb1 kp1
  have hW := hW.setF hE hb1 kp1
  have kp := kp.F kp1
  clear hb1 kp1
  refine wpList_nil ?_
  refine then_n ?_
  refine wp_seq ?_
  -- region 6
  refine reg_lit ?_
  refine L1 (mv (v := .pointer _) rfl) ?_
  refine L1 (nilP rfl) ?_
  refine L1 (fa95_9 rfl) ?_
  refine L1 (mv (v := .int _ _) rfl) ?_
  refine LC (cl2 has64 rfl rfl rfl) (writeMark_c E _ _ wr rd full hW.F ⟨hD.hist, hD.wr, hD.rd, hD.full⟩ (32768 - wr) (by omega)) ?_
  rintro v w1 ⟨rfl, hb1, kp1⟩
  have hW := hW.setF hE hb1 kp1
  have kp := kp.F kp1
  clear hb1 kp1
  refine wpList_nil ?_
  refine then_n ?_
  refine wp_seq ?_
  refine wp_seq ?_
  -- region 7
  refine reg_lit ?_
  refine L1 (mv (v := .nilIface) rfl) ?_
  refine L1 (en_nil rfl rfl) ?_
  refine wpList_nil ?_
  refine then_n ?_
  refine cond_f rfl ?_
  refine wp_skip ?_
  refine then_n ?_
  refine wp_seq ?_
  refine wp_seq ?_
  -- region 9
  refine reg_lit ?_
  refine L1 (mv (v := .pointer _) rfl) ?_
  refine L1 (nilP rfl) ?_
  refine L1 (fa95_9 rfl) ?_
  refine LC (cl1 has56 rfl rfl) (availWrite_c E _ _ (wr + (32768 - wr)) rd full hW.F ⟨hD.hist, rfl, hD.rd, hD.full⟩ (by omega)) ?_
  rintro v w1 ⟨rfl, rfl⟩
  have hW := hW.drew
  have kp := kp.drew
  refine L1 (bi rfl rfl (bn_eql (v := true) (decide_eq_true (by omega)))) ?_
  refine L1 (mv (v := .bool _) rfl) ?_
  refine Lskip (t := 64) (b := false) rfl (by decide) rfl ?_
  refine Lskip (t := 64) (b := false) rfl (by decide) rfl ?_
  refine Lskip (t := 64) (b := false) rfl (by decide) rfl ?_
  refine Lskip (t := 64) (b := false) rfl (by decide) rfl ?_
  refine Lskip (t := 64) (b := false) rfl (by decide) rfl ?_
  refine L1 (pk_t rfl rfl) ?_
  refine wpList_nil ?_
  refine then_n ?_
  refine cond_t rfl ?_
  refine wp_seq ?_
  -- region 10
  refine reg_lit ?_
  refine L1 (mv (v := .pointer _) rfl) ?_
  refine L1 (mv (v := .pointer _) rfl) ?_
  refine L1 (nilP rfl) ?_
  refine L1 (fa95_9 rfl) ?_
  refine LC (cl1 has50 rfl rfl) (rf_c E _ _ (cpd E hs wr pos (32768 - wr)) bs cs (pos + (32768 - wr)) (no + (32768 - wr)) fl0 (wr + (32768 - wr)) hE hW (hDw.push _ rfl (by omega) ((((Off.refl [2, 1052, 1038] g).upd (by simp) _).upd (by simp) _).upd (by simp) _) (by decide))) ?_
  rintro v w1 ⟨hv, g1, hW, hD1, ho, kp1⟩
  have kp := kp.trans kp1
  refine L1 (nilP rfl) ?_
  refine L1 (fa95_15 rfl) ?_
  refine Lst22 (v := v) rfl rfl (by obtain ⟨_, _, _, rfl, _⟩ := hv; rfl) hW.F (by decide) ?_
  intro w1 hb1 kp1
  have hW := hW.setF hE hb1 kp1
  have kp := kp.F kp1
  refine wpList_nil ?_
  refine then_n ?_
  refine wp_seq ?_
  -- region 11
  refine reg_lit ?_
  refine L1 (mv (v := .pointer _) rfl) ?_
  refine L1 (nilP rfl) ?_
  refine L1 (fa95_11 rfl) ?_
  refine Lst92 (v := .func _ _ _) rfl rfl rfl hW.F (by decide) ?_
  intro w1 hb1 kp1
  have hW := hW.setF hE hb1 kp1
  have kp := kp.F kp1
  clear hb1 kp1
  refine wpList_nil ?_
  refine then_n ?_
  refine wp_ret ?_
  refine then_r ?_
  refine ret0 rfl ?_
  refine ⟨_, rfl, rfl, _, hW, ⟨_, (ho _ (by decide)).trans rfl⟩, rfl, ?_, hD1.off (((Off.refl [1045, 1049] g1).upd (by decide) _).upd (by decide) _) (by decide), hv, ?_, kp⟩
  · exact ((ho _ (by decide)).trans rfl : g1 1052 = Value.int .i64 ((n - (32768 - wr) : Nat) : Int))
  · exact ((((((Off.refl [2, 1052, 1038, 1039, 1040, 1045, 1049] g).upd (by decide) _).upd (by decide) _).upd (by decide) _).trans (ho.mono (by simp))).upd (by decide) _).upd (by decide) _
theorem cd_end_ok_more (E : Env) (w : World) (g hs bs cs : Nat → Value) (pos wr rd n : Nat) (full : Bool) (ro : Int) (hE : E.Ok) (hW : Wd E w g hs bs cs pos) (hS : Stc E g) (hD : DD E g wr rd full) (hro : g 2 = .int .i64 ro) (hl : g 1052 = .int .i64 n) (hw : wr < 32768) (hn : n ≤ 65535) (hle : pos ≤ E.N) (hb : n < 32768 - wr) (hp : pos + n ≤ E.N) (hz : 0 < n) (no fl0 : Nat) (hDw : Dw E g no fl0 wr) (hf : g 1047 = .bool false) :
    Ret 52 [fp E] w fun v w' => v = .tuple #[] ∧ ∃ g', Wd E w' g' (cpd E hs wr pos n) bs cs (pos + n) ∧ (∃ x, g' 2 = .int .i64 x) ∧ g' 1045 = fnv 35 ∧ g' 1052 = .int .i64 0 ∧ Dw E g' (no + n) fl0 (wr + n) ∧ Off [2, 1052, 1038, 1045] g g' ∧ Kp E.L w w' := by
  have kp := Kp.refl E.L w
  have hN := hE.N47
  refine calls_fr (N := 83) Tryd.func52 rfl rfl (by simp [fp]) rfl ?_
  refine wp_seq ?_
  -- region 0
  refine reg_lit ?_
  refine L1 (mv (v := .pointer _) rfl) ?_
  refine L1 (nilP rfl) ?_
  refine L1 (fa95_9 rfl) ?_
  refine LC (cl1 has63 rfl rfl) (writeSlice_c E _ g wr rd full hW.F hD hw) ?_
  rintro v w1 ⟨rfl, rfl⟩
  have hW := hW.drew
  have kp := kp.drew
  refine L1 (asg (v := .slice _ _ _) rfl) ?_
  refine wpList_nil ?_
  refine then_n ?_
  refine wp_seq ?_
  refine wp_seq ?_
  -- region 1
  refine reg_lit ?_
  refine L1 (mv (v := .slice _ _ _) rfl) ?_
  refine L1 (ln und22 rfl) ?_
  refine L1 (mv (v := .pointer _) rfl) ?_
  refine L1 (nilP rfl) ?_
  refine L1 (fa95_18 rfl) ?_
  refine L1 (ld3 rfl (hW.F.cellv (by decide) hl)) ?_
  refine L1 (bi rfl rfl (bn_gtr (v := true) (decide_eq_true (by omega)))) ?_
  refine wpList_nil ?_
  refine then_n ?_
  refine cond_t rfl ?_
  -- region 2
  refine reg_lit ?_
  refine L1 (mv (v := .slice _ _ _) rfl) ?_
  refine L1 (mv (v := .pointer _) rfl) ?_
  refine L1 (nilP rfl) ?_
  refine L1 (fa95_18 rfl) ?_
  refine L1 (ld3 rfl (hW.F.cellv (by decide) hl)) ?_
  refine L1 (sl_h und22 sz5 rfl rfl rfl (by omega)) ?_
  refine L1 (asg (v := .slice _ _ _) rfl) ?_
  refine wpList_nil ?_
  refine then_n ?_
  refine wp_seq ?_
  -- region 3
  refine reg_lit ?_
  refine L1 (mv (v := .pointer _) rfl) ?_
  refine L1 (nilP rfl) ?_
  refine L1 (fa95_0 rfl) ?_
  refine L1 (ld80 rfl (hW.F.cellv (by decide) hS.r)) ?_
  refine L1 (mv (v := .slice _ _ _) rfl) ?_
  refine LC (cl2 has49 rfl rfl rfl) (rdf_ok E _ pos hE hW.gl hW.rd E.H wr n (32768 - wr) 32768 5 hs hW.H (fun e => hE.RH e.symm) (fun e => hE.SH e.symm) hE.bH (by omega) (by omega) (by omega) (by decide) (by omega)) ?_
  rintro v w1 ⟨rfl, hrd, hh, kp1⟩
  have hW := hW.setHR hE hh hrd kp1
  have kp := kp.trans (kp1.mono (by simp [Env.L]))
  clear kp1 hh hrd
  refine L1 (mv (v := .tuple _) rfl) ?_
  refine L1 (ext2_0 rfl) ?_
  refine L1 (ext2_1 rfl) ?_
  refine L1 (asg (v := .int _ _) rfl) ?_
  refine L1 (asg (v := .nilIface) rfl) ?_
  refine wpList_nil ?_
  refine then_n ?_
  refine wp_seq ?_
  -- region 4
  refine reg_lit ?_
  refine L1 (mv (v := .pointer _) rfl) ?_
  refine L1 (nilP rfl) ?_
  refine L1 (fa95_2 rfl) ?_
  refine L1 (ld2 rfl (hW.F.cellv (by decide) hro)) ?_
  refine L1 (mv (v := .int _ _) rfl) ?_
  refine L1 (bi rfl rfl (bn_addw)) ?_
  refine L1 (nilP rfl) ?_
  refine L1 (fa95_2 rfl) ?_
  refine Lst2 (v := .int _ _) rfl rfl rfl hW.F (by decide) ?_
  intro w1 hb1 kp1
  have hW := hW.setF hE hb1 kp1
  have kp := kp.F kp1
  clear hb1 kp1
  refine wpList_nil ?_
  refine then_n ?_
  refine wp_seq ?_
  -- region 5
  refine reg_lit ?_
  refine L1 (mv (v := .pointer _) rfl) ?_
  refine L1 (nilP rfl) ?_
  refine L1 (fa95_18 rfl) ?_
  refine L1 (ld3 rfl (hW.F.cellv (by decide) hl)) ?_
  refine L1 (mv (v := .int _ _) rfl) ?_
  refine L1 (bi rfl rfl (bn_sub (c := ((n - n : Nat) : Int)) (by omega) (by omega) (by omega))) ?_
  refine L1 (nilP rfl) ?_
  refine L1 (fa95_18 rfl) ?_
  refine Lst3 (v := .int _ _) rfl rfl rfl hW.F (by decide) ?_
  intro w1 hb1 kp1
  have hW := hW.setF hE hb1 kp1
  have kp := kp.F kp1
  clear hb1 kp1
  refine wpList_nil ?_
  refine then_n ?_
  refine wp_seq ?_
  -- region 6
  refine reg_lit ?_
  refine L1 (mv (v := .pointer _) rfl) ?_
  refine L1 (nilP rfl) ?_
  refine L1 (fa95_9 rfl) ?_
  refine L1 (mv (v := .int _ _) rfl) ?_
  refine LC (cl2 has64 rfl rfl rfl) (writeMark_c E _ _ wr rd full hW.F ⟨hD.hist, hD.wr, hD.rd, hD.full⟩ n (by omega)) ?_
  rintro v w1 ⟨rfl, hb1, kp1⟩
  have hW := hW.setF hE hb1 kp1
  have kp := kp.F kp1
  clear hb1 kp1
  refine wpList_nil ?_
  refine then_n ?_
  refine wp_seq ?_
  refine wp_seq ?_
  -- region 7
  refine reg_lit ?_
  refine L1 (mv (v := .nilIface) rfl) ?_
  refine L1 (en_nil rfl rfl) ?_
  refine wpList_nil ?_
  refine then_n ?_
  refine cond_f rfl ?_
  refine wp_skip ?_
  refine then_n ?_
  refine wp_seq ?_
  refine wp_seq ?_
  -- region 9
  refine reg_lit ?_
  refine L1 (mv (v := .pointer _) rfl) ?_
  refine L1 (nilP rfl) ?_
  refine L1 (fa95_9 rfl) ?_
  refine LC (cl1 has56 rfl rfl) (availWrite_c E _ _ (wr + n) rd full hW.F ⟨hD.hist, rfl, hD.rd, hD.full⟩ (by omega)) ?_
  rintro v w1 ⟨rfl, rfl⟩
  have hW := hW.drew
  have kp := kp.drew
  refine L1 (bi rfl rfl (bn_eql (v := false) (decide_eq_false (by omega)))) ?_
  refine L1 (mv (v := .bool _) rfl) ?_
  refine L1g (t := 64) (b := false) rfl (by decide) rfl (mv (v := .pointer _) rfl) ?_
  refine L1g (t := 64) (b := false) rfl (by decide) rfl (nilP rfl) ?_
  refine L1g (t := 64) (b := false) rfl (by decide) rfl (fa95_18 rfl) ?_
  refine L1g (t := 64) (b := false) rfl (by decide) rfl (ld3 rfl (hW.F.cellv (v := .int _ _) (by decide) rfl)) ?_
  refine L1g (t := 64) (b := false) rfl (by decide) rfl (bi rfl rfl (bn_gtr (v := false) (decide_eq_false (by omega)))) ?_
  refine L1 (pk_f rfl rfl) ?_
  refine wpList_nil ?_
  refine then_n ?_
  refine cond_f rfl ?_
  refine wp_skip ?_
  refine then_n ?_
  -- region 12
  refine reg_lit ?_
  refine L1 (mv (v := .pointer _) rfl) ?_
  refine LC (cl1 has51 rfl rfl) (finish_more E _ _ (cpd E hs wr pos n) bs cs (pos + n) hE hW hf) ?_
  rintro v w1 ⟨rfl, g1, hW, h45, ho, kp1⟩
  have kp := kp.trans kp1
  refine wpList_nil ?_
  refine end0 rfl ?_
  refine ⟨_, rfl, rfl, g1, hW, ⟨_, (ho _ (by decide)).trans rfl⟩, h45, ?_, ?_, ?_, kp⟩
  · exact ((ho _ (by decide)).trans rfl : g1 1052 = Value.int .i64 ((n - n : Nat) : Int)).trans (by rw [show n - n = 0 by omega]; rfl)
  · exact (hDw.push n rfl (by omega) ((((Off.refl [2, 1052, 1038] g).upd (by simp) _).upd (by simp) _).upd (by simp) _) (by decide)).off ho (by decide)
  · exact (((((Off.refl [2, 1052, 1038] g).upd (by simp) _).upd (by simp) _).upd (by simp) _).mono (by decide)).trans (ho.mono (by decide))
theorem cd_end_ok_last (E : Env) (w : World) (g hs bs cs : Nat → Value) (pos wr rd n : Nat) (full : Bool) (ro : Int) (hE : E.Ok) (hW : Wd E w g hs bs cs pos) (hS : Stc E g) (hD : DD E g wr rd full) (hro : g 2 = .int .i64 ro) (hl : g 1052 = .int .i64 n) (hw : wr < 32768) (hn : n ≤ 65535) (hle : pos ≤ E.N) (hb : n < 32768 - wr) (hp : pos + n ≤ E.N) (hz : 0 < n) (no fl0 : Nat) (hDw : Dw E g no fl0 wr) (hf : g 1047 = .bool true) (hT : TR E g fl0 fl0) :
    Ret 52 [fp E] w fun v w' => v = .tuple #[] ∧ ∃ g', Wd E w' g' (cpd E hs wr pos n) bs cs (pos + n) ∧ g' 1048 = EOFv E ∧ Dw E g' (no + n) (no + n) (nx (wr + n)) ∧ TR E g' fl0 (no + n) ∧ Off [2, 1052, 1038, 1039, 1040, 1045, 1048, 1049] g g' ∧ Kp E.L w w' := by
  have kp := Kp.refl E.L w
  have hN := hE.N47
  refine calls_fr (N := 83) Tryd.func52 rfl rfl (by simp [fp]) rfl ?_
  refine wp_seq ?_
  -- region 0
  refine reg_lit ?_
  refine L1 (mv (v := .pointer _) rfl) ?_
  refine L1 (nilP rfl) ?_
  refine L1 (fa95_9 rfl) ?_
  refine LC (cl1 has63 rfl rfl) (writeSlice_c E _ g wr rd full hW.F hD hw) ?_
  rintro v w1 ⟨rfl, rfl⟩
  have hW := hW.drew
  have kp := kp.drew
  refine L1 (asg (v := .slice _ _ _) rfl) ?_
  refine wpList_nil ?_
  refine then_n ?_
  refine wp_seq ?_
  refine wp_seq ?_
  -- region 1
  refine reg_lit ?_
  refine L1 (mv (v := .slice _ _ _) rfl) ?_
  refine L1 (ln und22 rfl) ?_
  refine L1 (mv (v := .pointer _) rfl) ?_
  refine L1 (nilP rfl) ?_
  refine L1 (fa95_18 rfl) ?_
  refine L1 (ld3 rfl (hW.F.cellv (by decide) hl)) ?_
  refine L1 (bi rfl rfl (bn_gtr (v := true) (decide_eq_true (by omega)))) ?_
  refine wpList_nil ?_
  refine then_n ?_
  refine cond_t rfl ?_
  -- region 2
  refine reg_lit ?_
  refine L1 (mv (v := .slice _ _ _) rfl) ?_
  refine L1 (mv (v := .pointer _) rfl) ?_
  refine L1 (nilP rfl) ?_
  refine L1 (fa95_18 rfl) ?_
  refine L1 (ld3 rfl (hW.F.cellv (by decide) hl)) ?_
  refine L1 (sl_h und22 sz5 rfl rfl rfl (by omega)) ?_
  refine L1 (asg (v := .slice _ _ _) rfl) ?_
  refine wpList_nil ?_
  refine then_n ?_
  refine wp_seq ?_
  -- region 3
  refine reg_lit ?_
  refine L1 (mv (v := .pointer _) rfl) ?_
  refine L1 (nilP rfl) ?_
  refine L1 (fa95_0 rfl) ?_
  refine L1 (ld80 rfl (hW.F.cellv (by decide) hS.r)) ?_
  refine L1 (mv (v := .slice _ _ _) rfl) ?_
  refine LC (cl2 has49 rfl rfl rfl) (rdf_ok E _ pos hE hW.gl hW.rd E.H wr n (32768 - wr) 32768 5 hs hW.H (fun e => hE.RH e.symm) (fun e => hE.SH e.symm) hE.bH (by omega) (by omega) (by omega) (by decide) (by omega)) ?_
  rintro v w1 ⟨rfl, hrd, hh, kp1⟩
  have hW := hW.setHR hE hh hrd kp1
  have kp := kp.trans (kp1.mono (by simp [Env.L]))
  clear kp1 hh hrd
  refine L1 (mv (v := .tuple _) rfl) ?_
  refine L1 (ext2_0 rfl) ?_
  refine L1 (ext2_1 rfl) ?_
  refine L1 (asg (v := .int _ _) rfl) ?_
  refine L1 (asg (v := .nilIface) rfl) ?_
  refine wpList_nil ?_
  refine then_n ?_
  refine wp_seq ?_
  -- region 4
  refine reg_lit ?_
  refine L1 (mv (v := .pointer _) rfl) ?_
  refine L1 (nilP rfl) ?_
  refine L1 (fa95_2 rfl) ?_
  refine L1 (ld2 rfl (hW.F.cellv (by decide) hro)) ?_
  refine L1 (mv (v := .int _ _) rfl) ?_
  refine L1 (bi rfl rfl (bn_addw)) ?_
  refine L1 (nilP rfl) ?_
  refine L1 (fa95_2 rfl) ?_
  refine Lst2 (v := .int _ _) rfl rfl rfl hW.F (by decide) ?_
  intro w1 hb1 kp1
  have hW := hW.setF hE hb1 kp1
  have kp := kp.F kp1
  clear hb1 kp1
  refine wpList_nil ?_
  refine then_n ?_
  refine wp_seq ?_
  -- region 5
  refine reg_lit ?_
  refine L1 (mv (v := .pointer _) rfl) ?_
  refine L1 (nilP rfl) ?_
  refine L1 (fa95_18 rfl) ?_
  refine L1 (ld3 rfl (hW.F.cellv (by decide) hl)) ?_
  refine L1 (mv (v := .int _ _) rfl) ?_
  refine L1 (bi rfl rfl (bn_sub (c := ((n - n : Nat) : Int)) (by omega) (by omega) (by omega))) ?_
  refine L1 (nilP rfl) ?_
  refine L1 (fa95_18 rfl) ?_
  refine Lst3 (v := .int _ _) rfl rfl rfl hW.F (by decide) ?_
  intro w1 hb1 kp1
  have hW := hW.setF hE hb1 kp1
  have kp := kp.F kp1
  clear hb1 kp1
  refine wpList_nil ?_
  refine then_n ?_
  refine wp_seq ?_
  -- region 6
  refine reg_lit ?_
  refine L1 (mv (v := .pointer _) rfl) ?_
  refine L1 (nilP rfl) ?_
  refine L1 (fa95_9 rfl) ?_
  refine L1 (mv (v := .int _ _) rfl) ?_
  refine LC (cl2 has64 rfl rfl rfl) (writeMark_c E _ _ wr rd full hW.F ⟨hD.hist, hD.wr, hD.rd, hD.full⟩ n (by omega)) ?_
  rintro v w1 ⟨rfl, hb1, kp1⟩
  have hW := hW.setF hE hb1 kp1
  have kp := kp.F kp1
  clear hb1 kp1
  refine wpList_nil ?_
  refine then_n ?_
  refine wp_seq ?_
  refine wp_seq ?_
  -- region 7
  refine reg_lit ?_
  refine L1 (mv (v := .nilIface) rfl) ?_
  refine L1 (en_nil rfl rfl) ?_
  refine wpList_nil ?_
  refine then_n ?_
  refine cond_f rfl ?_
  refine wp_skip ?_
  refine then_n ?_
  refine wp_seq ?_
  refine wp_seq ?_
  -- region 9
  refine reg_lit ?_
  refine L1 (mv (v := .pointer _) rfl) ?_
  refine L1 (nilP rfl) ?_
  refine L1 (fa95_9 rfl) ?_
  refine LC (cl1 has56 rfl rfl) (availWrite_c E _ _ (wr + n) rd full hW.F ⟨hD.hist, rfl, hD.rd, hD.full⟩ (by omega)) ?_
  rintro v w1 ⟨rfl, rfl⟩
  have hW := hW.drew
  have kp := kp.drew
  refine L1 (bi rfl rfl (bn_eql (v := false) (decide_eq_false (by omega)))) ?_
  refine L1 (mv (v := .bool _) rfl) ?_
  refine L1g (t := 64) (b := false) rfl (by decide) rfl (mv (v := .pointer _) rfl) ?_
  refine L1g (t := 64) (b := false) rfl (by decide) rfl (nilP rfl) ?_
  refine L1g (t := 64) (b := false) rfl (by decide) rfl (fa95_18 rfl) ?_
  refine L1g (t := 64) (b := false) rfl (by decide) rfl (ld3 rfl (hW.F.cellv (v := .int _ _) (by decide) rfl)) ?_
  refine L1g (t := 64) (b := false) rfl (by decide) rfl (bi rfl rfl (bn_gtr (v := false) (decide_eq_false (by omega)))) ?_
  refine L1 (pk_f rfl rfl) ?_
  refine wpList_nil ?_
  refine then_n ?_
  refine cond_f rfl ?_
  refine wp_skip ?_
  refine then_n ?_
  -- region 12
  refine reg_lit ?_
  refine L1 (mv (v := .pointer _) rfl) ?_
  refine LC (cl1 has51 rfl rfl) (finish_last E _ _ (cpd E hs wr pos n) bs cs (pos + n) hE hW hf (no + n) fl0 (wr + n) (by omega) (hDw.push n rfl (by omega) ((((Off.refl [2, 1052, 1038] g).upd (by simp) _).upd (by simp) _).upd (by simp) _) (by decide)) (hT.off ((((Off.refl [2, 1052, 1038] g).upd (by simp) _).upd (by simp) _).upd (by simp) _) (by decide))) ?_
  rintro v w1 ⟨rfl, g1, hW, h45, h48, hD1, hT1, ho, kp1⟩
  have kp := kp.trans kp1
  refine wpList_nil ?_
  refine end0 rfl ?_
  refine ⟨_, rfl, rfl, g1, hW, h48, hD1, hT1, ?_, kp⟩
  exact (((((Off.refl [2, 1052, 1038] g).upd (by simp) _).upd (by simp) _).upd (by simp) _).mono (by decide)).trans (ho.mono (by decide))
theorem cd_end_zero_more (E : Env) (w : World) (g hs bs cs : Nat → Value) (pos wr rd n : Nat) (full : Bool) (ro : Int) (hE : E.Ok) (hW : Wd E w g hs bs cs pos) (hS : Stc E g) (hD : DD E g wr rd full) (hro : g 2 = .int .i64 ro) (hl : g 1052 = .int .i64 n) (hw : wr < 32768) (hn : n ≤ 65535) (hle : pos ≤ E.N) (hb : n < 32768 - wr) (hp : pos + n ≤ E.N) (hz : n = 0) (no fl0 : Nat) (hDw : Dw E g no fl0 wr) (hf : g 1047 = .bool false) :
    Ret 52 [fp E] w fun v w' => v = .tuple #[] ∧ ∃ g', Wd E w' g' hs bs cs (pos + 0) ∧ (∃ x, g' 2 = .int .i64 x) ∧ g' 1045 = fnv 35 ∧ g' 1052 = .int .i64 0 ∧ Dw E g' (no + 0) fl0 (wr + 0) ∧ Off [2, 1052, 1038, 1045] g g' ∧ Kp E.L w w' := by
  subst hz
  have kp := Kp.refl E.L w
  have hN := hE.N47
  refine calls_fr (N := 83) Tryd.func52 rfl rfl (by simp [fp]) rfl ?_
  refine wp_seq ?_
  -- region 0
  refine reg_lit ?_
  refine L1 (mv (v := .pointer _) rfl) ?_
  refine L1 (nilP rfl) ?_
  refine L1 (fa95_9 rfl) ?_
  refine LC (cl1 has63 rfl rfl) (writeSlice_c E _ g wr rd full hW.F hD hw) ?_
  rintro v w1 ⟨rfl, rfl⟩
  have hW := hW.drew
  have kp := kp.drew
  refine L1 (asg (v := .slice _ _ _) rfl) ?_
  refine wpList_nil ?_
  refine then_n ?_
  refine wp_seq ?_
  refine wp_seq ?_
  -- region 1
  refine reg_lit ?_
  refine L1 (mv (v := .slice _ _ _) rfl) ?_
  refine L1 (ln und22 rfl) ?_
  refine L1 (mv (v := .pointer _) rfl) ?_
  refine L1 (nilP rfl) ?_
  refine L1 (fa95_18 rfl) ?_
  refine L1 (ld3 rfl (hW.F.cellv (by decide) hl)) ?_
  refine L1 (bi rfl rfl (bn_gtr (v := true) (decide_eq_true (by omega)))) ?_
  refine wpList_nil ?_
  refine then_n ?_
  refine cond_t rfl ?_
  -- region 2
  refine reg_lit ?_
  refine L1 (mv (v := .slice _ _ _) rfl) ?_
  refine L1 (mv (v := .pointer _) rfl) ?_
  refine L1 (nilP rfl) ?_
  refine L1 (fa95_18 rfl) ?_
  refine L1 (ld3 rfl (hW.F.cellv (by decide) hl)) ?_
  refine L1 (sl_h und22 sz5 rfl rfl rfl (by omega)) ?_
  refine L1 (asg (v := .slice _ _ _) rfl) ?_
  refine wpList_nil ?_
  refine then_n ?_
  refine wp_seq ?_
  -- region 3
  refine reg_lit ?_
  refine L1 (mv (v := .pointer _) rfl) ?_
  refine L1 (nilP rfl) ?_
  refine L1 (fa95_0 rfl) ?_
  refine L1 (ld80 rfl (hW.F.cellv (by decide) hS.r)) ?_
  refine L1 (mv (v := .slice _ _ _) rfl) ?_
  refine LC (cl2 has49 rfl rfl rfl) (rdf_zero _ _ _ _) ?_
  rintro v w1 ⟨rfl, rfl⟩
  refine L1 (mv (v := .tuple _) rfl) ?_
  refine L1 (ext2_0 rfl) ?_
  refine L1 (ext2_1 rfl) ?_
  refine L1 (asg (v := .int _ _) rfl) ?_
  refine L1 (asg (v := .nilIface) rfl) ?_
  refine wpList_nil ?_
  refine then_n ?_
  refine wp_seq ?_
  -- region 4
  refine reg_lit ?_
  refine L1 (mv (v := .pointer _) rfl) ?_
  refine L1 (nilP rfl) ?_
  refine L1 (fa95_2 rfl) ?_
  refine L1 (ld2 rfl (hW.F.cellv (by decide) hro)) ?_
  refine L1 (mv (v := .int _ _) rfl) ?_
  refine L1 (bi rfl rfl (bn_addw)) ?_
  refine L1 (nilP rfl) ?_
  refine L1 (fa95_2 rfl) ?_
  refine Lst2 (v := .int _ _) rfl rfl rfl hW.F (by decide) ?_
  intro w1 hb1 kp1
  have hW := hW.setF hE hb1 kp1
  have kp := kp.F kp1
  clear hb1 kp1
  refine wpList_nil ?_
  refine then_n ?_
  refine wp_seq ?_
  -- region 5
  refine reg_lit ?_
  refine L1 (mv (v := .pointer _) rfl) ?_
  refine L1 (nilP rfl) ?_
  refine L1 (fa95_18 rfl) ?_
  refine L1 (ld3 rfl (hW.F.cellv (by decide) hl)) ?_
  refine L1 (mv (v := .int _ _) rfl) ?_
  refine L1 (bi rfl rfl (bn_sub (c := ((0 - 0 : Nat) : Int)) (by omega) (by omega) (by omega))) ?_
  refine L1 (nilP rfl) ?_
  refine L1 (fa95_18 rfl) ?_
  refine Lst3 (v := .int _ _) rfl rfl rfl hW.F (by decide) ?_
  intro w1 hb1 kp1
  have hW := hW.setF hE hb1 kp1
  have kp := kp.F kp1
  clear hb1 kp1
  refine wpList_nil ?_
  refine then_n ?_
  refine wp_seq ?_
  -- region 6
  refine reg_lit ?_
  refine L1 (mv (v := .pointer _) rfl) ?_
  refine L1 (nilP rfl) ?_
  refine L1 (fa95_9 rfl) ?_
  refine L1 (mv (v := .int _ _) rfl) ?_
  refine LC (cl2 has64 rfl rfl rfl) (writeMark_c E _ _ wr rd full hW.F ⟨hD.hist, hD.wr, hD.rd, hD.full⟩ 0 (by omega)) ?_
  rintro v w1 ⟨rfl, hb1, kp1⟩
  have hW := hW.setF hE hb1 kp1
  have kp := kp.F kp1
  clear hb1 kp1
  refine wpList_nil ?_
  refine then_n ?_
  refine wp_seq ?_
  refine wp_seq ?_
  -- region 7
  refine reg_lit ?_
  refine L1 (mv (v := .nilIface) rfl) ?_
  refine L1 (en_nil rfl rfl) ?_
  refine wpList_nil ?_
  refine then_n ?_
  refine cond_f rfl ?_
  refine wp_skip ?_
  refine then_n ?_
  refine wp_seq ?_
  refine wp_seq ?_
  -- region 9
  refine reg_lit ?_
  refine L1 (mv (v := .pointer _) rfl) ?_
  refine L1 (nilP rfl) ?_
  refine L1 (fa95_9 rfl) ?_
  refine LC (cl1 has56 rfl rfl) (availWrite_c E _ _ (wr + 0) rd full hW.F ⟨hD.hist, rfl, hD.rd, hD.full⟩ (by omega)) ?_
  rintro v w1 ⟨rfl, rfl⟩
  have hW := hW.drew
  have kp := kp.drew
  refine L1 (bi rfl rfl (bn_eql (v := false) (decide_eq_false (by omega)))) ?_
  refine L1 (mv (v := .bool _) rfl) ?_
  refine L1g (t := 64) (b := false) rfl (by decide) rfl (mv (v := .pointer _) rfl) ?_
  refine L1g (t := 64) (b := false) rfl (by decide) rfl (nilP rfl) ?_
  refine L1g (t := 64) (b := false) rfl (by decide) rfl (fa95_18 rfl) ?_
  refine L1g (t := 64) (b := false) rfl (by decide) rfl (ld3 rfl (hW.F.cellv (v := .int _ _) (by decide) rfl)) ?_
  refine L1g (t := 64) (b := false) rfl (by decide) rfl (bi rfl rfl (bn_gtr (v := false) (decide_eq_false (by omega)))) ?_
  refine L1 (pk_f rfl rfl) ?_
  refine wpList_nil ?_
  refine then_n ?_
  refine cond_f rfl ?_
  refine wp_skip ?_
  refine then_n ?_
  -- region 12
  refine reg_lit ?_
  refine L1 (mv (v := .pointer _) rfl) ?_
  refine LC (cl1 has51 rfl rfl) (finish_more E _ _ hs bs cs pos hE hW hf) ?_
  rintro v w1 ⟨rfl, g1, hW, h45, ho, kp1⟩
  have kp := kp.trans kp1
  refine wpList_nil ?_
  refine end0 rfl ?_
  refine ⟨_, rfl, rfl, g1, hW, ⟨_, (ho _ (by decide)).trans rfl⟩, h45, ?_, ?_, ?_, kp⟩
  · exact ((ho _ (by decide)).trans rfl : g1 1052 = Value.int .i64 ((0 - 0 : Nat) : Int)).trans (by rw [show 0 - 0 = 0 by omega]; rfl)
  · exact (hDw.push 0 rfl (by omega) ((((Off.refl [2, 1052, 1038] g).upd (by simp) _).upd (by simp) _).upd (by simp) _) (by decide)).off ho (by decide)
  · exact (((((Off.refl [2, 1052, 1038] g).upd (by simp) _).upd (by simp) _).upd (by simp) _).mono (by decide)).trans (ho.mono (by decide))
theorem cd_end_zero_last (E : Env) (w : World) (g hs bs cs : Nat → Value) (pos wr rd n : Nat) (full : Bool) (ro : Int) (hE : E.Ok) (hW : Wd E w g hs bs cs pos) (hS : Stc E g) (hD : DD E g wr rd full) (hro : g 2 = .int .i64 ro) (hl : g 1052 = .int .i64 n) (hw : wr < 32768) (hn : n ≤ 65535) (hle : pos ≤ E.N) (hb : n < 32768 - wr) (hp : pos + n ≤ E.N) (hz : n = 0) (no fl0 : Nat) (hDw : Dw E g no fl0 wr) (hf : g 1047 = .bool true) (hT : TR E g fl0 fl0) :
    Ret 52 [fp E] w fun v w' => v = .tuple #[] ∧ ∃ g', Wd E w' g' hs bs cs (pos + 0) ∧ g' 1048 = EOFv E ∧ Dw E g' (no + 0) (no + 0) (nx (wr + 0)) ∧ TR E g' fl0 (no + 0) ∧ Off [2, 1052, 1038, 1039, 1040, 1045, 1048, 1049] g g' ∧ Kp E.L w w' := by
  subst hz
  have kp := Kp.refl E.L w
  have hN := hE.N47
  refine calls_fr (N := 83) Tryd.func52 rfl rfl (by simp [fp]) rfl ?_
  refine wp_seq ?_
  -- region 0
  refine reg_lit ?_
  refine L1 (mv (v := .pointer _) rfl) ?_
  refine L1 (nilP rfl) ?_
  refine L1 (fa95_9 rfl) ?_
  refine LC (cl1 has63 rfl rfl) (writeSlice_c E _ g wr rd full hW.F hD hw) ?_
  rintro v w1 ⟨rfl, rfl⟩
  have hW := hW.drew
  have kp := kp.drew
  refine L1 (asg (v := .slice _ _ _) rfl) ?_
  refine wpList_nil ?_
  refine then_n ?_
  refine wp_seq ?_
  refine wp_seq ?_
  -- region 1
  refine reg_lit ?_
  refine L1 (mv (v := .slice _ _ _) rfl) ?_
  refine L1 (ln und22 rfl) ?_
  refine L1 (mv (v := .pointer _) rfl) ?_
  refine L1 (nilP rfl) ?_
  refine L1 (fa95_18 rfl) ?_
  refine L1 (ld3 rfl (hW.F.cellv (by decide) hl)) ?_
  refine L1 (bi rfl rfl (bn_gtr (v := true) (decide_eq_true (by omega)))) ?_
  refine wpList_nil ?_
  refine then_n ?_
  refine cond_t rfl ?_
  -- region 2
  refine reg_lit ?_
  refine L1 (mv (v := .slice _ _ _) rfl) ?_
  refine L1 (mv (v := .pointer _) rfl) ?_
  refine L1 (nilP rfl) ?_
  refine L1 (fa95_18 rfl) ?_
  refine L1 (ld3 rfl (hW.F.cellv (by decide) hl)) ?_
  refine L1 (sl_h und22 sz5 rfl rfl rfl (by omega)) ?_
  refine L1 (asg (v := .slice _ _ _) rfl) ?_
  refine wpList_nil ?_
  refine then_n ?_
  refine wp_seq ?_
  -- region 3
  refine reg_lit ?_
  refine L1 (mv (v := .pointer _) rfl) ?_
  refine L1 (nilP rfl) ?_
  refine L1 (fa95_0 rfl) ?_
  refine L1 (ld80 rfl (hW.F.cellv (by decide) hS.r)) ?_
  refine L1 (mv (v := .slice _ _ _) rfl) ?_
  refine LC (cl2 has49 rfl rfl rfl) (rdf_zero _ _ _ _) ?_
  rintro v w1 ⟨rfl, rfl⟩
  refine L1 (mv (v := .tuple _) rfl) ?_
  refine L1 (ext2_0 rfl) ?_
  refine L1 (ext2_1 rfl) ?_
  refine L1 (asg (v := .int _ _) rfl) ?_
  refine L1 (asg (v := .nilIface) rfl) ?_
  refine wpList_nil ?_
  refine then_n ?_
  refine wp_seq ?_
  -- region 4
  refine reg_lit ?_
  refine L1 (mv (v := .pointer _) rfl) ?_
  refine L1 (nilP rfl) ?_
  refine L1 (fa95_2 rfl) ?_
  refine L1 (ld2 rfl (hW.F.cellv (by decide) hro)) ?_
  refine L1 (mv (v := .int _ _) rfl) ?_
  refine L1 (bi rfl rfl (bn_addw)) ?_
  refine L1 (nilP rfl) ?_
  refine L1 (fa95_2 rfl) ?_
  refine Lst2 (v := .int _ _) rfl rfl rfl hW.F (by decide) ?_
  intro w1 hb1 kp1
  have hW := hW.setF hE hb1 kp1
  have kp := kp.F kp1
  clear hb1 kp1
  refine wpList_nil ?_
  refine then_n ?_
  refine wp_seq ?_
  -- region 5
  refine reg_lit ?_
  refine L1 (mv (v := .pointer _) rfl) ?_
  refine L1 (nilP rfl) ?_
  refine L1 (fa95_18 rfl) ?_
  refine L1 (ld3 rfl (hW.F.cellv (by decide) hl)) ?_
  refine L1 (mv (v := .int _ _) rfl) ?_
  refine L1 (bi rfl rfl (bn_sub (c := ((0 - 0 : Nat) : Int)) (by omega) (by omega) (by omega))) ?_
  refine L1 (nilP rfl) ?_
  refine L1 (fa95_18 rfl) ?_
  refine Lst3 (v := .int _ _) rfl rfl rfl hW.F (by decide) ?_
  intro w1 hb1 kp1
  have hW := hW.setF hE hb1 kp1
  have kp := kp.F kp1
  clear hb1 kp1
  refine wpList_nil ?_
  refine then_n ?_
  refine wp_seq ?_
  -- region 6
  refine reg_lit ?_
  refine L1 (mv (v := .pointer _) rfl) ?_
  refine L1 (nilP rfl) ?_
  refine L1 (fa95_9 rfl) ?_
  refine L1 (mv (v := .int _ _) rfl) ?_
  refine LC (cl2 has64 rfl rfl rfl) (writeMark_c E _ _ wr rd full hW.F ⟨hD.hist, hD.wr, hD.rd, hD.full⟩ 0 (by omega)) ?_
  rintro v w1 ⟨rfl, hb1, kp1⟩
  have hW := hW.setF hE hb1 kp1
  have kp := kp.F kp1
  clear hb1 kp1
  refine wpList_nil ?_
  refine then_n ?_
  refine wp_seq ?_
  refine wp_seq ?_
  -- region 7
  refine reg_lit ?_
  refine L1 (mv (v := .nilIface) rfl) ?_
  refine L1 (en_nil rfl rfl) ?_
  refine wpList_nil ?_
  refine then_n ?_
  refine cond_f rfl ?_
  refine wp_skip ?_
  refine then_n ?_
  refine wp_seq ?_
  refine wp_seq ?_
  -- region 9
  refine reg_lit ?_
  refine L1 (mv (v := .pointer _) rfl) ?_
  refine L1 (nilP rfl) ?_
  refine L1 (fa95_9 rfl) ?_
  refine LC (cl1 has56 rfl rfl) (availWrite_c E _ _ (wr + 0) rd full hW.F ⟨hD.hist, rfl, hD.rd, hD.full⟩ (by omega)) ?_
  rintro v w1 ⟨rfl, rfl⟩
  have hW := hW.drew
  have kp := kp.drew
  refine L1 (bi rfl rfl (bn_eql (v := false) (decide_eq_false (by omega)))) ?_
  refine L1 (mv (v := .bool _) rfl) ?_
  refine L1g (t := 64) (b := false) rfl (by decide) rfl (mv (v := .pointer _) rfl) ?_
  refine L1g (t := 64) (b := false) rfl (by decide) rfl (nilP rfl) ?_
  refine L1g (t := 64) (b := false) rfl (by decide) rfl (fa95_18 rfl) ?_
  refine L1g (t := 64) (b := false) rfl (by decide) rfl (ld3 rfl (hW.F.cellv (v := .int _ _) (by decide) rfl)) ?_
  refine L1g (t := 64) (b := false) rfl (by decide) rfl (bi rfl rfl (bn_gtr (v := false) (decide_eq_false (by omega)))) ?_
  refine L1 (pk_f rfl rfl) ?_
  refine wpList_nil ?_
  refine then_n ?_
  refine cond_f rfl ?_
  refine wp_skip ?_
  refine then_n ?_
  -- region 12
  refine reg_lit ?_
  refine L1 (mv (v := .pointer _) rfl) ?_
  refine LC (cl1 has51 rfl rfl) (finish_last E _ _ hs bs cs pos hE hW hf (no + 0) fl0 (wr + 0) (by omega) (hDw.push 0 rfl (by omega) ((((Off.refl [2, 1052, 1038] g).upd (by simp) _).upd (by simp) _).upd (by simp) _) (by decide)) (hT.off ((((Off.refl [2, 1052, 1038] g).upd (by simp) _).upd (by simp) _).upd (by simp) _) (by decide))) ?_
  rintro v w1 ⟨rfl, g1, hW, h45, h48, hD1, hT1, ho, kp1⟩
  have kp := kp.trans kp1
  refine wpList_nil ?_
  refine end0 rfl ?_
  refine ⟨_, rfl, rfl, g1, hW, h48, hD1, hT1, ?_, kp⟩
  exact (((((Off.refl [2, 1052, 1038] g).upd (by simp) _).upd (by simp) _).upd (by simp) _).mono (by decide)).trans (ho.mono (by decide))
end Go.Proofs.YtejeloeaklpinaaDoor
