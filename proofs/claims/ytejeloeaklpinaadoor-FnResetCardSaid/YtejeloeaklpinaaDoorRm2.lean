/- Texts of this claim, merged by gen/merge.py: Data, Data2, Ops5, Stored, Stored2, Next, Next2, Goes, Read, New0, App, New1, New2, New3. -/
import Derived.Test.YtejeloeaklpinaaDoorRm1
import Derived.Laws.OwnMore
import Derived.Deep.OwnRows
/- Blocks that are as they stand: their bytes. Its walks are printed by gen/g_data.py. -/
namespace Go.Proofs.YtejeloeaklpinaaDoor
attribute [local irreducible] wpList wpStill wpMix Code.wp Calls fr
theorem rdf_short' (E : Env) (w : World) (pos : Nat) (hE : E.Ok) (hG : Gl E w) (hrd : Rd E w pos) (b o m c n : Nat) (t : TypeId) (gb : Nat → Value) (hb : Bk w b n t gb) (hbR : b ≠ E.R) (hbS : b ≠ E.S) (hbB : E.B ≤ b) (hm : o + m ≤ n) (hmc : m ≤ c) (hm0 : 0 < m) (hn : n < 1000000) (hp : E.N < pos + m) :
    Ret 49 [.iface 43 (.pointer (some ⟨E.R, 0, none⟩)), .slice (some ⟨b, o, none⟩) m c] w fun v w' => ∃ x, (x = E.aE ∨ x = E.aU) ∧ v = .tuple #[.int .i64 ((E.N - pos : Nat) : Int), .iface 131 (.pointer (some x))] ∧ Rd E w' E.N ∧ Bk w' b n t (cpd E gb o pos (E.N - pos)) ∧ Kp [E.R, b] w w' := by
  refine (rdf_short E w pos hE hG hrd b o m c n t gb hb hbR hbS hbB hm hmc hm0 hn hp).mono ?_
  rintro e w' ⟨v, rfl, rfl, h⟩
  by_cases h0 : E.N - pos = 0
  · rw [if_pos h0]; exact ⟨_, rfl, E.aE, .inl rfl, rfl, h⟩
  · rw [if_neg h0]; exact ⟨_, rfl, E.aU, .inr rfl, rfl, h⟩
theorem Wd.setHR {E : Env} {w w1 : World} {g hs bs cs g' : Nat → Value} {pos pos' : Nat} (h : Wd E w g hs bs cs pos) (hE : E.Ok) (hH : Bk w1 E.H 32768 5 g') (hR : Rd E w1 pos') (k : Kp [E.R, E.H] w w1) : Wd E w1 g g' bs cs pos' :=
  ⟨h.F.kp k (by simp; exact ⟨hE.FR, hE.FH⟩), hH, h.bt.kp k (by simp; exact ⟨fun e => hE.Rb e.symm, fun e => hE.Hb e.symm⟩), h.cb.kp k (by simp; exact ⟨fun e => hE.Rc e.symm, fun e => hE.Hc e.symm⟩),
    hR, h.gl.kp k (by simp; exact ⟨hE.bR, hE.bH⟩), ⟨Nat.lt_of_lt_of_le h.bu.1 k.size, Nat.lt_of_lt_of_le h.bu.2 k.size⟩⟩

theorem cd_short_b (E : Env) (w : World) (g hs bs cs : Nat → Value) (pos wr rd n : Nat) (full : Bool) (ro : Int) (hE : E.Ok) (hW : Wd E w g hs bs cs pos) (hS : Stc E g) (hD : DD E g wr rd full) (hro : g 2 = .int .i64 ro) (hl : g 1052 = .int .i64 n) (hw : wr < 32768) (hn : n ≤ 65535) (hle : pos ≤ E.N) (hb : 32768 - wr ≤ n) (hp : E.N < pos + (32768 - wr)) :
    Ret 52 [fp E] w fun v w' => v = .tuple #[] ∧ ∃ g', Wd E w' g' (cpd E hs wr pos (E.N - pos)) bs cs E.N ∧ g' 1048 = UEOFv E ∧ g' 1038 = .int .i64 ((wr + (E.N - pos) : Nat) : Int) ∧ Off [2, 1038, 1048, 1052] g g' ∧ Kp E.L w w' := by
  have kp := Kp.refl E.L w
  have hN := hE.N47
  refine calls_fr (N := 83) Tryd.func52 rfl rfl (by simp [fp]) rfl ?_
  refine wp_seq ?_
  -- region 0
  refine reg_lit ?_
  refine L1 (mv (v := .pointer _) rfl) ?_
  refine L1 (nilP rfl) ?_
  refine L1 (fa95_9 rfl) ?_
  refine LC (cl1 has63 rfl rfl) (writeSlice_c E _ g wr rd full hW.F hD hw) ?_
  rintro v w1 ⟨rfl, rfl⟩
  have hW := hW.drew
  have kp := kp.drew
  refine L1 (asg (v := .slice _ _ _) rfl) ?_
  refine wpList_nil ?_
  refine then_n ?_
  refine wp_seq ?_
  refine wp_seq ?_
  -- region 1
  refine reg_lit ?_
  refine L1 (mv (v := .slice _ _ _) rfl) ?_
  refine L1 (ln und22 rfl) ?_
  refine L1 (mv (v := .pointer _) rfl) ?_
  refine L1 (nilP rfl) ?_
  refine L1 (fa95_18 rfl) ?_
  refine L1 (ld3 rfl (hW.F.cellv (by decide) hl)) ?_
  refine L1 (bi rfl rfl (bn_gtr (v := false) (decide_eq_false (by omega)))) ?_
  refine wpList_nil ?_
  refine then_n ?_
  refine cond_f rfl ?_
  refine wp_skip ?_
  refine then_n ?_
  refine wp_seq ?_
  -- region 3
  refine reg_lit ?_
  refine L1 (mv (v := .pointer _) rfl) ?_
  refine L1 (nilP rfl) ?_
  refine L1 (fa95_0 rfl) ?_
  refine L1 (ld80 rfl (hW.F.cellv (by decide) hS.r)) ?_
  refine L1 (mv (v := .slice _ _ _) rfl) ?_
  refine LC (cl2 has49 rfl rfl rfl) (rdf_short' E _ pos hE hW.gl hW.rd E.H wr (32768 - wr) (32768 - wr) 32768 5 hs hW.H (fun e => hE.RH e.symm) (fun e => hE.SH e.symm) hE.bH (by omega) (by omega) (by omega) (by decide) (by omega)) ?_
  rintro v w1 ⟨ex, hex, rfl, hrd, hh, kp1⟩
  have hW := hW.setHR hE hh hrd kp1
  have kp := kp.trans (kp1.mono (by simp [Env.L]))
  clear kp1 hh hrd
  refine L1 (mv (v := .tuple _) rfl) ?_
  refine L1 (ext2_0 rfl) ?_
  refine L1 (ext2_1 rfl) ?_
  refine L1 (asg (v := .int _ _) rfl) ?_
  refine L1 (asg (v := .iface _ _) rfl) ?_
  refine wpList_nil ?_
  refine then_n ?_
  refine wp_seq ?_
  -- region 4
  refine reg_lit ?_
  refine L1 (mv (v := .pointer _) rfl) ?_
  refine L1 (nilP rfl) ?_
  refine L1 (fa95_2 rfl) ?_
  refine L1 (ld2 rfl (hW.F.cellv (by decide) hro)) ?_
  refine L1 (mv (v := .int _ _) rfl) ?_
  refine L1 (bi rfl rfl (bn_addw)) ?_
  refine L1 (nilP rfl) ?_
  refine L1 (fa95_2 rfl) ?_
  refine Lst2 (v := .int _ _) rfl rfl rfl hW.F (by decide) ?_
  intro w1 hb1 kp1
  have hW := hW.setF hE hb1 kp1
  have kp := kp.F kp1
  clear hb1 kp1
  refine wpList_nil ?_
  refine then_n ?_
  refine wp_seq ?_
  -- region 5
  refine reg_lit ?_
  refine L1 (mv (v := .pointer _) rfl) ?_
  refine L1 (nilP rfl) ?_
  refine L1 (fa95_18 rfl) ?_
  refine L1 (ld3 rfl (hW.F.cellv (by decide) hl)) ?_
  refine L1 (mv (v := .int _ _) rfl) ?_
  refine L1 (bi rfl rfl (bn_sub (c := ((n - (E.N - pos) : Nat) : Int)) (by omega) (by omega) (by omega))) ?_
  refine L1 (nilP rfl) ?_
  refine L1 (fa95_18 rfl) ?_
  refine Lst3 (v := .int _ _) rfl rfl rfl hW.F (by decide) ?_
  intro w1 hb1 kp1
  have hW := hW.setF hE hb1 kp1
  have kp := kp.F kp1
  clear hb1 kp1
  refine wpList_nil ?_
  refine then_n ?_
  refine wp_seq ?_
  -- region 6
  refine reg_lit ?_
  refine L1 (mv (v := .pointer _) rfl) ?_
  refine L1 (nilP rfl) ?_
  refine L1 (fa95_9 rfl) ?_
  refine L1 (mv (v := .int _ _) rfl) ?_
  refine LC (cl2 has64 rfl rfl rfl) (writeMark_c E _ _ wr rd full hW.F ⟨hD.hist, hD.wr, hD.rd, hD.full⟩ (E.N - pos) (by omega)) ?_
  rintro v w1 ⟨rfl, hb1, kp1⟩
  have hW := hW.setF hE hb1 kp1
  have kp := kp.F kp1
  clear hb1 kp1
  refine wpList_nil ?_
  refine then_n ?_
  refine wp_seq ?_
  refine wp_seq ?_
  -- region 7
  refine reg_lit ?_
  refine L1 (mv (v := .iface _ _) rfl) ?_
  refine L1 (en_held rfl rfl) ?_
  refine wpList_nil ?_
  refine then_n ?_
  refine cond_t rfl ?_
  refine wp_seq ?_
  -- region 8
  refine reg_lit ?_
  refine L1 (mv (v := .pointer _) rfl) ?_
  refine L1 (mv (v := .iface _ _) rfl) ?_
  refine LC (cl1 has48 rfl rfl) (noEOF_any E _ hW.gl ex hex) ?_
  rintro v w1 ⟨rfl, rfl⟩
  refine L1 (nilP rfl) ?_
  refine L1 (fa95_14 rfl) ?_
  refine Lst62 (v := (UEOFv E)) rfl rfl rfl hW.F (by decide) ?_
  intro w1 hb1 kp1
  have hW := hW.setF hE hb1 kp1
  have kp := kp.F kp1
  clear hb1 kp1
  refine wpList_nil ?_
  refine then_n ?_
  refine wp_ret ?_
  refine then_r ?_
  refine ret0 rfl ?_
  exact ⟨_, rfl, rfl, _, hW, rfl, rfl, ((((Off.refl _ g).upd (by simp) _).upd (by simp) _).upd (by simp) _).upd (by simp) _, kp⟩
theorem cd_short_s (E : Env) (w : World) (g hs bs cs : Nat → Value) (pos wr rd n : Nat) (full : Bool) (ro : Int) (hE : E.Ok) (hW : Wd E w g hs bs cs pos) (hS : Stc E g) (hD : DD E g wr rd full) (hro : g 2 = .int .i64 ro) (hl : g 1052 = .int .i64 n) (hw : wr < 32768) (hn : n ≤ 65535) (hle : pos ≤ E.N) (hb : n < 32768 - wr) (hp : E.N < pos + n) :
    Ret 52 [fp E] w fun v w' => v = .tuple #[] ∧ ∃ g', Wd E w' g' (cpd E hs wr pos (E.N - pos)) bs cs E.N ∧ g' 1048 = UEOFv E ∧ g' 1038 = .int .i64 ((wr + (E.N - pos) : Nat) : Int) ∧ Off [2, 1038, 1048, 1052] g g' ∧ Kp E.L w w' := by
  have kp := Kp.refl E.L w
  have hN := hE.N47
  refine calls_fr (N := 83) Tryd.func52 rfl rfl (by simp [fp]) rfl ?_
  refine wp_seq ?_
  -- region 0
  refine reg_lit ?_
  refine L1 (mv (v := .pointer _) rfl) ?_
  refine L1 (nilP rfl) ?_
  refine L1 (fa95_9 rfl) ?_
  refine LC (cl1 has63 rfl rfl) (writeSlice_c E _ g wr rd full hW.F hD hw) ?_
  rintro v w1 ⟨rfl, rfl⟩
  have hW := hW.drew
  have kp := kp.drew
  refine L1 (asg (v := .slice _ _ _) rfl) ?_
  refine wpList_nil ?_
  refine then_n ?_
  refine wp_seq ?_
  refine wp_seq ?_
  -- region 1
  refine reg_lit ?_
  refine L1 (mv (v := .slice _ _ _) rfl) ?_
  refine L1 (ln und22 rfl) ?_
  refine L1 (mv (v := .pointer _) rfl) ?_
  refine L1 (nilP rfl) ?_
  refine L1 (fa95_18 rfl) ?_
  refine L1 (ld3 rfl (hW.F.cellv (by decide) hl)) ?_
  refine L1 (bi rfl rfl (bn_gtr (v := true) (decide_eq_true (by omega)))) ?_
  refine wpList_nil ?_
  refine then_n ?_
  refine cond_t rfl ?_
  -- region 2
  refine reg_lit ?_
  refine L1 (mv (v := .slice _ _ _) rfl) ?_
  refine L1 (mv (v := .pointer _) rfl) ?_
  refine L1 (nilP rfl) ?_
  refine L1 (fa95_18 rfl) ?_
  refine L1 (ld3 rfl (hW.F.cellv (by decide) hl)) ?_
  refine L1 (sl_h und22 sz5 rfl rfl rfl (by omega)) ?_
  refine L1 (asg (v := .slice _ _ _) rfl) ?_
  refine wpList_nil ?_
  refine then_n ?_
  refine wp_seq ?_
  -- region 3
  refine reg_lit ?_
  refine L1 (mv (v := .pointer _) rfl) ?_
  refine L1 (nilP rfl) ?_
  refine L1 (fa95_0 rfl) ?_
  refine L1 (ld80 rfl (hW.F.cellv (by decide) hS.r)) ?_
  refine L1 (mv (v := .slice _ _ _) rfl) ?_
  refine LC (cl2 has49 rfl rfl rfl) (rdf_short' E _ pos hE hW.gl hW.rd E.H wr n (32768 - wr) 32768 5 hs hW.H (fun e => hE.RH e.symm) (fun e => hE.SH e.symm) hE.bH (by omega) (by omega) (by omega) (by decide) (by omega)) ?_
  rintro v w1 ⟨ex, hex, rfl, hrd, hh, kp1⟩
  have hW := hW.setHR hE hh hrd kp1
  have kp := kp.trans (kp1.mono (by simp [Env.L]))
  clear kp1 hh hrd
  refine L1 (mv (v := .tuple _) rfl) ?_
  refine L1 (ext2_0 rfl) ?_
  refine L1 (ext2_1 rfl) ?_
  refine L1 (asg (v := .int _ _) rfl) ?_
  refine L1 (asg (v := .iface _ _) rfl) ?_
  refine wpList_nil ?_
  refine then_n ?_
  refine wp_seq ?_
  -- region 4
  refine reg_lit ?_
  refine L1 (mv (v := .pointer _) rfl) ?_
  refine L1 (nilP rfl) ?_
  refine L1 (fa95_2 rfl) ?_
  refine L1 (ld2 rfl (hW.F.cellv (by decide) hro)) ?_
  refine L1 (mv (v := .int _ _) rfl) ?_
  refine L1 (bi rfl rfl (bn_addw)) ?_
  refine L1 (nilP rfl) ?_
  refine L1 (fa95_2 rfl) ?_
  refine Lst2 (v := .int _ _) rfl rfl rfl hW.F (by decide) ?_
  intro w1 hb1 kp1
  have hW := hW.setF hE hb1 kp1
  have kp := kp.F kp1
  clear hb1 kp1
  refine wpList_nil ?_
  refine then_n ?_
  refine wp_seq ?_
  -- region 5
  refine reg_lit ?_
  refine L1 (mv (v := .pointer _) rfl) ?_
  refine L1 (nilP rfl) ?_
  refine L1 (fa95_18 rfl) ?_
  refine L1 (ld3 rfl (hW.F.cellv (by decide) hl)) ?_
  refine L1 (mv (v := .int _ _) rfl) ?_
  refine L1 (bi rfl rfl (bn_sub (c := ((n - (E.N - pos) : Nat) : Int)) (by omega) (by omega) (by omega))) ?_
  refine L1 (nilP rfl) ?_
  refine L1 (fa95_18 rfl) ?_
  refine Lst3 (v := .int _ _) rfl rfl rfl hW.F (by decide) ?_
  intro w1 hb1 kp1
  have hW := hW.setF hE hb1 kp1
  have kp := kp.F kp1
  clear hb1 kp1
  refine wpList_nil ?_
  refine then_n ?_
  refine wp_seq ?_
  -- region 6
  refine reg_lit ?_
  refine L1 (mv (v := .pointer _) rfl) ?_
  refine L1 (nilP rfl) ?_
  refine L1 (fa95_9 rfl) ?_
  refine L1 (mv (v := .int _ _) rfl) ?_
  refine LC (cl2 has64 rfl rfl rfl) (writeMark_c E _ _ wr rd full hW.F ⟨hD.hist, hD.wr, hD.rd, hD.full⟩ (E.N - pos) (by omega)) ?_
  rintro v w1 ⟨rfl, hb1, kp1⟩
  have hW := hW.setF hE hb1 kp1
  have kp := kp.F kp1
  clear hb1 kp1
  refine wpList_nil ?_
  refine then_n ?_
  refine wp_seq ?_
  refine wp_seq ?_
  -- region 7
  refine reg_lit ?_
  refine L1 (mv (v := .iface _ _) rfl) ?_
  refine L1 (en_held rfl rfl) ?_
  refine wpList_nil ?_
  refine then_n ?_
  refine cond_t rfl ?_
  refine wp_seq ?_
  -- region 8
  refine reg_lit ?_
  refine L1 (mv (v := .pointer _) rfl) ?_
  refine L1 (mv (v := .iface _ _) rfl) ?_
  refine LC (cl1 has48 rfl rfl) (noEOF_any E _ hW.gl ex hex) ?_
  rintro v w1 ⟨rfl, rfl⟩
  refine L1 (nilP rfl) ?_
  refine L1 (fa95_14 rfl) ?_
  refine Lst62 (v := (UEOFv E)) rfl rfl rfl hW.F (by decide) ?_
  intro w1 hb1 kp1
  have hW := hW.setF hE hb1 kp1
  have kp := kp.F kp1
  clear hb1 kp1
  refine wpList_nil ?_
  refine then_n ?_
  refine wp_ret ?_
  refine then_r ?_
  refine ret0 rfl ?_
  exact ⟨_, rfl, rfl, _, hW, rfl, rfl, ((((Off.refl _ g).upd (by simp) _).upd (by simp) _).upd (by simp) _).upd (by simp) _, kp⟩
theorem Dw.push {E : Env} {g g' : Nat → Value} {n fl wr : Nat} {L : List Nat} (h : Dw E g n fl wr) (k : Nat) (h1 : g' 1038 = .int .i64 ((wr + k : Nat) : Int)) (hk : wr + k ≤ 32768) (o : Off L g g') (h0 : 1037 ∉ L ∧ 1039 ∉ L ∧ 1040 ∉ L) : Dw E g' (n + k) fl (wr + k) := by
  obtain ⟨q, rd, e1, e2, e3, e4, e5⟩ := h
  exact ⟨q, rd, by omega, by omega, by omega, e4, (o _ h0.1).trans e5.hist, h1, (o _ h0.2.1).trans e5.rd, (o _ h0.2.2).trans e5.full⟩
theorem cd_full (E : Env) (w : World) (g hs bs cs : Nat → Value) (pos wr rd n : Nat) (full : Bool) (ro : Int) (hE : E.Ok) (hW : Wd E w g hs bs cs pos) (hS : Stc E g) (hD : DD E g wr rd full) (hro : g 2 = .int .i64 ro) (hl : g 1052 = .int .i64 n) (hw : wr < 32768) (hn : n ≤ 65535) (hle : pos ≤ E.N) (hb : 32768 - wr ≤ n) (hp : pos + (32768 - wr) ≤ E.N) (no fl0 : Nat) (hDw : Dw E g no fl0 wr) :
    Ret 52 [fp E] w fun v w' => v = .tuple #[] ∧ ∃ g', Wd E w' g' (cpd E hs wr pos (32768 - wr)) bs cs (pos + (32768 - wr)) ∧ (∃ x, g' 2 = .int .i64 x) ∧ g' 1045 = fnv 52 ∧ g' 1052 = .int .i64 ((n - (32768 - wr) : Nat) : Int) ∧ Dw E g' (no + (32768 - wr)) (no + (32768 - wr)) (nx (wr + (32768 - wr))) ∧ TR E g' fl0 (no + (32768 - wr)) ∧ Off [2, 1052, 1038, 1039, 1040, 1045, 1049] g g' ∧ Kp E.L w w' := by
  have kp := Kp.refl E.L w
  have hN := hE.N47
  refine calls_fr (N := 83) Tryd.func52 rfl rfl (by simp [fp]) rfl ?_
  refine wp_seq ?_
  -- region 0
  refine reg_lit ?_
  refine L1 (mv (v := .pointer _) rfl) ?_
  refine L1 (nilP rfl) ?_
  refine L1 (fa95_9 rfl) ?_
  refine LC (cl1 has63 rfl rfl) (writeSlice_c E _ g wr rd full hW.F hD hw) ?_
  rintro v w1 ⟨rfl, rfl⟩
  have hW := hW.drew
  have kp := kp.drew
  refine L1 (asg (v := .slice _ _ _) rfl) ?_
  refine wpList_nil ?_
  refine then_n ?_
  refine wp_seq ?_
  refine wp_seq ?_
  -- region 1
  refine reg_lit ?_
  refine L1 (mv (v := .slice _ _ _) rfl) ?_
  refine L1 (ln und22 rfl) ?_
  refine L1 (mv (v := .pointer _) rfl) ?_
  refine L1 (nilP rfl) ?_
  refine L1 (fa95_18 rfl) ?_
  refine L1 (ld3 rfl (hW.F.cellv (by decide) hl)) ?_
  refine L1 (bi rfl rfl (bn_gtr (v := false) (decide_eq_false (by omega)))) ?_
  refine wpList_nil ?_
  refine then_n ?_
  refine cond_f rfl ?_
  refine wp_skip ?_
  refine then_n ?_
  refine wp_seq ?_
  -- region 3
  refine reg_lit ?_
  refine L1 (mv (v := .pointer _) rfl) ?_
  refine L1 (nilP rfl) ?_
  refine L1 (fa95_0 rfl) ?_
  refine L1 (ld80 rfl (hW.F.cellv (by decide) hS.r)) ?_
  refine L1 (mv (v := .slice _ _ _) rfl) ?_
  refine LC (cl2 has49 rfl rfl rfl) (rdf_ok E _ pos hE hW.gl hW.rd E.H wr (32768 - wr) (32768 - wr) 32768 5 hs hW.H (fun e => hE.RH e.symm) (fun e => hE.SH e.symm) hE.bH (by omega) (by omega) (by omega) (by decide) (by omega)) ?_
  rintro v w1 ⟨rfl, hrd, hh, kp1⟩
  have hW := hW.setHR hE hh hrd kp1
  have kp := kp.trans (kp1.mono (by simp [Env.L]))
  clear kp1 hh hrd
  refine L1 (mv (v := .tuple _) rfl) ?_
  refine L1 (ext2_0 rfl) ?_
  refine L1 (ext2_1 rfl) ?_
  refine L1 (asg (v := .int _ _) rfl) ?_
  refine L1 (asg (v := .nilIface) rfl) ?_
  refine wpList_nil ?_
  refine then_n ?_
  refine wp_seq ?_
  -- region 4
  refine reg_lit ?_
  refine L1 (mv (v := .pointer _) rfl) ?_
  refine L1 (nilP rfl) ?_
  refine L1 (fa95_2 rfl) ?_
  refine L1 (ld2 rfl (hW.F.cellv (by decide) hro)) ?_
  refine L1 (mv (v := .int _ _) rfl) ?_
  refine L1 (bi rfl rfl (bn_addw)) ?_
  refine L1 (nilP rfl) ?_
  refine L1 (fa95_2 rfl) ?_
  refine Lst2 (v := .int _ _) rfl rfl rfl hW.F (by decide) ?_
  intro w1 hb1 kp1
  have hW := hW.setF hE hb1 kp1
  have kp := kp.F kp1
  clear hb1 kp1
  refine wpList_nil ?_
  refine then_n ?_
  refine wp_seq ?_
  -- region 5
  refine reg_lit ?_
  refine L1 (mv (v := .pointer _) rfl) ?_
  refine L1 (nilP rfl) ?_
  refine L1 (fa95_18 rfl) ?_
  refine L1 (ld3 rfl (hW.F.cellv (by decide) hl)) ?_
  refine L1 (mv (v := .int _ _) rfl) ?_
  refine L1 (bi rfl rfl (bn_sub (c := ((n - (32768 - wr) : Nat) : Int)) (by omega) (by omega) (by omega))) ?_
  refine L1 (nilP rfl) ?_
  refine L1 (fa95_18 rfl) ?_
  refine Lst3 (v := .int _ _) rfl rfl rfl hW.F (by decide) ?_
  intro w1 hb1 kp1
  have hW := hW.setF hE hb1 kp1
  have kp := kp.F kp1
  clear hb1 kp1
  refine wpList_nil ?_
  refine then_n ?_
  refine wp_seq ?_
  -- region 6
  refine reg_lit ?_
  refine L1 (mv (v := .pointer _) rfl) ?_
  refine L1 (nilP rfl) ?_
  refine L1 (fa95_9 rfl) ?_
  refine L1 (mv (v := .int _ _) rfl) ?_
  refine LC (cl2 has64 rfl rfl rfl) (writeMark_c E _ _ wr rd full hW.F ⟨hD.hist, hD.wr, hD.rd, hD.full⟩ (32768 - wr) (by omega)) ?_
  rintro v w1 ⟨rfl, hb1, kp1⟩
  have hW := hW.setF hE hb1 kp1
  have kp := kp.F kp1
  clear hb1 kp1
  refine wpList_nil ?_
  refine then_n ?_
  refine wp_seq ?_
  refine wp_seq ?_
  -- region 7
  refine reg_lit ?_
  refine L1 (mv (v := .nilIface) rfl) ?_
  refine L1 (en_nil rfl rfl) ?_
  refine wpList_nil ?_
  refine then_n ?_
  refine cond_f rfl ?_
  refine wp_skip ?_
  refine then_n ?_
  refine wp_seq ?_
  refine wp_seq ?_
  -- region 9
  refine reg_lit ?_
  refine L1 (mv (v := .pointer _) rfl) ?_
  refine L1 (nilP rfl) ?_
  refine L1 (fa95_9 rfl) ?_
  refine LC (cl1 has56 rfl rfl) (availWrite_c E _ _ (wr + (32768 - wr)) rd full hW.F ⟨hD.hist, rfl, hD.rd, hD.full⟩ (by omega)) ?_
  rintro v w1 ⟨rfl, rfl⟩
  have hW := hW.drew
  have kp := kp.drew
  refine L1 (bi rfl rfl (bn_eql (v := true) (decide_eq_true (by omega)))) ?_
  refine L1 (mv (v := .bool _) rfl) ?_
  refine Lskip (t := 64) (b := false) rfl (by decide) rfl ?_
  refine Lskip (t := 64) (b := false) rfl (by decide) rfl ?_
  refine Lskip (t := 64) (b := false) rfl (by decide) rfl ?_
  refine Lskip (t := 64) (b := false) rfl (by decide) rfl ?_
  refine Lskip (t := 64) (b := false) rfl (by decide) rfl ?_
  refine L1 (pk_t rfl rfl) ?_
  refine wpList_nil ?_
  refine then_n ?_
  refine cond_t rfl ?_
  refine wp_seq ?_
  -- region 10
  refine reg_lit ?_
  refine L1 (mv (v := .pointer _) rfl) ?_
  refine L1 (mv (v := .pointer _) rfl) ?_
  refine L1 (nilP rfl) ?_
  refine L1 (fa95_9 rfl) ?_
  refine LC (cl1 has50 rfl rfl) (rf_c E _ _ (cpd E hs wr pos (32768 - wr)) bs cs (pos + (32768 - wr)) (no + (32768 - wr)) fl0 (wr + (32768 - wr)) hE hW (hDw.push _ rfl (by omega) ((((Off.refl [2, 1052, 1038] g).upd (by simp) _).upd (by simp) _).upd (by simp) _) (by decide))) ?_
  rintro v w1 ⟨hv, g1, hW, hD1, ho, kp1⟩
  have kp := kp.trans kp1
  refine L1 (nilP rfl) ?_
  refine L1 (fa95_15 rfl) ?_
  refine Lst22 (v := v) rfl rfl (by obtain ⟨_, _, _, rfl, _⟩ := hv; rfl) hW.F (by decide) ?_
  intro w1 hb1 kp1
  have hW := hW.setF hE hb1 kp1
  have kp := kp.F kp1
  refine wpList_nil ?_
  refine then_n ?_
  refine wp_seq ?_
  -- region 11
  refine reg_lit ?_
  refine L1 (mv (v := .pointer _) rfl) ?_
  refine L1 (nilP rfl) ?_
  refine L1 (fa95_11 rfl) ?_
  refine Lst92 (v := .func _ _ _) rfl rfl rfl hW.F (by decide) ?_
  intro w1 hb1 kp1
  have hW := hW.setF hE hb1 kp1
  have kp := kp.F kp1
  clear hb1 kp1
  refine wpList_nil ?_
  refine then_n ?_
  refine wp_ret ?_
  refine then_r ?_
  refine ret0 rfl ?_
  refine ⟨_, rfl, rfl, _, hW, ⟨_, (ho _ (by decide)).trans rfl⟩, rfl, ?_, hD1.off (((Off.refl [1045, 1049] g1).upd (by decide) _).upd (by decide) _) (by decide), hv, ?_, kp⟩
  · exact ((ho _ (by decide)).trans rfl : g1 1052 = Value.int .i64 ((n - (32768 - wr) : Nat) : Int))
  · exact ((((((Off.refl [2, 1052, 1038, 1039, 1040, 1045, 1049] g).upd (by decide) _).upd (by decide) _).upd (by decide) _).trans (ho.mono (by simp))).upd (by decide) _).upd (by decide) _
theorem cd_end_ok_more (E : Env) (w : World) (g hs bs cs : Nat → Value) (pos wr rd n : Nat) (full : Bool) (ro : Int) (hE : E.Ok) (hW : Wd E w g hs bs cs pos) (hS : Stc E g) (hD : DD E g wr rd full) (hro : g 2 = .int .i64 ro) (hl : g 1052 = .int .i64 n) (hw : wr < 32768) (hn : n ≤ 65535) (hle : pos ≤ E.N) (hb : n < 32768 - wr) (hp : pos + n ≤ E.N) (hz : 0 < n) (no fl0 : Nat) (hDw : Dw E g no fl0 wr) (hf : g 1047 = .bool false) :
    Ret 52 [fp E] w fun v w' => v = .tuple #[] ∧ ∃ g', Wd E w' g' (cpd E hs wr pos n) bs cs (pos + n) ∧ (∃ x, g' 2 = .int .i64 x) ∧ g' 1045 = fnv 35 ∧ g' 1052 = .int .i64 0 ∧ Dw E g' (no + n) fl0 (wr + n) ∧ Off [2, 1052, 1038, 1045] g g' ∧ Kp E.L w w' := by
  have kp := Kp.refl E.L w
  have hN := hE.N47
  refine calls_fr (N := 83) Tryd.func52 rfl rfl (by simp [fp]) rfl ?_
  refine wp_seq ?_
  -- region 0
  refine reg_lit ?_
  refine L1 (mv (v := .pointer _) rfl) ?_
  refine L1 (nilP rfl) ?_
  refine L1 (fa95_9 rfl) ?_
  refine LC (cl1 has63 rfl rfl) (writeSlice_c E _ g wr rd full hW.F hD hw) ?_
  rintro v w1 ⟨rfl, rfl⟩
  have hW := hW.drew
  have kp := kp.drew
  refine L1 (asg (v := .slice _ _ _) rfl) ?_
  refine wpList_nil ?_
  refine then_n ?_
  refine wp_seq ?_
  refine wp_seq ?_
  -- region 1
  refine reg_lit ?_
  refine L1 (mv (v := .slice _ _ _) rfl) ?_
  refine L1 (ln und22 rfl) ?_
  refine L1 (mv (v := .pointer _) rfl) ?_
  refine L1 (nilP rfl) ?_
  refine L1 (fa95_18 rfl) ?_
  refine L1 (ld3 rfl (hW.F.cellv (by decide) hl)) ?_
  refine L1 (bi rfl rfl (bn_gtr (v := true) (decide_eq_true (by omega)))) ?_
  refine wpList_nil ?_
  refine then_n ?_
  refine cond_t rfl ?_
  -- region 2
  refine reg_lit ?_
  refine L1 (mv (v := .slice _ _ _) rfl) ?_
  refine L1 (mv (v := .pointer _) rfl) ?_
  refine L1 (nilP rfl) ?_
  refine L1 (fa95_18 rfl) ?_
  refine L1 (ld3 rfl (hW.F.cellv (by decide) hl)) ?_
  refine L1 (sl_h und22 sz5 rfl rfl rfl (by omega)) ?_
  refine L1 (asg (v := .slice _ _ _) rfl) ?_
  refine wpList_nil ?_
  refine then_n ?_
  refine wp_seq ?_
  -- region 3
  refine reg_lit ?_
  refine L1 (mv (v := .pointer _) rfl) ?_
  refine L1 (nilP rfl) ?_
  refine L1 (fa95_0 rfl) ?_
  refine L1 (ld80 rfl (hW.F.cellv (by decide) hS.r)) ?_
  refine L1 (mv (v := .slice _ _ _) rfl) ?_
  refine LC (cl2 has49 rfl rfl rfl) (rdf_ok E _ pos hE hW.gl hW.rd E.H wr n (32768 - wr) 32768 5 hs hW.H (fun e => hE.RH e.symm) (fun e => hE.SH e.symm) hE.bH (by omega) (by omega) (by omega) (by decide) (by omega)) ?_
  rintro v w1 ⟨rfl, hrd, hh, kp1⟩
  have hW := hW.setHR hE hh hrd kp1
  have kp := kp.trans (kp1.mono (by simp [Env.L]))
  clear kp1 hh hrd
  refine L1 (mv (v := .tuple _) rfl) ?_
  refine L1 (ext2_0 rfl) ?_
  refine L1 (ext2_1 rfl) ?_
  refine L1 (asg (v := .int _ _) rfl) ?_
  refine L1 (asg (v := .nilIface) rfl) ?_
  refine wpList_nil ?_
  refine then_n ?_
  refine wp_seq ?_
  -- region 4
  refine reg_lit ?_
  refine L1 (mv (v := .pointer _) rfl) ?_
  refine L1 (nilP rfl) ?_
  refine L1 (fa95_2 rfl) ?_
  refine L1 (ld2 rfl (hW.F.cellv (by decide) hro)) ?_
  refine L1 (mv (v := .int _ _) rfl) ?_
  refine L1 (bi rfl rfl (bn_addw)) ?_
  refine L1 (nilP rfl) ?_
  refine L1 (fa95_2 rfl) ?_
  refine Lst2 (v := .int _ _) rfl rfl rfl hW.F (by decide) ?_
  intro w1 hb1 kp1
  have hW := hW.setF hE hb1 kp1
  have kp := kp.F kp1
  clear hb1 kp1
  refine wpList_nil ?_
  refine then_n ?_
  refine wp_seq ?_
  -- region 5
  refine reg_lit ?_
  refine L1 (mv (v := .pointer _) rfl) ?_
  refine L1 (nilP rfl) ?_
  refine L1 (fa95_18 rfl) ?_
  refine L1 (ld3 rfl (hW.F.cellv (by decide) hl)) ?_
  refine L1 (mv (v := .int _ _) rfl) ?_
  refine L1 (bi rfl rfl (bn_sub (c := ((n - n : Nat) : Int)) (by omega) (by omega) (by omega))) ?_
  refine L1 (nilP rfl) ?_
  refine L1 (fa95_18 rfl) ?_
  refine Lst3 (v := .int _ _) rfl rfl rfl hW.F (by decide) ?_
  intro w1 hb1 kp1
  have hW := hW.setF hE hb1 kp1
  have kp := kp.F kp1
  clear hb1 kp1
  refine wpList_nil ?_
  refine then_n ?_
  refine wp_seq ?_
  -- region 6
  refine reg_lit ?_
  refine L1 (mv (v := .pointer _) rfl) ?_
  refine L1 (nilP rfl) ?_
  refine L1 (fa95_9 rfl) ?_
  refine L1 (mv (v := .int _ _) rfl) ?_
  refine LC (cl2 has64 rfl rfl rfl) (writeMark_c E _ _ wr rd full hW.F ⟨hD.hist, hD.wr, hD.rd, hD.full⟩ n (by omega)) ?_
  rintro v w1 ⟨rfl, hb1, kp1⟩
  have hW := hW.setF hE hb1 kp1
  have kp := kp.F kp1
  clear hb1 kp1
  refine wpList_nil ?_
  refine then_n ?_
  refine wp_seq ?_
  refine wp_seq ?_
  -- region 7
  refine reg_lit ?_
  refine L1 (mv (v := .nilIface) rfl) ?_
  refine L1 (en_nil rfl rfl) ?_
  refine wpList_nil ?_
  refine then_n ?_
  refine cond_f rfl ?_
  refine wp_skip ?_
  refine then_n ?_
  refine wp_seq ?_
  refine wp_seq ?_
  -- region 9
  refine reg_lit ?_
  refine L1 (mv (v := .pointer _) rfl) ?_
  refine L1 (nilP rfl) ?_
  refine L1 (fa95_9 rfl) ?_
  refine LC (cl1 has56 rfl rfl) (availWrite_c E _ _ (wr + n) rd full hW.F ⟨hD.hist, rfl, hD.rd, hD.full⟩ (by omega)) ?_
  rintro v w1 ⟨rfl, rfl⟩
  have hW := hW.drew
  have kp := kp.drew
  refine L1 (bi rfl rfl (bn_eql (v := false) (decide_eq_false (by omega)))) ?_
  refine L1 (mv (v := .bool _) rfl) ?_
  refine L1g (t := 64) (b := false) rfl (by decide) rfl (mv (v := .pointer _) rfl) ?_
  refine L1g (t := 64) (b := false) rfl (by decide) rfl (nilP rfl) ?_
  refine L1g (t := 64) (b := false) rfl (by decide) rfl (fa95_18 rfl) ?_
  refine L1g (t := 64) (b := false) rfl (by decide) rfl (ld3 rfl (hW.F.cellv (v := .int _ _) (by decide) rfl)) ?_
  refine L1g (t := 64) (b := false) rfl (by decide) rfl (bi rfl rfl (bn_gtr (v := false) (decide_eq_false (by omega)))) ?_
  refine L1 (pk_f rfl rfl) ?_
  refine wpList_nil ?_
  refine then_n ?_
  refine cond_f rfl ?_
  refine wp_skip ?_
  refine then_n ?_
  -- region 12
  refine reg_lit ?_
  refine L1 (mv (v := .pointer _) rfl) ?_
  refine LC (cl1 has51 rfl rfl) (finish_more E _ _ (cpd E hs wr pos n) bs cs (pos + n) hE hW hf) ?_
  rintro v w1 ⟨rfl, g1, hW, h45, ho, kp1⟩
  have kp := kp.trans kp1
  refine wpList_nil ?_
  refine end0 rfl ?_
  refine ⟨_, rfl, rfl, g1, hW, ⟨_, (ho _ (by decide)).trans rfl⟩, h45, ?_, ?_, ?_, kp⟩
  · exact ((ho _ (by decide)).trans rfl : g1 1052 = Value.int .i64 ((n - n : Nat) : Int)).trans (by rw [show n - n = 0 by omega]; rfl)
  · exact (hDw.push n rfl (by omega) ((((Off.refl [2, 1052, 1038] g).upd (by simp) _).upd (by simp) _).upd (by simp) _) (by decide)).off ho (by decide)
  · exact (((((Off.refl [2, 1052, 1038] g).upd (by simp) _).upd (by simp) _).upd (by simp) _).mono (by decide)).trans (ho.mono (by decide))
theorem cd_end_ok_last (E : Env) (w : World) (g hs bs cs : Nat → Value) (pos wr rd n : Nat) (full : Bool) (ro : Int) (hE : E.Ok) (hW : Wd E w g hs bs cs pos) (hS : Stc E g) (hD : DD E g wr rd full) (hro : g 2 = .int .i64 ro) (hl : g 1052 = .int .i64 n) (hw : wr < 32768) (hn : n ≤ 65535) (hle : pos ≤ E.N) (hb : n < 32768 - wr) (hp : pos + n ≤ E.N) (hz : 0 < n) (no fl0 : Nat) (hDw : Dw E g no fl0 wr) (hf : g 1047 = .bool true) (hT : TR E g fl0 fl0) :
    Ret 52 [fp E] w fun v w' => v = .tuple #[] ∧ ∃ g', Wd E w' g' (cpd E hs wr pos n) bs cs (pos + n) ∧ g' 1048 = EOFv E ∧ Dw E g' (no + n) (no + n) (nx (wr + n)) ∧ TR E g' fl0 (no + n) ∧ Off [2, 1052, 1038, 1039, 1040, 1045, 1048, 1049] g g' ∧ Kp E.L w w' := by
  have kp := Kp.refl E.L w
  have hN := hE.N47
  refine calls_fr (N := 83) Tryd.func52 rfl rfl (by simp [fp]) rfl ?_
  refine wp_seq ?_
  -- region 0
  refine reg_lit ?_
  refine L1 (mv (v := .pointer _) rfl) ?_
  refine L1 (nilP rfl) ?_
  refine L1 (fa95_9 rfl) ?_
  refine LC (cl1 has63 rfl rfl) (writeSlice_c E _ g wr rd full hW.F hD hw) ?_
  rintro v w1 ⟨rfl, rfl⟩
  have hW := hW.drew
  have kp := kp.drew
  refine L1 (asg (v := .slice _ _ _) rfl) ?_
  refine wpList_nil ?_
  refine then_n ?_
  refine wp_seq ?_
  refine wp_seq ?_
  -- region 1
  refine reg_lit ?_
  refine L1 (mv (v := .slice _ _ _) rfl) ?_
  refine L1 (ln und22 rfl) ?_
  refine L1 (mv (v := .pointer _) rfl) ?_
  refine L1 (nilP rfl) ?_
  refine L1 (fa95_18 rfl) ?_
  refine L1 (ld3 rfl (hW.F.cellv (by decide) hl)) ?_
  refine L1 (bi rfl rfl (bn_gtr (v := true) (decide_eq_true (by omega)))) ?_
  refine wpList_nil ?_
  refine then_n ?_
  refine cond_t rfl ?_
  -- region 2
  refine reg_lit ?_
  refine L1 (mv (v := .slice _ _ _) rfl) ?_
  refine L1 (mv (v := .pointer _) rfl) ?_
  refine L1 (nilP rfl) ?_
  refine L1 (fa95_18 rfl) ?_
  refine L1 (ld3 rfl (hW.F.cellv (by decide) hl)) ?_
  refine L1 (sl_h und22 sz5 rfl rfl rfl (by omega)) ?_
  refine L1 (asg (v := .slice _ _ _) rfl) ?_
  refine wpList_nil ?_
  refine then_n ?_
  refine wp_seq ?_
  -- region 3
  refine reg_lit ?_
  refine L1 (mv (v := .pointer _) rfl) ?_
  refine L1 (nilP rfl) ?_
  refine L1 (fa95_0 rfl) ?_
  refine L1 (ld80 rfl (hW.F.cellv (by decide) hS.r)) ?_
  refine L1 (mv (v := .slice _ _ _) rfl) ?_
  refine LC (cl2 has49 rfl rfl rfl) (rdf_ok E _ pos hE hW.gl hW.rd E.H wr n (32768 - wr) 32768 5 hs hW.H (fun e => hE.RH e.symm) (fun e => hE.SH e.symm) hE.bH (by omega) (by omega) (by omega) (by decide) (by omega)) ?_
  rintro v w1 ⟨rfl, hrd, hh, kp1⟩
  have hW := hW.setHR hE hh hrd kp1
  have kp := kp.trans (kp1.mono (by simp [Env.L]))
  clear kp1 hh hrd
  refine L1 (mv (v := .tuple _) rfl) ?_
  refine L1 (ext2_0 rfl) ?_
  refine L1 (ext2_1 rfl) ?_
  refine L1 (asg (v := .int _ _) rfl) ?_
  refine L1 (asg (v := .nilIface) rfl) ?_
  refine wpList_nil ?_
  refine then_n ?_
  refine wp_seq ?_
  -- region 4
  refine reg_lit ?_
  refine L1 (mv (v := .pointer _) rfl) ?_
  refine L1 (nilP rfl) ?_
  refine L1 (fa95_2 rfl) ?_
  refine L1 (ld2 rfl (hW.F.cellv (by decide) hro)) ?_
  refine L1 (mv (v := .int _ _) rfl) ?_
  refine L1 (bi rfl rfl (bn_addw)) ?_
  refine L1 (nilP rfl) ?_
  refine L1 (fa95_2 rfl) ?_
  refine Lst2 (v := .int _ _) rfl rfl rfl hW.F (by decide) ?_
  intro w1 hb1 kp1
  have hW := hW.setF hE hb1 kp1
  have kp := kp.F kp1
  clear hb1 kp1
  refine wpList_nil ?_
  refine then_n ?_
  refine wp_seq ?_
  -- region 5
  refine reg_lit ?_
  refine L1 (mv (v := .pointer _) rfl) ?_
  refine L1 (nilP rfl) ?_
  refine L1 (fa95_18 rfl) ?_
  refine L1 (ld3 rfl (hW.F.cellv (by decide) hl)) ?_
  refine L1 (mv (v := .int _ _) rfl) ?_
  refine L1 (bi rfl rfl (bn_sub (c := ((n - n : Nat) : Int)) (by omega) (by omega) (by omega))) ?_
  refine L1 (nilP rfl) ?_
  refine L1 (fa95_18 rfl) ?_
  refine Lst3 (v := .int _ _) rfl rfl rfl hW.F (by decide) ?_
  intro w1 hb1 kp1
  have hW := hW.setF hE hb1 kp1
  have kp := kp.F kp1
  clear hb1 kp1
  refine wpList_nil ?_
  refine then_n ?_
  refine wp_seq ?_
  -- region 6
  refine reg_lit ?_
  refine L1 (mv (v := .pointer _) rfl) ?_
  refine L1 (nilP rfl) ?_
  refine L1 (fa95_9 rfl) ?_
  refine L1 (mv (v := .int _ _) rfl) ?_
  refine LC (cl2 has64 rfl rfl rfl) (writeMark_c E _ _ wr rd full hW.F ⟨hD.hist, hD.wr, hD.rd, hD.full⟩ n (by omega)) ?_
  rintro v w1 ⟨rfl, hb1, kp1⟩
  have hW := hW.setF hE hb1 kp1
  have kp := kp.F kp1
  clear hb1 kp1
  refine wpList_nil ?_
  refine then_n ?_
  refine wp_seq ?_
  refine wp_seq ?_
  -- region 7
  refine reg_lit ?_
  refine L1 (mv (v := .nilIface) rfl) ?_
  refine L1 (en_nil rfl rfl) ?_
  refine wpList_nil ?_
  refine then_n ?_
  refine cond_f rfl ?_
  refine wp_skip ?_
  refine then_n ?_
  refine wp_seq ?_
  refine wp_seq ?_
  -- region 9
  refine reg_lit ?_
  refine L1 (mv (v := .pointer _) rfl) ?_
  refine L1 (nilP rfl) ?_
  refine L1 (fa95_9 rfl) ?_
  refine LC (cl1 has56 rfl rfl) (availWrite_c E _ _ (wr + n) rd full hW.F ⟨hD.hist, rfl, hD.rd, hD.full⟩ (by omega)) ?_
  rintro v w1 ⟨rfl, rfl⟩
  have hW := hW.drew
  have kp := kp.drew
  refine L1 (bi rfl rfl (bn_eql (v := false) (decide_eq_false (by omega)))) ?_
  refine L1 (mv (v := .bool _) rfl) ?_
  refine L1g (t := 64) (b := false) rfl (by decide) rfl (mv (v := .pointer _) rfl) ?_
  refine L1g (t := 64) (b := false) rfl (by decide) rfl (nilP rfl) ?_
  refine L1g (t := 64) (b := false) rfl (by decide) rfl (fa95_18 rfl) ?_
  refine L1g (t := 64) (b := false) rfl (by decide) rfl (ld3 rfl (hW.F.cellv (v := .int _ _) (by decide) rfl)) ?_
  refine L1g (t := 64) (b := false) rfl (by decide) rfl (bi rfl rfl (bn_gtr (v := false) (decide_eq_false (by omega)))) ?_
  refine L1 (pk_f rfl rfl) ?_
  refine wpList_nil ?_
  refine then_n ?_
  refine cond_f rfl ?_
  refine wp_skip ?_
  refine then_n ?_
  -- region 12
  refine reg_lit ?_
  refine L1 (mv (v := .pointer _) rfl) ?_
  refine LC (cl1 has51 rfl rfl) (finish_last E _ _ (cpd E hs wr pos n) bs cs (pos + n) hE hW hf (no + n) fl0 (wr + n) (by omega) (hDw.push n rfl (by omega) ((((Off.refl [2, 1052, 1038] g).upd (by simp) _).upd (by simp) _).upd (by simp) _) (by decide)) (hT.off ((((Off.refl [2, 1052, 1038] g).upd (by simp) _).upd (by simp) _).upd (by simp) _) (by decide))) ?_
  rintro v w1 ⟨rfl, g1, hW, h45, h48, hD1, hT1, ho, kp1⟩
  have kp := kp.trans kp1
  refine wpList_nil ?_
  refine end0 rfl ?_
  refine ⟨_, rfl, rfl, g1, hW, h48, hD1, hT1, ?_, kp⟩
  exact (((((Off.refl [2, 1052, 1038] g).upd (by simp) _).upd (by simp) _).upd (by simp) _).mono (by decide)).trans (ho.mono (by decide))
theorem cd_end_zero_more (E : Env) (w : World) (g hs bs cs : Nat → Value) (pos wr rd n : Nat) (full : Bool) (ro : Int) (hE : E.Ok) (hW : Wd E w g hs bs cs pos) (hS : Stc E g) (hD : DD E g wr rd full) (hro : g 2 = .int .i64 ro) (hl : g 1052 = .int .i64 n) (hw : wr < 32768) (hn : n ≤ 65535) (hle : pos ≤ E.N) (hb : n < 32768 - wr) (hp : pos + n ≤ E.N) (hz : n = 0) (no fl0 : Nat) (hDw : Dw E g no fl0 wr) (hf : g 1047 = .bool false) :
    Ret 52 [fp E] w fun v w' => v = .tuple #[] ∧ ∃ g', Wd E w' g' hs bs cs (pos + 0) ∧ (∃ x, g' 2 = .int .i64 x) ∧ g' 1045 = fnv 35 ∧ g' 1052 = .int .i64 0 ∧ Dw E g' (no + 0) fl0 (wr + 0) ∧ Off [2, 1052, 1038, 1045] g g' ∧ Kp E.L w w' := by
  subst hz
  have kp := Kp.refl E.L w
  have hN := hE.N47
  refine calls_fr (N := 83) Tryd.func52 rfl rfl (by simp [fp]) rfl ?_
  refine wp_seq ?_
  -- region 0
  refine reg_lit ?_
  refine L1 (mv (v := .pointer _) rfl) ?_
  refine L1 (nilP rfl) ?_
  refine L1 (fa95_9 rfl) ?_
  refine LC (cl1 has63 rfl rfl) (writeSlice_c E _ g wr rd full hW.F hD hw) ?_
  rintro v w1 ⟨rfl, rfl⟩
  have hW := hW.drew
  have kp := kp.drew
  refine L1 (asg (v := .slice _ _ _) rfl) ?_
  refine wpList_nil ?_
  refine then_n ?_
  refine wp_seq ?_
  refine wp_seq ?_
  -- region 1
  refine reg_lit ?_
  refine L1 (mv (v := .slice _ _ _) rfl) ?_
  refine L1 (ln und22 rfl) ?_
  refine L1 (mv (v := .pointer _) rfl) ?_
  refine L1 (nilP rfl) ?_
  refine L1 (fa95_18 rfl) ?_
  refine L1 (ld3 rfl (hW.F.cellv (by decide) hl)) ?_
  refine L1 (bi rfl rfl (bn_gtr (v := true) (decide_eq_true (by omega)))) ?_
  refine wpList_nil ?_
  refine then_n ?_
  refine cond_t rfl ?_
  -- region 2
  refine reg_lit ?_
  refine L1 (mv (v := .slice _ _ _) rfl) ?_
  refine L1 (mv (v := .pointer _) rfl) ?_
  refine L1 (nilP rfl) ?_
  refine L1 (fa95_18 rfl) ?_
  refine L1 (ld3 rfl (hW.F.cellv (by decide) hl)) ?_
  refine L1 (sl_h und22 sz5 rfl rfl rfl (by omega)) ?_
  refine L1 (asg (v := .slice _ _ _) rfl) ?_
  refine wpList_nil ?_
  refine then_n ?_
  refine wp_seq ?_
  -- region 3
  refine reg_lit ?_
  refine L1 (mv (v := .pointer _) rfl) ?_
  refine L1 (nilP rfl) ?_
  refine L1 (fa95_0 rfl) ?_
  refine L1 (ld80 rfl (hW.F.cellv (by decide) hS.r)) ?_
  refine L1 (mv (v := .slice _ _ _) rfl) ?_
  refine LC (cl2 has49 rfl rfl rfl) (rdf_zero _ _ _ _) ?_
  rintro v w1 ⟨rfl, rfl⟩
  refine L1 (mv (v := .tuple _) rfl) ?_
  refine L1 (ext2_0 rfl) ?_
  refine L1 (ext2_1 rfl) ?_
  refine L1 (asg (v := .int _ _) rfl) ?_
  refine L1 (asg (v := .nilIface) rfl) ?_
  refine wpList_nil ?_
  refine then_n ?_
  refine wp_seq ?_
  -- region 4
  refine reg_lit ?_
  refine L1 (mv (v := .pointer _) rfl) ?_
  refine L1 (nilP rfl) ?_
  refine L1 (fa95_2 rfl) ?_
  refine L1 (ld2 rfl (hW.F.cellv (by decide) hro)) ?_
  refine L1 (mv (v := .int _ _) rfl) ?_
  refine L1 (bi rfl rfl (bn_addw)) ?_
  refine L1 (nilP rfl) ?_
  refine L1 (fa95_2 rfl) ?_
  refine Lst2 (v := .int _ _) rfl rfl rfl hW.F (by decide) ?_
  intro w1 hb1 kp1
  have hW := hW.setF hE hb1 kp1
  have kp := kp.F kp1
  clear hb1 kp1
  refine wpList_nil ?_
  refine then_n ?_
  refine wp_seq ?_
  -- region 5
  refine reg_lit ?_
  refine L1 (mv (v := .pointer _) rfl) ?_
  refine L1 (nilP rfl) ?_
  refine L1 (fa95_18 rfl) ?_
  refine L1 (ld3 rfl (hW.F.cellv (by decide) hl)) ?_
  refine L1 (mv (v := .int _ _) rfl) ?_
  refine L1 (bi rfl rfl (bn_sub (c := ((0 - 0 : Nat) : Int)) (by omega) (by omega) (by omega))) ?_
  refine L1 (nilP rfl) ?_
  refine L1 (fa95_18 rfl) ?_
  refine Lst3 (v := .int _ _) rfl rfl rfl hW.F (by decide) ?_
  intro w1 hb1 kp1
  have hW := hW.setF hE hb1 kp1
  have kp := kp.F kp1
  clear hb1 kp1
  refine wpList_nil ?_
  refine then_n ?_
  refine wp_seq ?_
  -- region 6
  refine reg_lit ?_
  refine L1 (mv (v := .pointer _) rfl) ?_
  refine L1 (nilP rfl) ?_
  refine L1 (fa95_9 rfl) ?_
  refine L1 (mv (v := .int _ _) rfl) ?_
  refine LC (cl2 has64 rfl rfl rfl) (writeMark_c E _ _ wr rd full hW.F ⟨hD.hist, hD.wr, hD.rd, hD.full⟩ 0 (by omega)) ?_
  rintro v w1 ⟨rfl, hb1, kp1⟩
  have hW := hW.setF hE hb1 kp1
  have kp := kp.F kp1
  clear hb1 kp1
  refine wpList_nil ?_
  refine then_n ?_
  refine wp_seq ?_
  refine wp_seq ?_
  -- region 7
  refine reg_lit ?_
  refine L1 (mv (v := .nilIface) rfl) ?_
  refine L1 (en_nil rfl rfl) ?_
  refine wpList_nil ?_
  refine then_n ?_
  refine cond_f rfl ?_
  refine wp_skip ?_
  refine then_n ?_
  refine wp_seq ?_
  refine wp_seq ?_
  -- region 9
  refine reg_lit ?_
  refine L1 (mv (v := .pointer _) rfl) ?_
  refine L1 (nilP rfl) ?_
  refine L1 (fa95_9 rfl) ?_
  refine LC (cl1 has56 rfl rfl) (availWrite_c E _ _ (wr + 0) rd full hW.F ⟨hD.hist, rfl, hD.rd, hD.full⟩ (by omega)) ?_
  rintro v w1 ⟨rfl, rfl⟩
  have hW := hW.drew
  have kp := kp.drew
  refine L1 (bi rfl rfl (bn_eql (v := false) (decide_eq_false (by omega)))) ?_
  refine L1 (mv (v := .bool _) rfl) ?_
  refine L1g (t := 64) (b := false) rfl (by decide) rfl (mv (v := .pointer _) rfl) ?_
  refine L1g (t := 64) (b := false) rfl (by decide) rfl (nilP rfl) ?_
  refine L1g (t := 64) (b := false) rfl (by decide) rfl (fa95_18 rfl) ?_
  refine L1g (t := 64) (b := false) rfl (by decide) rfl (ld3 rfl (hW.F.cellv (v := .int _ _) (by decide) rfl)) ?_
  refine L1g (t := 64) (b := false) rfl (by decide) rfl (bi rfl rfl (bn_gtr (v := false) (decide_eq_false (by omega)))) ?_
  refine L1 (pk_f rfl rfl) ?_
  refine wpList_nil ?_
  refine then_n ?_
  refine cond_f rfl ?_
  refine wp_skip ?_
  refine then_n ?_
  -- region 12
  refine reg_lit ?_
  refine L1 (mv (v := .pointer _) rfl) ?_
  refine LC (cl1 has51 rfl rfl) (finish_more E _ _ hs bs cs pos hE hW hf) ?_
  rintro v w1 ⟨rfl, g1, hW, h45, ho, kp1⟩
  have kp := kp.trans kp1
  refine wpList_nil ?_
  refine end0 rfl ?_
  refine ⟨_, rfl, rfl, g1, hW, ⟨_, (ho _ (by decide)).trans rfl⟩, h45, ?_, ?_, ?_, kp⟩
  · exact ((ho _ (by decide)).trans rfl : g1 1052 = Value.int .i64 ((0 - 0 : Nat) : Int)).trans (by rw [show 0 - 0 = 0 by omega]; rfl)
  · exact (hDw.push 0 rfl (by omega) ((((Off.refl [2, 1052, 1038] g).upd (by simp) _).upd (by simp) _).upd (by simp) _) (by decide)).off ho (by decide)
  · exact (((((Off.refl [2, 1052, 1038] g).upd (by simp) _).upd (by simp) _).upd (by simp) _).mono (by decide)).trans (ho.mono (by decide))
theorem cd_end_zero_last (E : Env) (w : World) (g hs bs cs : Nat → Value) (pos wr rd n : Nat) (full : Bool) (ro : Int) (hE : E.Ok) (hW : Wd E w g hs bs cs pos) (hS : Stc E g) (hD : DD E g wr rd full) (hro : g 2 = .int .i64 ro) (hl : g 1052 = .int .i64 n) (hw : wr < 32768) (hn : n ≤ 65535) (hle : pos ≤ E.N) (hb : n < 32768 - wr) (hp : pos + n ≤ E.N) (hz : n = 0) (no fl0 : Nat) (hDw : Dw E g no fl0 wr) (hf : g 1047 = .bool true) (hT : TR E g fl0 fl0) :
    Ret 52 [fp E] w fun v w' => v = .tuple #[] ∧ ∃ g', Wd E w' g' hs bs cs (pos + 0) ∧ g' 1048 = EOFv E ∧ Dw E g' (no + 0) (no + 0) (nx (wr + 0)) ∧ TR E g' fl0 (no + 0) ∧ Off [2, 1052, 1038, 1039, 1040, 1045, 1048, 1049] g g' ∧ Kp E.L w w' := by
  subst hz
  have kp := Kp.refl E.L w
  have hN := hE.N47
  refine calls_fr (N := 83) Tryd.func52 rfl rfl (by simp [fp]) rfl ?_
  refine wp_seq ?_
  -- region 0
  refine reg_lit ?_
  refine L1 (mv (v := .pointer _) rfl) ?_
  refine L1 (nilP rfl) ?_
  refine L1 (fa95_9 rfl) ?_
  refine LC (cl1 has63 rfl rfl) (writeSlice_c E _ g wr rd full hW.F hD hw) ?_
  rintro v w1 ⟨rfl, rfl⟩
  have hW := hW.drew
  have kp := kp.drew
  refine L1 (asg (v := .slice _ _ _) rfl) ?_
  refine wpList_nil ?_
  refine then_n ?_
  refine wp_seq ?_
  refine wp_seq ?_
  -- region 1
  refine reg_lit ?_
  refine L1 (mv (v := .slice _ _ _) rfl) ?_
  refine L1 (ln und22 rfl) ?_
  refine L1 (mv (v := .pointer _) rfl) ?_
  refine L1 (nilP rfl) ?_
  refine L1 (fa95_18 rfl) ?_
  refine L1 (ld3 rfl (hW.F.cellv (by decide) hl)) ?_
  refine L1 (bi rfl rfl (bn_gtr (v := true) (decide_eq_true (by omega)))) ?_
  refine wpList_nil ?_
  refine then_n ?_
  refine cond_t rfl ?_
  -- region 2
  refine reg_lit ?_
  refine L1 (mv (v := .slice _ _ _) rfl) ?_
  refine L1 (mv (v := .pointer _) rfl) ?_
  refine L1 (nilP rfl) ?_
  refine L1 (fa95_18 rfl) ?_
  refine L1 (ld3 rfl (hW.F.cellv (by decide) hl)) ?_
  refine L1 (sl_h und22 sz5 rfl rfl rfl (by omega)) ?_
  refine L1 (asg (v := .slice _ _ _) rfl) ?_
  refine wpList_nil ?_
  refine then_n ?_
  refine wp_seq ?_
  -- region 3
  refine reg_lit ?_
  refine L1 (mv (v := .pointer _) rfl) ?_
  refine L1 (nilP rfl) ?_
  refine L1 (fa95_0 rfl) ?_
  refine L1 (ld80 rfl (hW.F.cellv (by decide) hS.r)) ?_
  refine L1 (mv (v := .slice _ _ _) rfl) ?_
  refine LC (cl2 has49 rfl rfl rfl) (rdf_zero _ _ _ _) ?_
  rintro v w1 ⟨rfl, rfl⟩
  refine L1 (mv (v := .tuple _) rfl) ?_
  refine L1 (ext2_0 rfl) ?_
  refine L1 (ext2_1 rfl) ?_
  refine L1 (asg (v := .int _ _) rfl) ?_
  refine L1 (asg (v := .nilIface) rfl) ?_
  refine wpList_nil ?_
  refine then_n ?_
  refine wp_seq ?_
  -- region 4
  refine reg_lit ?_
  refine L1 (mv (v := .pointer _) rfl) ?_
  refine L1 (nilP rfl) ?_
  refine L1 (fa95_2 rfl) ?_
  refine L1 (ld2 rfl (hW.F.cellv (by decide) hro)) ?_
  refine L1 (mv (v := .int _ _) rfl) ?_
  refine L1 (bi rfl rfl (bn_addw)) ?_
  refine L1 (nilP rfl) ?_
  refine L1 (fa95_2 rfl) ?_
  refine Lst2 (v := .int _ _) rfl rfl rfl hW.F (by decide) ?_
  intro w1 hb1 kp1
  have hW := hW.setF hE hb1 kp1
  have kp := kp.F kp1
  clear hb1 kp1
  refine wpList_nil ?_
  refine then_n ?_
  refine wp_seq ?_
  -- region 5
  refine reg_lit ?_
  refine L1 (mv (v := .pointer _) rfl) ?_
  refine L1 (nilP rfl) ?_
  refine L1 (fa95_18 rfl) ?_
  refine L1 (ld3 rfl (hW.F.cellv (by decide) hl)) ?_
  refine L1 (mv (v := .int _ _) rfl) ?_
  refine L1 (bi rfl rfl (bn_sub (c := ((0 - 0 : Nat) : Int)) (by omega) (by omega) (by omega))) ?_
  refine L1 (nilP rfl) ?_
  refine L1 (fa95_18 rfl) ?_
  refine Lst3 (v := .int _ _) rfl rfl rfl hW.F (by decide) ?_
  intro w1 hb1 kp1
  have hW := hW.setF hE hb1 kp1
  have kp := kp.F kp1
  clear hb1 kp1
  refine wpList_nil ?_
  refine then_n ?_
  refine wp_seq ?_
  -- region 6
  refine reg_lit ?_
  refine L1 (mv (v := .pointer _) rfl) ?_
  refine L1 (nilP rfl) ?_
  refine L1 (fa95_9 rfl) ?_
  refine L1 (mv (v := .int _ _) rfl) ?_
  refine LC (cl2 has64 rfl rfl rfl) (writeMark_c E _ _ wr rd full hW.F ⟨hD.hist, hD.wr, hD.rd, hD.full⟩ 0 (by omega)) ?_
  rintro v w1 ⟨rfl, hb1, kp1⟩
  have hW := hW.setF hE hb1 kp1
  have kp := kp.F kp1
  clear hb1 kp1
  refine wpList_nil ?_
  refine then_n ?_
  refine wp_seq ?_
  refine wp_seq ?_
  -- region 7
  refine reg_lit ?_
  refine L1 (mv (v := .nilIface) rfl) ?_
  refine L1 (en_nil rfl rfl) ?_
  refine wpList_nil ?_
  refine then_n ?_
  refine cond_f rfl ?_
  refine wp_skip ?_
  refine then_n ?_
  refine wp_seq ?_
  refine wp_seq ?_
  -- region 9
  refine reg_lit ?_
  refine L1 (mv (v := .pointer _) rfl) ?_
  refine L1 (nilP rfl) ?_
  refine L1 (fa95_9 rfl) ?_
  refine LC (cl1 has56 rfl rfl) (availWrite_c E _ _ (wr + 0) rd full hW.F ⟨hD.hist, rfl, hD.rd, hD.full⟩ (by omega)) ?_
  rintro v w1 ⟨rfl, rfl⟩
  have hW := hW.drew
  have kp := kp.drew
  refine L1 (bi rfl rfl (bn_eql (v := false) (decide_eq_false (by omega)))) ?_
  refine L1 (mv (v := .bool _) rfl) ?_
  refine L1g (t := 64) (b := false) rfl (by decide) rfl (mv (v := .pointer _) rfl) ?_
  refine L1g (t := 64) (b := false) rfl (by decide) rfl (nilP rfl) ?_
  refine L1g (t := 64) (b := false) rfl (by decide) rfl (fa95_18 rfl) ?_
  refine L1g (t := 64) (b := false) rfl (by decide) rfl (ld3 rfl (hW.F.cellv (v := .int _ _) (by decide) rfl)) ?_
  refine L1g (t := 64) (b := false) rfl (by decide) rfl (bi rfl rfl (bn_gtr (v := false) (decide_eq_false (by omega)))) ?_
  refine L1 (pk_f rfl rfl) ?_
  refine wpList_nil ?_
  refine then_n ?_
  refine cond_f rfl ?_
  refine wp_skip ?_
  refine then_n ?_
  -- region 12
  refine reg_lit ?_
  refine L1 (mv (v := .pointer _) rfl) ?_
  refine LC (cl1 has51 rfl rfl) (finish_last E _ _ hs bs cs pos hE hW hf (no + 0) fl0 (wr + 0) (by omega) (hDw.push 0 rfl (by omega) ((((Off.refl [2, 1052, 1038] g).upd (by simp) _).upd (by simp) _).upd (by simp) _) (by decide)) (hT.off ((((Off.refl [2, 1052, 1038] g).upd (by simp) _).upd (by simp) _).upd (by simp) _) (by decide))) ?_
  rintro v w1 ⟨rfl, g1, hW, h45, h48, hD1, hT1, ho, kp1⟩
  have kp := kp.trans kp1
  refine wpList_nil ?_
  refine end0 rfl ?_
  refine ⟨_, rfl, rfl, g1, hW, h48, hD1, hT1, ?_, kp⟩
  exact (((((Off.refl [2, 1052, 1038] g).upd (by simp) _).upd (by simp) _).upd (by simp) _).mono (by decide)).trans (ho.mono (by decide))
end Go.Proofs.YtejeloeaklpinaaDoor

/- copyData, as the machine tells it. -/
namespace Go.Proofs.YtejeloeaklpinaaDoor
theorem HZ.offs {g g' : Nat → Value} {L : List Nat} (h : HZ g 5 ∧ HZ g 520) (o : Off L g g') (hL : ∀ j, j ∈ L → j < 5 ∨ 1035 ≤ j) : HZ g' 5 ∧ HZ g' 520 :=
  ⟨h.1.keep fun j _ _ => o j (fun hm => by have := hL j hm; omega), h.2.keep fun j _ _ => o j (fun hm => by have := hL j hm; omega)⟩
theorem Rd.le {E : Env} {w : World} {pos : Nat} (h : Rd E w pos) : pos ≤ E.N := by
  obtain ⟨_, _, _, _, _, _, _, h, _⟩ := h; exact h
theorem avail_eq (out : List Nat) : avail out = 32768 - out.length % 32768 := rfl
theorem Bt.zero {E : Env} {g : Nat → Value} {pos : Nat} (h2 : ∃ n, g 2 = .int .i64 n) (h3 : g 3 = .int .u32 0) (h4 : g 4 = .int .u64 0) : Bt E g (8 * pos) pos :=
  ⟨h2, by rw [h3, Nat.sub_self, bv_zero]; rfl, by rw [h4, Nat.sub_self]; rfl, Nat.le_refl _, by omega⟩
/-- copyData. -/
theorem copyData_c (E : Env) (w : World) (a : A) (n : Nat) (hE : E.Ok) (hR : RepI E w a) (hmd : a.md = .data n) (hef : a.e = a.fl) (herr : a.err = 0) :
    Ret 52 [fp E] w fun v w' => v = .tuple #[] ∧ Rep E w' (mData E.S' a n).1 ∧ Kp E.L w w' := by
  obtain ⟨g, hs, bs, cs, hC, hL⟩ := hR
  have hmd' := hL.md
  rw [hmd] at hmd'
  obtain ⟨hSS, hl, hn, h3, h4⟩ := hmd'
  obtain ⟨ro, hro⟩ := hL.B.ro
  have hle := hC.W.rd.le
  have hSN : E.S'.N = E.N := rfl
  have hwr : a.out.length % 32768 < 32768 := Nat.mod_lt _ (by decide)
  have hD := hC.D
  obtain ⟨q, rd, e1, e2, e3, e4, hDD⟩ := hC.D
  have hT := hC.T
  rw [hef] at hT
  generalize hwre : a.out.length % 32768 = wr at *
  have hav : avail a.out = 32768 - wr := by rw [avail_eq, hwre]
  have hlen : ∀ k, (a.out ++ bytesAt E.S' a.pos k).length = a.out.length + k := fun k => by rw [List.length_append, bytesAt_length]
  by_cases hsh : E.N < a.pos + min n (32768 - wr)
  · -- too few bytes
    have hmin : min n (32768 - wr) ≤ 32768 - wr := Nat.min_le_right _ _
    have hmin2 : min n (32768 - wr) ≤ n := Nat.min_le_left _ _
    have key : Ret 52 [fp E] w fun v w' => v = .tuple #[] ∧ ∃ g', Wd E w' g' (cpd E hs wr a.pos (E.N - a.pos)) bs cs E.N ∧ g' 1048 = UEOFv E ∧ g' 1038 = .int .i64 ((wr + (E.N - a.pos) : Nat) : Int) ∧ Off [2, 1038, 1048, 1052] g g' ∧ Kp E.L w w' := by
      by_cases hb : 32768 - wr ≤ n
      · exact cd_short_b E w g hs bs cs a.pos wr rd n _ ro hE hC.W hC.S hDD hro hl hwr hn hle hb (by omega)
      · exact cd_short_s E w g hs bs cs a.pos wr rd n _ ro hE hC.W hC.S hDD hro hl hwr hn hle (by omega) (by omega)
    refine key.mono ?_
    rintro e w' ⟨v, rfl, rfl, g', hW, h48, h38, ho, kp⟩
    refine ⟨_, rfl, rfl, ?_, kp⟩
    have hm : (mData E.S' a n).1 = { a with out := a.out ++ bytesAt E.S' a.pos (E.N - a.pos) }.short E.S' := by
      simp only [mData, hav, hSN]
      rw [if_pos hsh]
    rw [hm]
    have hlast : (a.out ++ bytesAt E.S' a.pos (E.N - a.pos)).length % 32768 = wr + (E.N - a.pos) := by rw [hlen]; omega
    refine ⟨g', _, bs, cs, ⟨hW, hC.S.off ho (by decide), ?_, ?_, hC.T.off ho (by decide), HZ.offs hC.Z ho (by decide)⟩, .inr (.inr (.inl ⟨rfl, h48⟩)), fun h => by cases h⟩
    · exact win_data hE hC.V (by omega) (by omega) (by omega)
    · show Dw E g' (a.out ++ bytesAt E.S' a.pos (E.N - a.pos)).length a.fl ((a.out ++ bytesAt E.S' a.pos (E.N - a.pos)).length % 32768)
      rw [hlast, hlen]
      exact hD.push _ h38 (by omega) ho (by decide)
  · by_cases hb : 32768 - wr ≤ n
    · -- the window gets full
      have hmin : min n (32768 - wr) = 32768 - wr := Nat.min_eq_right hb
      rw [hmin] at hsh
      refine (cd_full E w g hs bs cs a.pos wr rd n _ ro hE hC.W hC.S hDD hro hl hwr hn hle hb (by omega) a.out.length a.fl hD).mono ?_
      rintro e w' ⟨v, rfl, rfl, g', hW, h2', h45, h52, hD', hT', ho, kp⟩
      refine ⟨_, rfl, rfl, ?_, kp⟩
      have hm : (mData E.S' a n).1 = { a with p := 8 * (a.pos + (32768 - wr)), pos := a.pos + (32768 - wr), out := a.out ++ bytesAt E.S' a.pos (32768 - wr), md := .data (n - (32768 - wr)) }.flush := by
        simp only [mData, hav, hmin, hSN]
        rw [if_neg hsh, if_pos hb]
      rw [hm]
      have hnx : nx (wr + (32768 - wr)) = 0 := by unfold nx; rw [if_pos (by omega)]
      have hz : (a.out.length + (32768 - wr)) % 32768 = 0 := by omega
      refine ⟨g', _, bs, cs, ⟨hW, hC.S.off ho (by decide), win_data hE hC.V (by omega) (by omega) (by omega), ?_, ?_, HZ.offs hC.Z ho (by decide)⟩, .inl ⟨herr, (ho _ (by decide)).trans hL.err⟩, fun _ => ⟨⟨?_, (ho _ (by decide)).trans hL.fin, (ho _ (by decide)).trans hL.err, ?_⟩, h45, trivial⟩⟩
      · show Dw E g' (a.out ++ bytesAt E.S' a.pos (32768 - wr)).length (a.out ++ bytesAt E.S' a.pos (32768 - wr)).length ((a.out ++ bytesAt E.S' a.pos (32768 - wr)).length % 32768)
        rw [hlen, hz, ← hnx]
        exact hD'
      · show TR E g' a.e (a.out ++ bytesAt E.S' a.pos (32768 - wr)).length
        rw [hlen, hef]
        exact hT'
      · exact Bt.zero h2' ((ho _ (by decide)).trans h3) ((ho _ (by decide)).trans h4)
      · exact ⟨hSS.off ho (by decide), h52, by omega, (ho _ (by decide)).trans h3, (ho _ (by decide)).trans h4⟩
    · -- the block's end
      have hmin : min n (32768 - wr) = n := Nat.min_eq_left (by omega)
      rw [hmin] at hsh
      have hm : (mData E.S' a n).1 = ({ a with p := 8 * (a.pos + n), pos := a.pos + n, out := a.out ++ bytesAt E.S' a.pos n } : A).finish := by
        simp only [mData, hav, hmin, hSN]
        rw [if_neg hsh, if_neg hb]
      rw [hm]
      have hlast : (a.out ++ bytesAt E.S' a.pos n).length % 32768 = wr + n := by rw [hlen]; omega
      have hnx : nx (wr + n) = wr + n := by unfold nx; rw [if_neg (by omega)]
      have hwin := win_data hE hC.V (pos := a.pos) (k := n) (by omega : wr = a.out.length % 32768) (by omega) (by omega)
      have hz0 : n = 0 → cpd E hs wr a.pos n = hs := fun h => by
        subst h; funext j; unfold cpd; rw [if_neg (by omega)]
      have hfin := hL.fin
      cases hfe : a.fin with
      | false =>
        rw [hfe] at hfin
        have key : Ret 52 [fp E] w fun v w' => v = .tuple #[] ∧ ∃ g', Wd E w' g' (cpd E hs wr a.pos n) bs cs (a.pos + n) ∧ (∃ x, g' 2 = .int .i64 x) ∧ g' 1045 = fnv 35 ∧ g' 1052 = .int .i64 0 ∧ Dw E g' (a.out.length + n) a.fl (wr + n) ∧ Off [2, 1052, 1038, 1045] g g' ∧ Kp E.L w w' := by
          by_cases hz : n = 0
          · rw [hz0 hz]
            have := cd_end_zero_more E w g hs bs cs a.pos wr rd n _ ro hE hC.W hC.S hDD hro hl hwr hn hle (by omega) (by omega) hz a.out.length a.fl hD hfin
            rw [hz]; exact this
          · exact cd_end_ok_more E w g hs bs cs a.pos wr rd n _ ro hE hC.W hC.S hDD hro hl hwr hn hle (by omega) (by omega) (by omega) a.out.length a.fl hD hfin
        refine key.mono ?_
        rintro e w' ⟨v, rfl, rfl, g', hW, h2', h45, h52, hD', ho, kp⟩
        refine ⟨_, rfl, rfl, ?_, kp⟩
        simp only [A.finish, hfe]
        refine ⟨g', _, bs, cs, ⟨hW, hC.S.off ho (by decide), hwin, ?_, hC.T.off ho (by decide), HZ.offs hC.Z ho (by decide)⟩, .inl ⟨herr, (ho _ (by decide)).trans hL.err⟩, fun _ => ⟨⟨?_, (ho _ (by decide)).trans hfin, (ho _ (by decide)).trans hL.err, ?_⟩, h45, trivial⟩⟩
        · show Dw E g' (a.out ++ bytesAt E.S' a.pos n).length a.fl ((a.out ++ bytesAt E.S' a.pos n).length % 32768)
          rw [hlast, hlen]
          exact hD'
        · exact Bt.zero h2' ((ho _ (by decide)).trans h3) ((ho _ (by decide)).trans h4)
        · exact ⟨hSS.off ho (by decide), h52⟩
      | true =>
        rw [hfe] at hfin
        have key : Ret 52 [fp E] w fun v w' => v = .tuple #[] ∧ ∃ g', Wd E w' g' (cpd E hs wr a.pos n) bs cs (a.pos + n) ∧ g' 1048 = EOFv E ∧ Dw E g' (a.out.length + n) (a.out.length + n) (nx (wr + n)) ∧ TR E g' a.fl (a.out.length + n) ∧ Off [2, 1052, 1038, 1039, 1040, 1045, 1048, 1049] g g' ∧ Kp E.L w w' := by
          by_cases hz : n = 0
          · rw [hz0 hz]
            have := cd_end_zero_last E w g hs bs cs a.pos wr rd n _ ro hE hC.W hC.S hDD hro hl hwr hn hle (by omega) (by omega) hz a.out.length a.fl hD hfin hT
            rw [hz]; exact this
          · exact cd_end_ok_last E w g hs bs cs a.pos wr rd n _ ro hE hC.W hC.S hDD hro hl hwr hn hle (by omega) (by omega) (by omega) a.out.length a.fl hD hfin hT
        refine key.mono ?_
        rintro e w' ⟨v, rfl, rfl, g', hW, h48, hD', hT', ho, kp⟩
        refine ⟨_, rfl, rfl, ?_, kp⟩
        simp only [A.finish, hfe, if_true]
        refine ⟨g', _, bs, cs, ⟨hW, hC.S.off ho (by decide), hwin, ?_, ?_, HZ.offs hC.Z ho (by decide)⟩, .inr (.inl ⟨rfl, h48⟩), fun h => by cases h⟩
        · show Dw E g' (a.out ++ bytesAt E.S' a.pos n).length (a.out ++ bytesAt E.S' a.pos n).length ((a.out ++ bytesAt E.S' a.pos n).length % 32768)
          rw [hlast, hlen, ← hnx]
          exact hD'
        · show TR E g' a.e (a.out ++ bytesAt E.S' a.pos n).length
          rw [hlen, hef]
          exact hT'
end Go.Proofs.YtejeloeaklpinaaDoor

/- Bits of signed integers; two bytes as one number. -/
namespace Go.Proofs.YtejeloeaklpinaaDoor
theorem ofInt_nat64 (x : Nat) (hx : x < 18446744073709551616) : (BitVec.ofInt 64 (x : Int)).toNat = x := by
  rw [BitVec.ofInt_natCast, BitVec.toNat_ofNat]; exact Nat.mod_eq_of_lt hx
section
variable {t : TypeId} {a b : Int} {x y : Nat}
theorem bn_or64 (ha : a = (x : Int)) (hb : b = (y : Int)) (hx : x < 9223372036854775808) (hy : y < 9223372036854775808) : binOp .or t (.int .i64 a) (.int .i64 b) = pure (.int .i64 ((x ||| y : Nat) : Int)) := by
  subst ha hb
  have hz : x ||| y < 2 ^ 63 := Nat.or_lt_two_pow hx hy
  show Op.intBits .or .i64 (x : Int) (y : Int) = _
  have e1 : (BitVec.ofInt IntKind.i64.bits (x : Int)).toNat = x := ofInt_nat64 x (by omega)
  have e2 : (BitVec.ofInt IntKind.i64.bits (y : Int)).toNat = y := ofInt_nat64 y (by omega)
  simp only [Op.intBits, BitVec.toNat_or, e1, e2]
  rw [wrap_s64 _ (by omega) (by omega)]
theorem bn_and64 (ha : a = (x : Int)) (hb : b = (y : Int)) (hx : x < 9223372036854775808) (hy : y < 9223372036854775808) : binOp .and t (.int .i64 a) (.int .i64 b) = pure (.int .i64 ((x &&& y : Nat) : Int)) := by
  subst ha hb
  have hz : x &&& y < 2 ^ 63 := Nat.and_lt_two_pow _ hy
  show Op.intBits .and .i64 (x : Int) (y : Int) = _
  have e1 : (BitVec.ofInt IntKind.i64.bits (x : Int)).toNat = x := ofInt_nat64 x (by omega)
  have e2 : (BitVec.ofInt IntKind.i64.bits (y : Int)).toNat = y := ofInt_nat64 y (by omega)
  simp only [Op.intBits, BitVec.toNat_and, e1, e2]
  rw [wrap_s64 _ (by omega) (by omega)]
theorem bn_mask64s {k : Nat} (ha : a = (x : Int)) (hb : b = ((2 ^ k - 1 : Nat) : Int)) (hx : x < 9223372036854775808) (hk : k ≤ 62) : binOp .and t (.int .i64 a) (.int .i64 b) = pure (.int .i64 ((x % 2 ^ k : Nat) : Int)) := by
  have hp : (2 : Nat) ^ k ≤ 2 ^ 62 := Nat.pow_le_pow_right (by omega) hk
  have h1 : 0 < (2 : Nat) ^ k := Nat.two_pow_pos k
  rw [← Nat.and_two_pow_sub_one_eq_mod]
  exact bn_and64 ha hb hx (by omega)
end
section
variable {ρ : Operand → Value} {d : Option Nat} {x y z : Operand} {ty : TypeId} {pos : String} {af : Array Edge} {gd : Option (Nat × Bool)} {w : World}
theorem un_xor {t : TypeId} {n : Nat} (hx : ρ x = .int .i64 (n : Int)) (hn : n < 9223372036854775808) : (execOp ρ ⟨d, .unOp .xor t x, ty, pos, af, gd⟩).run Tryd.prog w = .ok (.value (.int .i64 (-(n : Int) - 1))) w := by
  have e : (BitVec.ofInt 64 (-1) ^^^ BitVec.ofInt 64 (n : Int)).toNat = 18446744073709551615 - n := by
    have h1 : BitVec.ofInt 64 (-1) = BitVec.allOnes 64 := by decide
    rw [h1, BitVec.allOnes_xor, BitVec.toNat_not, ofInt_nat64 n (by omega)]
  have hr : Op.unary .xor (.int .i64 (n : Int)) = pure (.int .i64 (-(n : Int) - 1)) := by
    show Op.intBits .xor .i64 (-1) (n : Int) = _
    show pure (Value.int .i64 (IntKind.i64.wrap ((BitVec.ofInt 64 (-1) ^^^ BitVec.ofInt 64 (n : Int)).toNat : Int))) = _
    rw [e]
    congr 2
    have e2 : ((18446744073709551615 - n : Nat) : Int) = 18446744073709551615 - (n : Int) := by omega
    rw [e2]
    simp only [IntKind.wrap, IntKind.bits, IntKind.signed, Bool.true_and]
    split <;> rename_i h <;> simp at h <;> omega
  simp only [execOp, hx, hr]
  rfl
end
theorem wrap_u16x (n : Nat) (hn : n < 65536) : IntKind.u16.wrap (-(n : Int) - 1) = ((65535 - n : Nat) : Int) := by
  simp [IntKind.wrap, IntKind.bits, IntKind.signed]; omega
theorem or_bytes (x y : Nat) (hx : x < 256) : x ||| (y * 2 ^ 8) = x + 256 * y := by
  rw [or_high x y 8 hx]; omega
theorem bv16 (d : Nat → Nat) (h : ∀ k, d k < 256) (N k : Nat) (hk : k + 1 < N) : bv (dnum d N) (8 * k) 16 = d k + 256 * d (k + 1) := by
  have e0 : bv (dnum d N) (8 * k) 8 = d k := by
    have := bv_more d h N (8 * k) 0 k (by omega) (by omega)
    simpa [bv_zero] using this
  have e1 := bv_more d h N (8 * k) 8 (k + 1) (by omega) (by omega)
  rw [e0] at e1
  rw [show (16 : Nat) = 8 + 8 from rfl, e1]
  omega
theorem und91 : Tryd.prog.underlying 91 = some (.array 4 5) := by kernel_rfl
end Go.Proofs.YtejeloeaklpinaaDoor

/- Blocks that are as they stand: their head. Its walks are printed by gen/g_stored.py. -/
namespace Go.Proofs.YtejeloeaklpinaaDoor
attribute [local irreducible] wpList wpStill wpMix Code.wp Calls fr
theorem Wd.setFR' {E : Env} {w w1 : World} {g hs bs cs g' : Nat → Value} {pos pos' : Nat} (h : Wd E w g hs bs cs pos) (hE : E.Ok) (hF : Bk w1 E.F 1054 95 g') (hR : Rd E w1 pos') (k : Kp [E.R, E.F] w w1) : Wd E w1 g' hs bs cs pos' :=
  h.setFR hE hF hR (k.mono (by simp))
/-- The reader's block behind the two stores and the four bytes. -/
def gs0 (E : Env) (g : Nat → Value) (pos k : Nat) : Nat → Value := cpd E (upd (upd g 4 (.int .u64 0)) 3 (.int .u32 0)) 1041 pos k
theorem gs0_off (E : Env) (g : Nat → Value) (pos k : Nat) (hk : k ≤ 4) : Off [3, 4, 1041, 1042, 1043, 1044] g (gs0 E g pos k) := by
  intro j hj
  simp only [List.mem_cons, List.not_mem_nil, or_false, not_or] at hj
  unfold gs0 cpd
  rw [if_neg (by omega), upd_ne _ _ _ _ (by omega), upd_ne _ _ _ _ (by omega)]

theorem db_short (E : Env) (w : World) (g hs bs cs : Nat → Value) (pos : Nat) (ro : Int) (hE : E.Ok) (hW : Wd E w g hs bs cs pos) (hS : Stc E g) (hro : g 2 = .int .i64 ro) (hle : pos ≤ E.N) (hp : E.N < pos + 4) :
    Ret 42 [fp E] w fun v w' => v = .tuple #[] ∧ ∃ g', Wd E w' g' hs bs cs E.N ∧ g' 1048 = UEOFv E ∧ Off [2, 3, 4, 1041, 1042, 1043, 1044, 1048] g g' ∧ Kp E.L w w' := by
  have kp := Kp.refl E.L w
  have hN := hE.N47
  refine calls_fr (N := 98) Tryd.func42 rfl rfl (by simp [fp]) rfl ?_
  refine wp_seq ?_
  -- region 0
  refine reg_lit ?_
  refine L1 (mv (v := .pointer _) rfl) ?_
  refine L1 (nilP rfl) ?_
  refine L1 (fa95_4 rfl) ?_
  refine Lst38 (v := .int _ _) rfl rfl rfl hW.F (by decide) ?_
  intro w1 hb1 kp1
  have hW := hW.setF hE hb1 kp1
  have kp := kp.F kp1
  clear hb1 kp1
  refine wpList_nil ?_
  refine then_n ?_
  refine wp_seq ?_
  -- region 1
  refine reg_lit ?_
  refine L1 (mv (v := .pointer _) rfl) ?_
  refine L1 (nilP rfl) ?_
  refine L1 (fa95_3 rfl) ?_
  refine Lst82 (v := .int _ _) rfl rfl rfl hW.F (by decide) ?_
  intro w1 hb1 kp1
  have hW := hW.setF hE hb1 kp1
  have kp := kp.F kp1
  clear hb1 kp1
  refine wpList_nil ?_
  refine then_n ?_
  refine wp_seq ?_
  -- region 2 (its order is open)
  refine reg_mix [false, false, false, false, false, false, false, false, true, false, false, false, false, false] (fun w => w.cell? ⟨E.F, 0, none⟩ = some (.iface 43 (.pointer (some ⟨E.R, 0, none⟩)))) mixed (by kernel_rfl) ?_ ?_
  · exact (hW.drew.F.cellv (by decide) hS.r)
  have hW := hW.drew
  have kp := kp.drew
  refine T1 (fun w hC => mv (v := .pointer _) rfl) ?_
  refine T1 (fun w hC => nilP rfl) ?_
  refine T1 (fun w hC => fa95_0 rfl) ?_
  refine T1 (fun w hC => ld80 (v := .iface _ _) rfl hC) ?_
  refine T1 (fun w hC => mv (v := .pointer _) rfl) ?_
  refine T1 (fun w hC => nilP rfl) ?_
  refine T1 (fun w hC => fa95_10 rfl) ?_
  refine T1 (fun w hC => sl91 rfl rfl rfl) ?_
  refine EC (cl2 has49 rfl rfl rfl) (rdf_short' E _ pos hE hW.gl hW.rd E.F 1041 4 4 1054 95 _ hW.F hE.FR hE.FS hE.bF (by omega) (by omega) (by omega) (by decide) (by omega)) ?_
  rintro v w1 ⟨ex, hex, rfl, hrd, hh, kp1⟩
  have hW := hW.setFR' hE hh hrd kp1
  have kp := kp.trans (kp1.mono (by simp [Env.L]))
  clear kp1 hh hrd
  refine ⟨hW.F.cellv (by decide) ((gs0_off E g pos _ (by omega) _ (by decide)).trans hS.r), ?_⟩
  refine T1 (fun w hC => mv (v := .tuple _) rfl) ?_
  refine T1 (fun w hC => ext2_0 rfl) ?_
  refine T1 (fun w hC => ext2_1 rfl) ?_
  refine T1 (fun w hC => asg (v := .int _ _) rfl) ?_
  refine T1 (fun w hC => asg (v := .iface _ _) rfl) ?_
  refine mix_nil ?_
  refine then_n ?_
  refine wp_seq ?_
  -- region 3
  refine reg_lit ?_
  refine L1 (mv (v := .pointer _) rfl) ?_
  refine L1 (nilP rfl) ?_
  refine L1 (fa95_2 rfl) ?_
  refine L1 (ld2 rfl (hW.F.cellv (by decide) hro)) ?_
  refine L1 (mv (v := .int _ _) rfl) ?_
  refine L1 (bi rfl rfl (bn_addw)) ?_
  refine L1 (nilP rfl) ?_
  refine L1 (fa95_2 rfl) ?_
  refine Lst2 (v := .int _ _) rfl rfl rfl hW.F (by decide) ?_
  intro w1 hb1 kp1
  have hW := hW.setF hE hb1 kp1
  have kp := kp.F kp1
  clear hb1 kp1
  refine wpList_nil ?_
  refine then_n ?_
  refine wp_seq ?_
  refine wp_seq ?_
  -- region 4
  refine reg_lit ?_
  refine L1 (mv (v := .iface _ _) rfl) ?_
  refine L1 (en_held rfl rfl) ?_
  refine wpList_nil ?_
  refine then_n ?_
  refine cond_t rfl ?_
  refine wp_seq ?_
  -- region 5
  refine reg_lit ?_
  refine L1 (mv (v := .pointer _) rfl) ?_
  refine L1 (mv (v := .iface _ _) rfl) ?_
  refine LC (cl1 has48 rfl rfl) (noEOF_any E _ hW.gl ex hex) ?_
  rintro v w1 ⟨rfl, rfl⟩
  refine L1 (nilP rfl) ?_
  refine L1 (fa95_14 rfl) ?_
  refine Lst62 (v := (UEOFv E)) rfl rfl rfl hW.F (by decide) ?_
  intro w1 hb1 kp1
  have hW := hW.setF hE hb1 kp1
  have kp := kp.F kp1
  clear hb1 kp1
  refine wpList_nil ?_
  refine then_n ?_
  refine wp_ret ?_
  refine then_r ?_
  refine ret0 rfl ?_
  exact ⟨_, rfl, rfl, _, hW, rfl, (((gs0_off E g pos _ (by omega)).mono (by simp)).upd (by simp) _).upd (by simp) _, kp⟩
theorem db_bad (E : Env) (w : World) (g hs bs cs : Nat → Value) (pos : Nat) (ro : Int) (hE : E.Ok) (hW : Wd E w g hs bs cs pos) (hS : Stc E g) (hro : g 2 = .int .i64 ro) (hp : pos + 4 ≤ E.N) (hb : E.d pos + 256 * E.d (pos + 1) + (E.d (pos + 2) + 256 * E.d (pos + 3)) ≠ 65535) :
    Ret 42 [fp E] w fun v w' => v = .tuple #[] ∧ ∃ g', Wd E w' g' hs bs cs (pos + 4) ∧ (∃ x, g' 1048 = .iface 107 (.int .i64 x)) ∧ Off [2, 3, 4, 1041, 1042, 1043, 1044, 1048] g g' ∧ Kp E.L w w' := by
  have kp := Kp.refl E.L w
  have hN := hE.N47
  refine calls_fr (N := 98) Tryd.func42 rfl rfl (by simp [fp]) rfl ?_
  have hd := hE.d8
  have hd0 := hd pos
  have hd1 := hd (pos + 1)
  have hd2 := hd (pos + 2)
  have hd3 := hd (pos + 3)
  refine wp_seq ?_
  -- region 0
  refine reg_lit ?_
  refine L1 (mv (v := .pointer _) rfl) ?_
  refine L1 (nilP rfl) ?_
  refine L1 (fa95_4 rfl) ?_
  refine Lst38 (v := .int _ _) rfl rfl rfl hW.F (by decide) ?_
  intro w1 hb1 kp1
  have hW := hW.setF hE hb1 kp1
  have kp := kp.F kp1
  clear hb1 kp1
  refine wpList_nil ?_
  refine then_n ?_
  refine wp_seq ?_
  -- region 1
  refine reg_lit ?_
  refine L1 (mv (v := .pointer _) rfl) ?_
  refine L1 (nilP rfl) ?_
  refine L1 (fa95_3 rfl) ?_
  refine Lst82 (v := .int _ _) rfl rfl rfl hW.F (by decide) ?_
  intro w1 hb1 kp1
  have hW := hW.setF hE hb1 kp1
  have kp := kp.F kp1
  clear hb1 kp1
  refine wpList_nil ?_
  refine then_n ?_
  refine wp_seq ?_
  -- region 2 (its order is open)
  refine reg_mix [false, false, false, false, false, false, false, false, true, false, false, false, false, false] (fun w => w.cell? ⟨E.F, 0, none⟩ = some (.iface 43 (.pointer (some ⟨E.R, 0, none⟩)))) mixed (by kernel_rfl) ?_ ?_
  · exact (hW.drew.F.cellv (by decide) hS.r)
  have hW := hW.drew
  have kp := kp.drew
  refine T1 (fun w hC => mv (v := .pointer _) rfl) ?_
  refine T1 (fun w hC => nilP rfl) ?_
  refine T1 (fun w hC => fa95_0 rfl) ?_
  refine T1 (fun w hC => ld80 (v := .iface _ _) rfl hC) ?_
  refine T1 (fun w hC => mv (v := .pointer _) rfl) ?_
  refine T1 (fun w hC => nilP rfl) ?_
  refine T1 (fun w hC => fa95_10 rfl) ?_
  refine T1 (fun w hC => sl91 rfl rfl rfl) ?_
  refine EC (cl2 has49 rfl rfl rfl) (rdf_ok E _ pos hE hW.gl hW.rd E.F 1041 4 4 1054 95 _ hW.F hE.FR hE.FS hE.bF (by omega) (by omega) (by omega) (by decide) (by omega)) ?_
  rintro v w1 ⟨rfl, hrd, hh, kp1⟩
  have hW := hW.setFR' hE hh hrd kp1
  have kp := kp.trans (kp1.mono (by simp [Env.L]))
  clear kp1 hh hrd
  refine ⟨hW.F.cellv (by decide) ((gs0_off E g pos 4 (by omega) _ (by decide)).trans hS.r), ?_⟩
  have c0 : gs0 E g pos 4 1041 = .int .u8 (E.d (pos)) := rfl
  have c1 : gs0 E g pos 4 1042 = .int .u8 (E.d (pos + 1)) := rfl
  have c2 : gs0 E g pos 4 1043 = .int .u8 (E.d (pos + 2)) := rfl
  have c3 : gs0 E g pos 4 1044 = .int .u8 (E.d (pos + 3)) := rfl
  refine T1 (fun w hC => mv (v := .tuple _) rfl) ?_
  refine T1 (fun w hC => ext2_0 rfl) ?_
  refine T1 (fun w hC => ext2_1 rfl) ?_
  refine T1 (fun w hC => asg (v := .int _ _) rfl) ?_
  refine T1 (fun w hC => asg (v := .nilIface) rfl) ?_
  refine mix_nil ?_
  refine then_n ?_
  refine wp_seq ?_
  -- region 3
  refine reg_lit ?_
  refine L1 (mv (v := .pointer _) rfl) ?_
  refine L1 (nilP rfl) ?_
  refine L1 (fa95_2 rfl) ?_
  refine L1 (ld2 rfl (hW.F.cellv (by decide) hro)) ?_
  refine L1 (mv (v := .int _ _) rfl) ?_
  refine L1 (bi rfl rfl (bn_addw)) ?_
  refine L1 (nilP rfl) ?_
  refine L1 (fa95_2 rfl) ?_
  refine Lst2 (v := .int _ _) rfl rfl rfl hW.F (by decide) ?_
  intro w1 hb1 kp1
  have hW := hW.setF hE hb1 kp1
  have kp := kp.F kp1
  clear hb1 kp1
  refine wpList_nil ?_
  refine then_n ?_
  refine wp_seq ?_
  refine wp_seq ?_
  -- region 4
  refine reg_lit ?_
  refine L1 (mv (v := .nilIface) rfl) ?_
  refine L1 (en_nil rfl rfl) ?_
  refine wpList_nil ?_
  refine then_n ?_
  refine cond_f rfl ?_
  refine wp_skip ?_
  refine then_n ?_
  refine wp_seq ?_
  -- region 6 (its order is open)
  refine reg_still mixed (by kernel_rfl) ?_
  have hW := hW.drew
  have kp := kp.drew
  refine S1 (mv (v := .pointer _) rfl) ?_
  refine S1 (nilP rfl) ?_
  refine S1 (fa95_10 rfl) ?_
  refine S1 (ixA und91 sz5 rfl rfl (j := 0) rfl (by decide)) ?_
  refine S1 (ld5 rfl (hW.F.cellv (by decide) c0)) ?_
  refine S1 (cv5_3 rfl (wrap_s64 _ (by omega) (by omega))) ?_
  refine S1 (mv (v := .pointer _) rfl) ?_
  refine S1 (nilP rfl) ?_
  refine S1 (fa95_10 rfl) ?_
  refine S1 (ixA und91 sz5 rfl rfl (j := 1) rfl (by decide)) ?_
  refine S1 (ld5 rfl (hW.F.cellv (by decide) c1)) ?_
  refine S1 (cv5_3 rfl (wrap_s64 _ (by omega) (by omega))) ?_
  refine S1 (bi rfl rfl (bn_shl64 (n := 8) rfl rfl (by omega) (by omega))) ?_
  refine S1 (bi rfl rfl ((bn_or64 rfl rfl (by omega) (by omega)).trans (congrArg (fun x : Nat => pure (Value.int .i64 (x : Int))) (or_bytes _ _ hd0)))) ?_
  refine S1 (asg (v := .int _ _) rfl) ?_
  refine still_nil ?_
  refine then_n ?_
  refine wp_seq ?_
  -- region 7 (its order is open)
  refine reg_still mixed (by kernel_rfl) ?_
  have hW := hW.drew
  have kp := kp.drew
  refine S1 (mv (v := .pointer _) rfl) ?_
  refine S1 (nilP rfl) ?_
  refine S1 (fa95_10 rfl) ?_
  refine S1 (ixA und91 sz5 rfl rfl (j := 2) rfl (by decide)) ?_
  refine S1 (ld5 rfl (hW.F.cellv (by decide) c2)) ?_
  refine S1 (cv5_3 rfl (wrap_s64 _ (by omega) (by omega))) ?_
  refine S1 (mv (v := .pointer _) rfl) ?_
  refine S1 (nilP rfl) ?_
  refine S1 (fa95_10 rfl) ?_
  refine S1 (ixA und91 sz5 rfl rfl (j := 3) rfl (by decide)) ?_
  refine S1 (ld5 rfl (hW.F.cellv (by decide) c3)) ?_
  refine S1 (cv5_3 rfl (wrap_s64 _ (by omega) (by omega))) ?_
  refine S1 (bi rfl rfl (bn_shl64 (n := 8) rfl rfl (by omega) (by omega))) ?_
  refine S1 (bi rfl rfl ((bn_or64 rfl rfl (by omega) (by omega)).trans (congrArg (fun x : Nat => pure (Value.int .i64 (x : Int))) (or_bytes _ _ hd2)))) ?_
  refine S1 (asg (v := .int _ _) rfl) ?_
  refine still_nil ?_
  refine then_n ?_
  refine wp_seq ?_
  refine wp_seq ?_
  -- region 8
  refine reg_lit ?_
  refine L1 (mv (v := .int _ _) rfl) ?_
  refine L1 (cv3_37 rfl (wrap_u16n _ (by omega) (by omega))) ?_
  refine L1 (mv (v := .int _ _) rfl) ?_
  refine L1 (un_xor rfl (by omega)) ?_
  refine L1 (cv3_37 rfl (wrap_u16x _ (by omega))) ?_
  refine L1 (bi rfl rfl (bn_neq (v := true) (decide_eq_false (by omega)))) ?_
  refine wpList_nil ?_
  refine then_n ?_
  refine cond_t rfl ?_
  refine wp_seq ?_
  -- region 9
  refine reg_lit ?_
  refine L1 (mv (v := .pointer _) rfl) ?_
  refine L1 (mv (v := .pointer _) rfl) ?_
  refine L1 (nilP rfl) ?_
  refine L1 (fa95_2 rfl) ?_
  refine L1 (ld2 rfl (hW.F.cellv (v := .int _ _) (by decide) rfl)) ?_
  refine L1 (mkI107 rfl) ?_
  refine L1 (nilP rfl) ?_
  refine L1 (fa95_14 rfl) ?_
  refine Lst62 (v := .iface _ _) rfl rfl rfl hW.F (by decide) ?_
  intro w1 hb1 kp1
  have hW := hW.setF hE hb1 kp1
  have kp := kp.F kp1
  clear hb1 kp1
  refine wpList_nil ?_
  refine then_n ?_
  refine wp_ret ?_
  refine then_r ?_
  refine ret0 rfl ?_
  exact ⟨_, rfl, rfl, _, hW, ⟨_, rfl⟩, (((gs0_off E g pos _ (by omega)).mono (by simp)).upd (by simp) _).upd (by simp) _, kp⟩
theorem db_zero_more (E : Env) (w : World) (g hs bs cs : Nat → Value) (pos : Nat) (ro : Int) (hE : E.Ok) (hW : Wd E w g hs bs cs pos) (hS : Stc E g) (hro : g 2 = .int .i64 ro) (hp : pos + 4 ≤ E.N) (hb : E.d pos + 256 * E.d (pos + 1) + (E.d (pos + 2) + 256 * E.d (pos + 3)) = 65535) (hz : E.d pos + 256 * E.d (pos + 1) = 0) (no fl0 wr : Nat) (hnx : nx wr < 32768) (hDw : Dw E g no fl0 wr) (hf : g 1047 = .bool false) :
    Ret 42 [fp E] w fun v w' => v = .tuple #[] ∧ ∃ g', Wd E w' g' hs bs cs (pos + 4) ∧ (∃ x, g' 2 = .int .i64 x) ∧ g' 3 = .int .u32 0 ∧ g' 4 = .int .u64 0 ∧ g' 1045 = fnv 35 ∧ Dw E g' no no (nx wr) ∧ TR E g' fl0 no ∧ Off [2, 3, 4, 1041, 1042, 1043, 1044, 1038, 1039, 1040, 1049, 1045] g g' ∧ Kp E.L w w' := by
  have kp := Kp.refl E.L w
  have hN := hE.N47
  refine calls_fr (N := 98) Tryd.func42 rfl rfl (by simp [fp]) rfl ?_
  have hd := hE.d8
  have hd0 := hd pos
  have hd1 := hd (pos + 1)
  have hd2 := hd (pos + 2)
  have hd3 := hd (pos + 3)
  refine wp_seq ?_
  -- region 0
  refine reg_lit ?_
  refine L1 (mv (v := .pointer _) rfl) ?_
  refine L1 (nilP rfl) ?_
  refine L1 (fa95_4 rfl) ?_
  refine Lst38 (v := .int _ _) rfl rfl rfl hW.F (by decide) ?_
  intro w1 hb1 kp1
  have hW := hW.setF hE hb1 kp1
  have kp := kp.F kp1
  clear hb1 kp1
  refine wpList_nil ?_
  refine then_n ?_
  refine wp_seq ?_
  -- region 1
  refine reg_lit ?_
  refine L1 (mv (v := .pointer _) rfl) ?_
  refine L1 (nilP rfl) ?_
  refine L1 (fa95_3 rfl) ?_
  refine Lst82 (v := .int _ _) rfl rfl rfl hW.F (by decide) ?_
  intro w1 hb1 kp1
  have hW := hW.setF hE hb1 kp1
  have kp := kp.F kp1
  clear hb1 kp1
  refine wpList_nil ?_
  refine then_n ?_
  refine wp_seq ?_
  -- region 2 (its order is open)
  refine reg_mix [false, false, false, false, false, false, false, false, true, false, false, false, false, false] (fun w => w.cell? ⟨E.F, 0, none⟩ = some (.iface 43 (.pointer (some ⟨E.R, 0, none⟩)))) mixed (by kernel_rfl) ?_ ?_
  · exact (hW.drew.F.cellv (by decide) hS.r)
  have hW := hW.drew
  have kp := kp.drew
  refine T1 (fun w hC => mv (v := .pointer _) rfl) ?_
  refine T1 (fun w hC => nilP rfl) ?_
  refine T1 (fun w hC => fa95_0 rfl) ?_
  refine T1 (fun w hC => ld80 (v := .iface _ _) rfl hC) ?_
  refine T1 (fun w hC => mv (v := .pointer _) rfl) ?_
  refine T1 (fun w hC => nilP rfl) ?_
  refine T1 (fun w hC => fa95_10 rfl) ?_
  refine T1 (fun w hC => sl91 rfl rfl rfl) ?_
  refine EC (cl2 has49 rfl rfl rfl) (rdf_ok E _ pos hE hW.gl hW.rd E.F 1041 4 4 1054 95 _ hW.F hE.FR hE.FS hE.bF (by omega) (by omega) (by omega) (by decide) (by omega)) ?_
  rintro v w1 ⟨rfl, hrd, hh, kp1⟩
  have hW := hW.setFR' hE hh hrd kp1
  have kp := kp.trans (kp1.mono (by simp [Env.L]))
  clear kp1 hh hrd
  refine ⟨hW.F.cellv (by decide) ((gs0_off E g pos 4 (by omega) _ (by decide)).trans hS.r), ?_⟩
  have c0 : gs0 E g pos 4 1041 = .int .u8 (E.d (pos)) := rfl
  have c1 : gs0 E g pos 4 1042 = .int .u8 (E.d (pos + 1)) := rfl
  have c2 : gs0 E g pos 4 1043 = .int .u8 (E.d (pos + 2)) := rfl
  have c3 : gs0 E g pos 4 1044 = .int .u8 (E.d (pos + 3)) := rfl
  refine T1 (fun w hC => mv (v := .tuple _) rfl) ?_
  refine T1 (fun w hC => ext2_0 rfl) ?_
  refine T1 (fun w hC => ext2_1 rfl) ?_
  refine T1 (fun w hC => asg (v := .int _ _) rfl) ?_
  refine T1 (fun w hC => asg (v := .nilIface) rfl) ?_
  refine mix_nil ?_
  refine then_n ?_
  refine wp_seq ?_
  -- region 3
  refine reg_lit ?_
  refine L1 (mv (v := .pointer _) rfl) ?_
  refine L1 (nilP rfl) ?_
  refine L1 (fa95_2 rfl) ?_
  refine L1 (ld2 rfl (hW.F.cellv (by decide) hro)) ?_
  refine L1 (mv (v := .int _ _) rfl) ?_
  refine L1 (bi rfl rfl (bn_addw)) ?_
  refine L1 (nilP rfl) ?_
  refine L1 (fa95_2 rfl) ?_
  refine Lst2 (v := .int _ _) rfl rfl rfl hW.F (by decide) ?_
  intro w1 hb1 kp1
  have hW := hW.setF hE hb1 kp1
  have kp := kp.F kp1
  clear hb1 kp1
  refine wpList_nil ?_
  refine then_n ?_
  refine wp_seq ?_
  refine wp_seq ?_
  -- region 4
  refine reg_lit ?_
  refine L1 (mv (v := .nilIface) rfl) ?_
  refine L1 (en_nil rfl rfl) ?_
  refine wpList_nil ?_
  refine then_n ?_
  refine cond_f rfl ?_
  refine wp_skip ?_
  refine then_n ?_
  refine wp_seq ?_
  -- region 6 (its order is open)
  refine reg_still mixed (by kernel_rfl) ?_
  have hW := hW.drew
  have kp := kp.drew
  refine S1 (mv (v := .pointer _) rfl) ?_
  refine S1 (nilP rfl) ?_
  refine S1 (fa95_10 rfl) ?_
  refine S1 (ixA und91 sz5 rfl rfl (j := 0) rfl (by decide)) ?_
  refine S1 (ld5 rfl (hW.F.cellv (by decide) c0)) ?_
  refine S1 (cv5_3 rfl (wrap_s64 _ (by omega) (by omega))) ?_
  refine S1 (mv (v := .pointer _) rfl) ?_
  refine S1 (nilP rfl) ?_
  refine S1 (fa95_10 rfl) ?_
  refine S1 (ixA und91 sz5 rfl rfl (j := 1) rfl (by decide)) ?_
  refine S1 (ld5 rfl (hW.F.cellv (by decide) c1)) ?_
  refine S1 (cv5_3 rfl (wrap_s64 _ (by omega) (by omega))) ?_
  refine S1 (bi rfl rfl (bn_shl64 (n := 8) rfl rfl (by omega) (by omega))) ?_
  refine S1 (bi rfl rfl ((bn_or64 rfl rfl (by omega) (by omega)).trans (congrArg (fun x : Nat => pure (Value.int .i64 (x : Int))) (or_bytes _ _ hd0)))) ?_
  refine S1 (asg (v := .int _ _) rfl) ?_
  refine still_nil ?_
  refine then_n ?_
  refine wp_seq ?_
  -- region 7 (its order is open)
  refine reg_still mixed (by kernel_rfl) ?_
  have hW := hW.drew
  have kp := kp.drew
  refine S1 (mv (v := .pointer _) rfl) ?_
  refine S1 (nilP rfl) ?_
  refine S1 (fa95_10 rfl) ?_
  refine S1 (ixA und91 sz5 rfl rfl (j := 2) rfl (by decide)) ?_
  refine S1 (ld5 rfl (hW.F.cellv (by decide) c2)) ?_
  refine S1 (cv5_3 rfl (wrap_s64 _ (by omega) (by omega))) ?_
  refine S1 (mv (v := .pointer _) rfl) ?_
  refine S1 (nilP rfl) ?_
  refine S1 (fa95_10 rfl) ?_
  refine S1 (ixA und91 sz5 rfl rfl (j := 3) rfl (by decide)) ?_
  refine S1 (ld5 rfl (hW.F.cellv (by decide) c3)) ?_
  refine S1 (cv5_3 rfl (wrap_s64 _ (by omega) (by omega))) ?_
  refine S1 (bi rfl rfl (bn_shl64 (n := 8) rfl rfl (by omega) (by omega))) ?_
  refine S1 (bi rfl rfl ((bn_or64 rfl rfl (by omega) (by omega)).trans (congrArg (fun x : Nat => pure (Value.int .i64 (x : Int))) (or_bytes _ _ hd2)))) ?_
  refine S1 (asg (v := .int _ _) rfl) ?_
  refine still_nil ?_
  refine then_n ?_
  refine wp_seq ?_
  refine wp_seq ?_
  -- region 8
  refine reg_lit ?_
  refine L1 (mv (v := .int _ _) rfl) ?_
  refine L1 (cv3_37 rfl (wrap_u16n _ (by omega) (by omega))) ?_
  refine L1 (mv (v := .int _ _) rfl) ?_
  refine L1 (un_xor rfl (by omega)) ?_
  refine L1 (cv3_37 rfl (wrap_u16x _ (by omega))) ?_
  refine L1 (bi rfl rfl (bn_neq (v := false) (decide_eq_true (by omega)))) ?_
  refine wpList_nil ?_
  refine then_n ?_
  refine cond_f rfl ?_
  refine wp_skip ?_
  refine then_n ?_
  refine wp_seq ?_
  refine wp_seq ?_
  -- region 10
  refine reg_lit ?_
  refine L1 (mv (v := .int _ _) rfl) ?_
  refine L1 (bi rfl rfl (bn_eql (v := true) (decide_eq_true (by omega)))) ?_
  refine wpList_nil ?_
  refine then_n ?_
  refine cond_t rfl ?_
  refine wp_seq ?_
  -- region 11
  refine reg_lit ?_
  refine L1 (mv (v := .pointer _) rfl) ?_
  refine L1 (mv (v := .pointer _) rfl) ?_
  refine L1 (nilP rfl) ?_
  refine L1 (fa95_9 rfl) ?_
  refine LC (cl1 has50 rfl rfl) (rf_c E _ _ hs bs cs (pos + 4) no fl0 wr hE hW (hDw.off ((gs0_off E g pos 4 (by omega)).mono (by decide) |>.upd (k := 2) (by decide) _ : Off [2, 3, 4, 1041, 1042, 1043, 1044] g _) (by decide))) ?_
  rintro v w1 ⟨hv, g1, hW, hD1, ho, kp1⟩
  have kp := kp.trans kp1
  refine L1 (nilP rfl) ?_
  refine L1 (fa95_15 rfl) ?_
  refine Lst22 (v := v) rfl rfl (by obtain ⟨_, _, _, rfl, _⟩ := hv; rfl) hW.F (by decide) ?_
  intro w1 hb1 kp1
  have hW := hW.setF hE hb1 kp1
  have kp := kp.F kp1
  have ho1 : Off [2, 3, 4, 1041, 1042, 1043, 1044, 1038, 1039, 1040, 1049] g _ := ((((gs0_off E g pos 4 (by omega)).mono (by decide) |>.upd (k := 2) (by decide) _ : Off [2, 3, 4, 1041, 1042, 1043, 1044] g _).mono (by decide)).trans (ho.mono (by decide))).upd (k := 1049) (by decide) v
  have hD2 := hD1.off ((Off.refl [1049] g1).upd (k := 1049) (by decide) v) (by decide)
  have h3 : g1 3 = .int .u32 0 := (ho 3 (by decide)).trans rfl
  have h4 : g1 4 = .int .u64 0 := (ho 4 (by decide)).trans rfl
  have h2 : ∃ x, g1 2 = .int .i64 x := ⟨_, (ho 2 (by decide)).trans rfl⟩
  refine wpList_nil ?_
  refine then_n ?_
  refine wp_seq ?_
  -- region 12
  refine reg_lit ?_
  refine L1 (mv (v := .pointer _) rfl) ?_
  refine LC (cl1 has51 rfl rfl) (finish_more E _ _ hs bs cs (pos + 4) hE hW ((ho1 _ (by decide)).trans hf)) ?_
  rintro v w1 ⟨rfl, g2, hW, h45, ho2, kp1⟩
  have kp := kp.trans kp1
  refine wpList_nil ?_
  refine then_n ?_
  refine wp_ret ?_
  refine then_r ?_
  refine ret0 rfl ?_
  refine ⟨_, rfl, rfl, g2, hW, ?_, (ho2 _ (by decide)).trans h3, (ho2 _ (by decide)).trans h4, h45, hD2.off ho2 (by decide), ?_, (ho1.mono (by decide)).trans (ho2.mono (by decide)), kp⟩
  · obtain ⟨x, hx⟩ := h2
    exact ⟨x, (ho2 _ (by decide)).trans hx⟩
  · exact TR.off (g := upd g1 1049 v) hv ho2 (by decide)
theorem finish_last' (E : Env) (w : World) (g hs bs cs : Nat → Value) (pos : Nat) (hE : E.Ok) (hW : Wd E w g hs bs cs pos) (hf : g 1047 = .bool true) (n wr : Nat) (hw : wr < 32768) (hD : Dw E g n n wr) :
    Ret 51 [fp E] w fun v w' => v = .tuple #[] ∧ ∃ g', Wd E w' g' hs bs cs pos ∧ g' 1045 = fnv 35 ∧ g' 1048 = EOFv E ∧ Dw E g' n n wr ∧ Off [1045, 1048] g g' ∧ Kp E.L w w' := by
  have kp := Kp.refl E.L w
  have hD0 := hD
  obtain ⟨q, rd, h1, h2, h3, h4, h5⟩ := hD
  refine calls_fr (N := 25) Tryd.func51 rfl rfl (by simp [fp]) rfl ?_
  refine wp_seq ?_
  refine wp_seq ?_
  -- region 0
  refine reg_lit ?_
  refine L1 (mv (v := .pointer _) rfl) ?_
  refine L1 (nilP rfl) ?_
  refine L1 (fa95_13 rfl) ?_
  refine L1 (ld4 rfl (hW.F.cellv (by decide) hf)) ?_
  refine wpList_nil ?_
  refine then_n ?_
  refine cond_t rfl ?_
  refine wp_seq ?_
  refine wp_seq ?_
  -- region 1
  refine reg_lit ?_
  refine L1 (mv (v := .pointer _) rfl) ?_
  refine L1 (nilP rfl) ?_
  refine L1 (fa95_9 rfl) ?_
  refine LC (cl1 has62 rfl rfl) (availRead_c E _ g wr rd _ hW.F h5 h2 h3) ?_
  rintro v w1 ⟨rfl, rfl⟩
  have hW := hW.drew
  have kp := kp.drew
  refine L1 (bi rfl rfl (bn_gtr (v := false) (decide_eq_false (by omega)))) ?_
  refine wpList_nil ?_
  refine then_n ?_
  refine cond_f rfl ?_
  refine wp_skip ?_
  refine then_n ?_
  -- region 3
  refine reg_lit ?_
  refine L1 (mv (v := .pointer _) rfl) ?_
  refine L1 (ld62 (v := .iface _ _) rfl hW.gl.eof) ?_
  refine L1 (nilP rfl) ?_
  refine L1 (fa95_14 rfl) ?_
  refine Lst62 (v := .iface _ _) rfl rfl rfl hW.F (by decide) ?_
  intro w1 hb1 kp1
  have hW := hW.setF hE hb1 kp1
  have kp := kp.F kp1
  clear hb1 kp1
  refine wpList_nil ?_
  refine then_n ?_
  -- region 4
  refine reg_lit ?_
  refine L1 (mv (v := .pointer _) rfl) ?_
  refine L1 (nilP rfl) ?_
  refine L1 (fa95_11 rfl) ?_
  refine Lst92 (v := .func _ _ _) rfl rfl rfl hW.F (by decide) ?_
  intro w1 hb1 kp1
  have hW := hW.setF hE hb1 kp1
  have kp := kp.F kp1
  clear hb1 kp1
  refine wpList_nil ?_
  refine end0 rfl ?_
  refine ⟨_, rfl, rfl, _, hW, rfl, rfl, hD0.off (((Off.refl _ g).upd (k := 1048) (by decide) _).upd (k := 1045) (by decide) _ : Off [1045, 1048] g _) (by decide), ((Off.refl _ g).upd (by simp) _).upd (by simp) _, kp⟩
theorem db_zero_last (E : Env) (w : World) (g hs bs cs : Nat → Value) (pos : Nat) (ro : Int) (hE : E.Ok) (hW : Wd E w g hs bs cs pos) (hS : Stc E g) (hro : g 2 = .int .i64 ro) (hp : pos + 4 ≤ E.N) (hb : E.d pos + 256 * E.d (pos + 1) + (E.d (pos + 2) + 256 * E.d (pos + 3)) = 65535) (hz : E.d pos + 256 * E.d (pos + 1) = 0) (no fl0 wr : Nat) (hnx : nx wr < 32768) (hDw : Dw E g no fl0 wr) (hf : g 1047 = .bool true) :
    Ret 42 [fp E] w fun v w' => v = .tuple #[] ∧ ∃ g', Wd E w' g' hs bs cs (pos + 4) ∧ g' 1048 = EOFv E ∧ Dw E g' no no (nx wr) ∧ TR E g' fl0 no ∧ Off [2, 3, 4, 1041, 1042, 1043, 1044, 1038, 1039, 1040, 1049, 1045, 1048] g g' ∧ Kp E.L w w' := by
  have kp := Kp.refl E.L w
  have hN := hE.N47
  refine calls_fr (N := 98) Tryd.func42 rfl rfl (by simp [fp]) rfl ?_
  have hd := hE.d8
  have hd0 := hd pos
  have hd1 := hd (pos + 1)
  have hd2 := hd (pos + 2)
  have hd3 := hd (pos + 3)
  refine wp_seq ?_
  -- region 0
  refine reg_lit ?_
  refine L1 (mv (v := .pointer _) rfl) ?_
  refine L1 (nilP rfl) ?_
  refine L1 (fa95_4 rfl) ?_
  refine Lst38 (v := .int _ _) rfl rfl rfl hW.F (by decide) ?_
  intro w1 hb1 kp1
  have hW := hW.setF hE hb1 kp1
  have kp := kp.F kp1
  clear hb1 kp1
  refine wpList_nil ?_
  refine then_n ?_
  refine wp_seq ?_
  -- region 1
  refine reg_lit ?_
  refine L1 (mv (v := .pointer _) rfl) ?_
  refine L1 (nilP rfl) ?_
  refine L1 (fa95_3 rfl) ?_
  refine Lst82 (v := .int _ _) rfl rfl rfl hW.F (by decide) ?_
  intro w1 hb1 kp1
  have hW := hW.setF hE hb1 kp1
  have kp := kp.F kp1
  clear hb1 kp1
  refine wpList_nil ?_
  refine then_n ?_
  refine wp_seq ?_
  -- region 2 (its order is open)
  refine reg_mix [false, false, false, false, false, false, false, false, true, false, false, false, false, false] (fun w => w.cell? ⟨E.F, 0, none⟩ = some (.iface 43 (.pointer (some ⟨E.R, 0, none⟩)))) mixed (by kernel_rfl) ?_ ?_
  · exact (hW.drew.F.cellv (by decide) hS.r)
  have hW := hW.drew
  have kp := kp.drew
  refine T1 (fun w hC => mv (v := .pointer _) rfl) ?_
  refine T1 (fun w hC => nilP rfl) ?_
  refine T1 (fun w hC => fa95_0 rfl) ?_
  refine T1 (fun w hC => ld80 (v := .iface _ _) rfl hC) ?_
  refine T1 (fun w hC => mv (v := .pointer _) rfl) ?_
  refine T1 (fun w hC => nilP rfl) ?_
  refine T1 (fun w hC => fa95_10 rfl) ?_
  refine T1 (fun w hC => sl91 rfl rfl rfl) ?_
  refine EC (cl2 has49 rfl rfl rfl) (rdf_ok E _ pos hE hW.gl hW.rd E.F 1041 4 4 1054 95 _ hW.F hE.FR hE.FS hE.bF (by omega) (by omega) (by omega) (by decide) (by omega)) ?_
  rintro v w1 ⟨rfl, hrd, hh, kp1⟩
  have hW := hW.setFR' hE hh hrd kp1
  have kp := kp.trans (kp1.mono (by simp [Env.L]))
  clear kp1 hh hrd
  refine ⟨hW.F.cellv (by decide) ((gs0_off E g pos 4 (by omega) _ (by decide)).trans hS.r), ?_⟩
  have c0 : gs0 E g pos 4 1041 = .int .u8 (E.d (pos)) := rfl
  have c1 : gs0 E g pos 4 1042 = .int .u8 (E.d (pos + 1)) := rfl
  have c2 : gs0 E g pos 4 1043 = .int .u8 (E.d (pos + 2)) := rfl
  have c3 : gs0 E g pos 4 1044 = .int .u8 (E.d (pos + 3)) := rfl
  refine T1 (fun w hC => mv (v := .tuple _) rfl) ?_
  refine T1 (fun w hC => ext2_0 rfl) ?_
  refine T1 (fun w hC => ext2_1 rfl) ?_
  refine T1 (fun w hC => asg (v := .int _ _) rfl) ?_
  refine T1 (fun w hC => asg (v := .nilIface) rfl) ?_
  refine mix_nil ?_
  refine then_n ?_
  refine wp_seq ?_
  -- region 3
  refine reg_lit ?_
  refine L1 (mv (v := .pointer _) rfl) ?_
  refine L1 (nilP rfl) ?_
  refine L1 (fa95_2 rfl) ?_
  refine L1 (ld2 rfl (hW.F.cellv (by decide) hro)) ?_
  refine L1 (mv (v := .int _ _) rfl) ?_
  refine L1 (bi rfl rfl (bn_addw)) ?_
  refine L1 (nilP rfl) ?_
  refine L1 (fa95_2 rfl) ?_
  refine Lst2 (v := .int _ _) rfl rfl rfl hW.F (by decide) ?_
  intro w1 hb1 kp1
  have hW := hW.setF hE hb1 kp1
  have kp := kp.F kp1
  clear hb1 kp1
  refine wpList_nil ?_
  refine then_n ?_
  refine wp_seq ?_
  refine wp_seq ?_
  -- region 4
  refine reg_lit ?_
  refine L1 (mv (v := .nilIface) rfl) ?_
  refine L1 (en_nil rfl rfl) ?_
  refine wpList_nil ?_
  refine then_n ?_
  refine cond_f rfl ?_
  refine wp_skip ?_
  refine then_n ?_
  refine wp_seq ?_
  -- region 6 (its order is open)
  refine reg_still mixed (by kernel_rfl) ?_
  have hW := hW.drew
  have kp := kp.drew
  refine S1 (mv (v := .pointer _) rfl) ?_
  refine S1 (nilP rfl) ?_
  refine S1 (fa95_10 rfl) ?_
  refine S1 (ixA und91 sz5 rfl rfl (j := 0) rfl (by decide)) ?_
  refine S1 (ld5 rfl (hW.F.cellv (by decide) c0)) ?_
  refine S1 (cv5_3 rfl (wrap_s64 _ (by omega) (by omega))) ?_
  refine S1 (mv (v := .pointer _) rfl) ?_
  refine S1 (nilP rfl) ?_
  refine S1 (fa95_10 rfl) ?_
  refine S1 (ixA und91 sz5 rfl rfl (j := 1) rfl (by decide)) ?_
  refine S1 (ld5 rfl (hW.F.cellv (by decide) c1)) ?_
  refine S1 (cv5_3 rfl (wrap_s64 _ (by omega) (by omega))) ?_
  refine S1 (bi rfl rfl (bn_shl64 (n := 8) rfl rfl (by omega) (by omega))) ?_
  refine S1 (bi rfl rfl ((bn_or64 rfl rfl (by omega) (by omega)).trans (congrArg (fun x : Nat => pure (Value.int .i64 (x : Int))) (or_bytes _ _ hd0)))) ?_
  refine S1 (asg (v := .int _ _) rfl) ?_
  refine still_nil ?_
  refine then_n ?_
  refine wp_seq ?_
  -- region 7 (its order is open)
  refine reg_still mixed (by kernel_rfl) ?_
  have hW := hW.drew
  have kp := kp.drew
  refine S1 (mv (v := .pointer _) rfl) ?_
  refine S1 (nilP rfl) ?_
  refine S1 (fa95_10 rfl) ?_
  refine S1 (ixA und91 sz5 rfl rfl (j := 2) rfl (by decide)) ?_
  refine S1 (ld5 rfl (hW.F.cellv (by decide) c2)) ?_
  refine S1 (cv5_3 rfl (wrap_s64 _ (by omega) (by omega))) ?_
  refine S1 (mv (v := .pointer _) rfl) ?_
  refine S1 (nilP rfl) ?_
  refine S1 (fa95_10 rfl) ?_
  refine S1 (ixA und91 sz5 rfl rfl (j := 3) rfl (by decide)) ?_
  refine S1 (ld5 rfl (hW.F.cellv (by decide) c3)) ?_
  refine S1 (cv5_3 rfl (wrap_s64 _ (by omega) (by omega))) ?_
  refine S1 (bi rfl rfl (bn_shl64 (n := 8) rfl rfl (by omega) (by omega))) ?_
  refine S1 (bi rfl rfl ((bn_or64 rfl rfl (by omega) (by omega)).trans (congrArg (fun x : Nat => pure (Value.int .i64 (x : Int))) (or_bytes _ _ hd2)))) ?_
  refine S1 (asg (v := .int _ _) rfl) ?_
  refine still_nil ?_
  refine then_n ?_
  refine wp_seq ?_
  refine wp_seq ?_
  -- region 8
  refine reg_lit ?_
  refine L1 (mv (v := .int _ _) rfl) ?_
  refine L1 (cv3_37 rfl (wrap_u16n _ (by omega) (by omega))) ?_
  refine L1 (mv (v := .int _ _) rfl) ?_
  refine L1 (un_xor rfl (by omega)) ?_
  refine L1 (cv3_37 rfl (wrap_u16x _ (by omega))) ?_
  refine L1 (bi rfl rfl (bn_neq (v := false) (decide_eq_true (by omega)))) ?_
  refine wpList_nil ?_
  refine then_n ?_
  refine cond_f rfl ?_
  refine wp_skip ?_
  refine then_n ?_
  refine wp_seq ?_
  refine wp_seq ?_
  -- region 10
  refine reg_lit ?_
  refine L1 (mv (v := .int _ _) rfl) ?_
  refine L1 (bi rfl rfl (bn_eql (v := true) (decide_eq_true (by omega)))) ?_
  refine wpList_nil ?_
  refine then_n ?_
  refine cond_t rfl ?_
  refine wp_seq ?_
  -- region 11
  refine reg_lit ?_
  refine L1 (mv (v := .pointer _) rfl) ?_
  refine L1 (mv (v := .pointer _) rfl) ?_
  refine L1 (nilP rfl) ?_
  refine L1 (fa95_9 rfl) ?_
  refine LC (cl1 has50 rfl rfl) (rf_c E _ _ hs bs cs (pos + 4) no fl0 wr hE hW (hDw.off ((gs0_off E g pos 4 (by omega)).mono (by decide) |>.upd (k := 2) (by decide) _ : Off [2, 3, 4, 1041, 1042, 1043, 1044] g _) (by decide))) ?_
  rintro v w1 ⟨hv, g1, hW, hD1, ho, kp1⟩
  have kp := kp.trans kp1
  refine L1 (nilP rfl) ?_
  refine L1 (fa95_15 rfl) ?_
  refine Lst22 (v := v) rfl rfl (by obtain ⟨_, _, _, rfl, _⟩ := hv; rfl) hW.F (by decide) ?_
  intro w1 hb1 kp1
  have hW := hW.setF hE hb1 kp1
  have kp := kp.F kp1
  have ho1 : Off [2, 3, 4, 1041, 1042, 1043, 1044, 1038, 1039, 1040, 1049] g _ := ((((gs0_off E g pos 4 (by omega)).mono (by decide) |>.upd (k := 2) (by decide) _ : Off [2, 3, 4, 1041, 1042, 1043, 1044] g _).mono (by decide)).trans (ho.mono (by decide))).upd (k := 1049) (by decide) v
  have hD2 := hD1.off ((Off.refl [1049] g1).upd (k := 1049) (by decide) v) (by decide)
  have h3 : g1 3 = .int .u32 0 := (ho 3 (by decide)).trans rfl
  have h4 : g1 4 = .int .u64 0 := (ho 4 (by decide)).trans rfl
  have h2 : ∃ x, g1 2 = .int .i64 x := ⟨_, (ho 2 (by decide)).trans rfl⟩
  refine wpList_nil ?_
  refine then_n ?_
  refine wp_seq ?_
  -- region 12
  refine reg_lit ?_
  refine L1 (mv (v := .pointer _) rfl) ?_
  refine LC (cl1 has51 rfl rfl) (finish_last' E _ _ hs bs cs (pos + 4) hE hW ((ho1 _ (by decide)).trans hf) no (nx wr) hnx hD2) ?_
  rintro v w1 ⟨rfl, g2, hW, h45, h48, hD3, ho2, kp1⟩
  have kp := kp.trans kp1
  refine wpList_nil ?_
  refine then_n ?_
  refine wp_ret ?_
  refine then_r ?_
  refine ret0 rfl ?_
  refine ⟨_, rfl, rfl, g2, hW, h48, hD3, ?_, (ho1.mono (by decide)).trans (ho2.mono (by decide)), kp⟩
  exact TR.off (g := upd g1 1049 v) hv ho2 (by decide)
theorem db_data (E : Env) (w : World) (g hs bs cs : Nat → Value) (pos : Nat) (ro : Int) (hE : E.Ok) (hW : Wd E w g hs bs cs pos) (hS : Stc E g) (hro : g 2 = .int .i64 ro) (hp : pos + 4 ≤ E.N) (hb : E.d pos + 256 * E.d (pos + 1) + (E.d (pos + 2) + 256 * E.d (pos + 3)) = 65535) (hz : E.d pos + 256 * E.d (pos + 1) ≠ 0) (Q : World → Prop)
    (hcall : ∀ w1 g1, Wd E w1 g1 hs bs cs (pos + 4) → g1 3 = .int .u32 0 → g1 4 = .int .u64 0 → g1 1052 = .int .i64 ((E.d pos + 256 * E.d (pos + 1) : Nat) : Int) → (∃ x, g1 2 = .int .i64 x) → Off [2, 3, 4, 1041, 1042, 1043, 1044, 1052] g g1 → Kp E.L w w1 → Ret 52 [fp E] w1 fun v w' => v = .tuple #[] ∧ Q w') :
    Ret 42 [fp E] w fun v w' => v = .tuple #[] ∧ Q w' := by
  have kp := Kp.refl E.L w
  have hN := hE.N47
  refine calls_fr (N := 98) Tryd.func42 rfl rfl (by simp [fp]) rfl ?_
  have hd := hE.d8
  have hd0 := hd pos
  have hd1 := hd (pos + 1)
  have hd2 := hd (pos + 2)
  have hd3 := hd (pos + 3)
  refine wp_seq ?_
  -- region 0
  refine reg_lit ?_
  refine L1 (mv (v := .pointer _) rfl) ?_
  refine L1 (nilP rfl) ?_
  refine L1 (fa95_4 rfl) ?_
  refine Lst38 (v := .int _ _) rfl rfl rfl hW.F (by decide) ?_
  intro w1 hb1 kp1
  have hW := hW.setF hE hb1 kp1
  have kp := kp.F kp1
  clear hb1 kp1
  refine wpList_nil ?_
  refine then_n ?_
  refine wp_seq ?_
  -- region 1
  refine reg_lit ?_
  refine L1 (mv (v := .pointer _) rfl) ?_
  refine L1 (nilP rfl) ?_
  refine L1 (fa95_3 rfl) ?_
  refine Lst82 (v := .int _ _) rfl rfl rfl hW.F (by decide) ?_
  intro w1 hb1 kp1
  have hW := hW.setF hE hb1 kp1
  have kp := kp.F kp1
  clear hb1 kp1
  refine wpList_nil ?_
  refine then_n ?_
  refine wp_seq ?_
  -- region 2 (its order is open)
  refine reg_mix [false, false, false, false, false, false, false, false, true, false, false, false, false, false] (fun w => w.cell? ⟨E.F, 0, none⟩ = some (.iface 43 (.pointer (some ⟨E.R, 0, none⟩)))) mixed (by kernel_rfl) ?_ ?_
  · exact (hW.drew.F.cellv (by decide) hS.r)
  have hW := hW.drew
  have kp := kp.drew
  refine T1 (fun w hC => mv (v := .pointer _) rfl) ?_
  refine T1 (fun w hC => nilP rfl) ?_
  refine T1 (fun w hC => fa95_0 rfl) ?_
  refine T1 (fun w hC => ld80 (v := .iface _ _) rfl hC) ?_
  refine T1 (fun w hC => mv (v := .pointer _) rfl) ?_
  refine T1 (fun w hC => nilP rfl) ?_
  refine T1 (fun w hC => fa95_10 rfl) ?_
  refine T1 (fun w hC => sl91 rfl rfl rfl) ?_
  refine EC (cl2 has49 rfl rfl rfl) (rdf_ok E _ pos hE hW.gl hW.rd E.F 1041 4 4 1054 95 _ hW.F hE.FR hE.FS hE.bF (by omega) (by omega) (by omega) (by decide) (by omega)) ?_
  rintro v w1 ⟨rfl, hrd, hh, kp1⟩
  have hW := hW.setFR' hE hh hrd kp1
  have kp := kp.trans (kp1.mono (by simp [Env.L]))
  clear kp1 hh hrd
  refine ⟨hW.F.cellv (by decide) ((gs0_off E g pos 4 (by omega) _ (by decide)).trans hS.r), ?_⟩
  have c0 : gs0 E g pos 4 1041 = .int .u8 (E.d (pos)) := rfl
  have c1 : gs0 E g pos 4 1042 = .int .u8 (E.d (pos + 1)) := rfl
  have c2 : gs0 E g pos 4 1043 = .int .u8 (E.d (pos + 2)) := rfl
  have c3 : gs0 E g pos 4 1044 = .int .u8 (E.d (pos + 3)) := rfl
  refine T1 (fun w hC => mv (v := .tuple _) rfl) ?_
  refine T1 (fun w hC => ext2_0 rfl) ?_
  refine T1 (fun w hC => ext2_1 rfl) ?_
  refine T1 (fun w hC => asg (v := .int _ _) rfl) ?_
  refine T1 (fun w hC => asg (v := .nilIface) rfl) ?_
  refine mix_nil ?_
  refine then_n ?_
  refine wp_seq ?_
  -- region 3
  refine reg_lit ?_
  refine L1 (mv (v := .pointer _) rfl) ?_
  refine L1 (nilP rfl) ?_
  refine L1 (fa95_2 rfl) ?_
  refine L1 (ld2 rfl (hW.F.cellv (by decide) hro)) ?_
  refine L1 (mv (v := .int _ _) rfl) ?_
  refine L1 (bi rfl rfl (bn_addw)) ?_
  refine L1 (nilP rfl) ?_
  refine L1 (fa95_2 rfl) ?_
  refine Lst2 (v := .int _ _) rfl rfl rfl hW.F (by decide) ?_
  intro w1 hb1 kp1
  have hW := hW.setF hE hb1 kp1
  have kp := kp.F kp1
  clear hb1 kp1
  refine wpList_nil ?_
  refine then_n ?_
  refine wp_seq ?_
  refine wp_seq ?_
  -- region 4
  refine reg_lit ?_
  refine L1 (mv (v := .nilIface) rfl) ?_
  refine L1 (en_nil rfl rfl) ?_
  refine wpList_nil ?_
  refine then_n ?_
  refine cond_f rfl ?_
  refine wp_skip ?_
  refine then_n ?_
  refine wp_seq ?_
  -- region 6 (its order is open)
  refine reg_still mixed (by kernel_rfl) ?_
  have hW := hW.drew
  have kp := kp.drew
  refine S1 (mv (v := .pointer _) rfl) ?_
  refine S1 (nilP rfl) ?_
  refine S1 (fa95_10 rfl) ?_
  refine S1 (ixA und91 sz5 rfl rfl (j := 0) rfl (by decide)) ?_
  refine S1 (ld5 rfl (hW.F.cellv (by decide) c0)) ?_
  refine S1 (cv5_3 rfl (wrap_s64 _ (by omega) (by omega))) ?_
  refine S1 (mv (v := .pointer _) rfl) ?_
  refine S1 (nilP rfl) ?_
  refine S1 (fa95_10 rfl) ?_
  refine S1 (ixA und91 sz5 rfl rfl (j := 1) rfl (by decide)) ?_
  refine S1 (ld5 rfl (hW.F.cellv (by decide) c1)) ?_
  refine S1 (cv5_3 rfl (wrap_s64 _ (by omega) (by omega))) ?_
  refine S1 (bi rfl rfl (bn_shl64 (n := 8) rfl rfl (by omega) (by omega))) ?_
  refine S1 (bi rfl rfl ((bn_or64 rfl rfl (by omega) (by omega)).trans (congrArg (fun x : Nat => pure (Value.int .i64 (x : Int))) (or_bytes _ _ hd0)))) ?_
  refine S1 (asg (v := .int _ _) rfl) ?_
  refine still_nil ?_
  refine then_n ?_
  refine wp_seq ?_
  -- region 7 (its order is open)
  refine reg_still mixed (by kernel_rfl) ?_
  have hW := hW.drew
  have kp := kp.drew
  refine S1 (mv (v := .pointer _) rfl) ?_
  refine S1 (nilP rfl) ?_
  refine S1 (fa95_10 rfl) ?_
  refine S1 (ixA und91 sz5 rfl rfl (j := 2) rfl (by decide)) ?_
  refine S1 (ld5 rfl (hW.F.cellv (by decide) c2)) ?_
  refine S1 (cv5_3 rfl (wrap_s64 _ (by omega) (by omega))) ?_
  refine S1 (mv (v := .pointer _) rfl) ?_
  refine S1 (nilP rfl) ?_
  refine S1 (fa95_10 rfl) ?_
  refine S1 (ixA und91 sz5 rfl rfl (j := 3) rfl (by decide)) ?_
  refine S1 (ld5 rfl (hW.F.cellv (by decide) c3)) ?_
  refine S1 (cv5_3 rfl (wrap_s64 _ (by omega) (by omega))) ?_
  refine S1 (bi rfl rfl (bn_shl64 (n := 8) rfl rfl (by omega) (by omega))) ?_
  refine S1 (bi rfl rfl ((bn_or64 rfl rfl (by omega) (by omega)).trans (congrArg (fun x : Nat => pure (Value.int .i64 (x : Int))) (or_bytes _ _ hd2)))) ?_
  refine S1 (asg (v := .int _ _) rfl) ?_
  refine still_nil ?_
  refine then_n ?_
  refine wp_seq ?_
  refine wp_seq ?_
  -- region 8
  refine reg_lit ?_
  refine L1 (mv (v := .int _ _) rfl) ?_
  refine L1 (cv3_37 rfl (wrap_u16n _ (by omega) (by omega))) ?_
  refine L1 (mv (v := .int _ _) rfl) ?_
  refine L1 (un_xor rfl (by omega)) ?_
  refine L1 (cv3_37 rfl (wrap_u16x _ (by omega))) ?_
  refine L1 (bi rfl rfl (bn_neq (v := false) (decide_eq_true (by omega)))) ?_
  refine wpList_nil ?_
  refine then_n ?_
  refine cond_f rfl ?_
  refine wp_skip ?_
  refine then_n ?_
  refine wp_seq ?_
  refine wp_seq ?_
  -- region 10
  refine reg_lit ?_
  refine L1 (mv (v := .int _ _) rfl) ?_
  refine L1 (bi rfl rfl (bn_eql (v := false) (decide_eq_false (by omega)))) ?_
  refine wpList_nil ?_
  refine then_n ?_
  refine cond_f rfl ?_
  refine wp_skip ?_
  refine then_n ?_
  refine wp_seq ?_
  -- region 13
  refine reg_lit ?_
  refine L1 (mv (v := .pointer _) rfl) ?_
  refine L1 (mv (v := .int _ _) rfl) ?_
  refine L1 (nilP rfl) ?_
  refine L1 (fa95_18 rfl) ?_
  refine Lst3 (v := .int _ _) rfl rfl rfl hW.F (by decide) ?_
  intro w1 hb1 kp1
  have hW := hW.setF hE hb1 kp1
  have kp := kp.F kp1
  clear hb1 kp1
  refine wpList_nil ?_
  refine then_n ?_
  -- region 14
  refine reg_lit ?_
  refine L1 (mv (v := .pointer _) rfl) ?_
  refine LC (cl1 has52 rfl rfl) (hcall _ _ hW rfl rfl rfl ⟨_, rfl⟩ ((((gs0_off E g pos 4 (by omega)).mono (by simp)).upd (by simp) _).upd (by simp) _) kp) ?_
  rintro v w1 ⟨rfl, hQ⟩
  refine wpList_nil ?_
  refine end0 rfl ?_
  exact ⟨_, rfl, rfl, hQ⟩
end Go.Proofs.YtejeloeaklpinaaDoor

/- dataBlock, as the machine tells it. -/
namespace Go.Proofs.YtejeloeaklpinaaDoor
theorem mData_true (S : Src) (a : A) (n : Nat) : (mData S a n).2 = true := by
  unfold mData; split
  · rfl
  · split <;> rfl
theorem bv16E {E : Env} (hE : E.Ok) {k : Nat} (hk : k + 1 < E.N) : bv E.D (8 * k) 16 = E.d k + 256 * E.d (k + 1) := bv16 E.d hE.d8 E.N k hk
theorem dataBlock_c (E : Env) (w : World) (a : A) (hE : E.Ok) (hR : RepI E w a) (hmd : a.md = .next) (hef : a.e = a.fl) (herr : a.err = 0) :
    Ret 42 [fp E] w fun v w' => v = .tuple #[] ∧ (∃ c, Rep E w' c ∧ ((mStored E.S' a = (c, true)) ∨ ∃ b, mStored E.S' a = (b, false) ∧ mic E.S' b = (c, true))) ∧ Kp E.L w w' := by
  obtain ⟨g, hs, bs, cs, hC, hL⟩ := hR
  have hmd' := hL.md
  rw [hmd] at hmd'
  obtain ⟨hSS, hl⟩ := hmd'
  obtain ⟨ro, hro⟩ := hL.B.ro
  have hle := hC.W.rd.le
  have hSN : E.S'.N = E.N := rfl
  have hSD : E.S'.D = E.D := rfl
  have hT := hC.T
  rw [hef] at hT
  by_cases hp : E.N < a.pos + 4
  · refine (db_short E w g hs bs cs a.pos ro hE hC.W hC.S hro hle hp).mono ?_
    rintro e w' ⟨v, rfl, rfl, g', hW, h48, ho, kp⟩
    refine ⟨_, rfl, rfl, ⟨a.short E.S', ?_, .inl (by unfold mStored; rw [hSN, if_pos hp])⟩, kp⟩
    exact ⟨g', hs, bs, cs, hC.off hW ho (by decide), .inr (.inr (.inl ⟨rfl, h48⟩)), fun h => by cases h⟩
  · have hp' : a.pos + 4 ≤ E.N := by omega
    have b1 : bv E.D (8 * a.pos) 16 = E.d a.pos + 256 * E.d (a.pos + 1) := bv16E hE (by omega)
    have b2 : bv E.D (8 * a.pos + 16) 16 = E.d (a.pos + 2) + 256 * E.d (a.pos + 3) := by
      rw [show 8 * a.pos + 16 = 8 * (a.pos + 2) by omega]; exact bv16E hE (by omega)
    by_cases hb : E.d a.pos + 256 * E.d (a.pos + 1) + (E.d (a.pos + 2) + 256 * E.d (a.pos + 3)) ≠ 65535
    · refine (db_bad E w g hs bs cs a.pos ro hE hC.W hC.S hro hp' hb).mono ?_
      rintro e w' ⟨v, rfl, rfl, g', hW, h48, ho, kp⟩
      refine ⟨_, rfl, rfl, ⟨({ a with p := 8 * (a.pos + 4), pos := a.pos + 4 } : A).bad, ?_, .inl (by unfold mStored; rw [hSN, hSD, b1, b2, if_neg hp, if_pos hb])⟩, kp⟩
      exact ⟨g', hs, bs, cs, hC.off hW ho (by decide), .inr (.inr (.inr ⟨rfl, h48⟩)), fun h => by cases h⟩
    · have hb' := Decidable.not_not.1 hb
      by_cases hz : E.d a.pos + 256 * E.d (a.pos + 1) = 0
      · have hm : mStored E.S' a = (({ a with p := 8 * (a.pos + 4), pos := a.pos + 4 } : A).flush.finish, true) := by
          unfold mStored; rw [hSN, hSD, b1, b2, if_neg hp, if_neg hb, if_pos hz]
        have hnx : nx (a.out.length % 32768) = a.out.length % 32768 := by unfold nx; rw [if_neg (by omega)]
        have hfin := hL.fin
        cases hfe : a.fin with
        | false =>
          rw [hfe] at hfin
          refine (db_zero_more E w g hs bs cs a.pos ro hE hC.W hC.S hro hp' hb' hz _ _ _ (by rw [hnx]; omega) hC.D hfin).mono ?_
          rintro e w' ⟨v, rfl, rfl, g', hW, h2, h3, h4, h45, hD, hT', ho, kp⟩
          refine ⟨_, rfl, rfl, ⟨_, ?_, .inl hm⟩, kp⟩
          rw [hnx] at hD
          simp only [A.finish, A.flush, hfe]
          refine ⟨g', hs, bs, cs, ⟨hW, hC.S.off ho (by decide), hC.V, hD, ?_, HZ.offs hC.Z ho (by decide)⟩, .inl ⟨herr, (ho _ (by decide)).trans hL.err⟩, fun _ => ⟨⟨Bt.zero h2 h3 h4, (ho _ (by decide)).trans hfin, (ho _ (by decide)).trans hL.err, ?_⟩, h45, trivial⟩⟩
          · show TR E g' a.e _
            rw [hef]; exact hT'
          · exact ⟨hSS.off ho (by decide), (ho _ (by decide)).trans hl⟩
        | true =>
          rw [hfe] at hfin
          refine (db_zero_last E w g hs bs cs a.pos ro hE hC.W hC.S hro hp' hb' hz _ _ _ (by rw [hnx]; omega) hC.D hfin).mono ?_
          rintro e w' ⟨v, rfl, rfl, g', hW, h48, hD, hT', ho, kp⟩
          refine ⟨_, rfl, rfl, ⟨_, ?_, .inl hm⟩, kp⟩
          rw [hnx] at hD
          simp only [A.finish, A.flush, hfe, if_true]
          refine ⟨g', hs, bs, cs, ⟨hW, hC.S.off ho (by decide), hC.V, hD, ?_, HZ.offs hC.Z ho (by decide)⟩, .inr (.inl ⟨rfl, h48⟩), fun h => by cases h⟩
          show TR E g' a.e _
          rw [hef]; exact hT'
      · have hd0 := hE.d8 a.pos
        have hd1 := hE.d8 (a.pos + 1)
        have hm : mStored E.S' a = (({ a with p := 8 * (a.pos + 4), pos := a.pos + 4, md := .data (E.d a.pos + 256 * E.d (a.pos + 1)) } : A), false) := by
          unfold mStored; rw [hSN, hSD, b1, b2, if_neg hp, if_neg hb, if_neg hz]
        refine db_data E w g hs bs cs a.pos ro hE hC.W hC.S hro hp' hb' hz (fun w' => (∃ c, Rep E w' c ∧ ((mStored E.S' a = (c, true)) ∨ ∃ b, mStored E.S' a = (b, false) ∧ mic E.S' b = (c, true))) ∧ Kp E.L w w') ?_
        intro w1 g1 hW h3 h4 h52 h2 ho kp
        have hR1 : RepI E w1 { a with p := 8 * (a.pos + 4), pos := a.pos + 4, md := .data (E.d a.pos + 256 * E.d (a.pos + 1)) } := by
          refine ⟨g1, hs, bs, cs, hC.off hW ho (by decide), ⟨Bt.zero h2 h3 h4, (ho _ (by decide)).trans hL.fin, (ho _ (by decide)).trans hL.err, ?_⟩⟩
          exact ⟨hSS.off ho (by decide), h52, by omega, h3, h4⟩
        refine (copyData_c E w1 _ _ hE hR1 rfl hef herr).mono ?_
        rintro e w' ⟨v, rfl, rfl, hR', kp'⟩
        refine ⟨_, rfl, rfl, ⟨_, hR', .inr ⟨_, hm, ?_⟩⟩, kp.trans kp'⟩
        show mData _ _ _ = _
        rw [← mData_true E.S' _ (E.d a.pos + 256 * E.d (a.pos + 1))]
end Go.Proofs.YtejeloeaklpinaaDoor

/- A block's head. Its walks are printed by gen/g_next.py. -/
namespace Go.Proofs.YtejeloeaklpinaaDoor
attribute [local irreducible] wpList wpStill wpMix Code.wp Calls fr
theorem rdTo_of {p pos pos' n : Nat} (h1 : pos ≤ pos') (h2 : pos' = pos ∨ 8 * pos' < p + n + 8) (h3 : p + n ≤ 8 * pos') : pos' = rdTo p pos n := by
  unfold rdTo; omega
theorem Bt.adv {E : Env} {g g' : Nat → Value} {p pos : Nat} (h : Bt E g p pos) (k : Nat) (hk : p + k ≤ 8 * pos) (h2 : ∃ x, g' 2 = .int .i64 x) (h3 : g' 3 = .int .u32 ((bv E.D p (8 * pos - p) / 2 ^ k : Nat) : Int)) (h4 : g' 4 = .int .u64 ((8 * pos - p - k : Nat) : Int)) : Bt E g' (p + k) pos := by
  have h0 := h.le
  have h1 := h.l32
  refine ⟨h2, ?_, ?_, by omega, by omega⟩
  · rw [h3, bv_shift _ _ _ _ (by omega), show 8 * pos - p - k = 8 * pos - (p + k) by omega]
  · rw [h4, show 8 * pos - p - k = 8 * pos - (p + k) by omega]
theorem Wd.offs {E : Env} {w : World} {g g' hs bs cs : Nat → Value} {pos : Nat} {L : List Nat} (_ : Wd E w g' hs bs cs pos) (o : Off L g g') : Off L g g' := o
theorem Bt.advW {E : Env} {w : World} {g g' hs bs cs : Nat → Value} {p pos : Nat} (_ : Wd E w g' hs bs cs pos) (h : Bt E g p pos) (k : Nat) (hk : p + k ≤ 8 * pos) (h2 : ∃ x, g' 2 = .int .i64 x) (h3 : g' 3 = .int .u32 ((bv E.D p (8 * pos - p) / 2 ^ k : Nat) : Int)) (h4 : g' 4 = .int .u64 ((8 * pos - p - k : Nat) : Int)) : Bt E g' (p + k) pos := h.adv k hk h2 h3 h4
/-- A block with codes: what its step comes to. -/
def C44 : Prop := ∀ (E : Env) (w : World) (a : A) (hl : Cd) (hd : Option Cd) (c : Option (Nat × Nat)) (g hs bs cs : Nat → Value), E.Ok → Cr E w g hs bs cs a.pos a.out a.fl (a.out.length % 32768) a.e → Live E w g a → SSm g a.md → a.md = .huff hl hd c → a.e = a.fl → a.err = 0 →
  Ret 44 [fp E] w fun v w' => v = .tuple #[] ∧ (∃ b, Rep E w' b ∧ Runs E.S' a b) ∧ Kp E.L w w'
def C43 : Prop := ∀ w : World, Ret 43 [] w fun v w' => ∃ X gx, v = .pointer (some ⟨X, 0, none⟩) ∧ w.heap.size ≤ X ∧ Bk w' X 515 86 gx ∧ (∀ E, HTab E w' gx 0 (cdL fixL)) ∧ LkOk (cdL fixL) ∧ Kp [] w w'
def C45 : Prop := ∀ (E : Env) (w : World) (a : A) (g hs bs cs : Nat → Value), E.Ok → Cr E w g hs bs cs a.pos a.out a.fl (a.out.length % 32768) a.e → Live E w g a → a.md = .next → a.err = 0 →
  Ret 45 [fp E] w fun v w' => ∃ g' bs' cs' b, Kp E.L w w' ∧ Cr E w' g' hs bs' cs' b.pos a.out a.fl (a.out.length % 32768) a.e ∧ b.out = a.out ∧ b.fl = a.fl ∧ b.e = a.e ∧ b.fin = a.fin ∧
    ((ErrV E b.err v ∧ b.err ≠ 0 ∧ mDyn E.S' a = (b, true)) ∨
     (v = .nilIface ∧ b.err = 0 ∧ ∃ hl hd, mDyn E.S' a = (b, false) ∧ b.md = .huff hl (some hd) none ∧ LkOk hl ∧ LkOk hd ∧ HTab E w' g' 5 hl ∧ HTab E w' g' 520 hd ∧ Bt E g' b.p b.pos ∧ (∀ j, 1035 ≤ j → g' j = g j)))
/-- What is asked of the codes, where a block with codes comes. -/
def HC : Prop := C43 ∧ C44 ∧ C45

theorem Wd.lts {E : Env} {w : World} {g hs bs cs : Nat → Value} {pos : Nat} (h : Wd E w g hs bs cs pos) (b : Nat) (hb : b ∈ E.X) : b < w.heap.size := by
  simp only [Env.X, List.mem_cons, List.not_mem_nil, or_false] at hb
  rcases hb with rfl | rfl | rfl | rfl | rfl | rfl | rfl
  · exact h.F.lt
  · exact h.H.lt
  · obtain ⟨_, _, _, hR, _⟩ := h.rd; exact hR.lt
  · exact h.bt.lt
  · exact h.cb.lt
  · exact h.bu.1
  · exact h.bu.2
theorem nextBlock_w (E : Env) (w : World) (g hs bs cs : Nat → Value) (p pos : Nat) (hE : E.Ok) (hW : Wd E w g hs bs cs pos) (hS : Stc E g) (hB : Bt E g p pos) (he : g 1048 = .nilIface) (Q : World → Prop)
    (hsh : ∀ w' g', 8 * E.N < p + 3 → Wd E w' g' hs bs cs E.N → g' 1048 = UEOFv E → Off [2, 3, 4, 1048] g g' → Kp E.L w w' → Q w')
    (hbad : p + 3 ≤ 8 * E.N → bv E.D p 3 / 2 ≠ 0 ∧ bv E.D p 3 / 2 ≠ 1 ∧ bv E.D p 3 / 2 ≠ 2 → ∀ w' g' pos', pos' = rdTo p pos 3 → Wd E w' g' hs bs cs pos' → (∃ x, g' 1048 = .iface 107 (.int .i64 x)) → Off [2, 3, 4, 1047, 1048] g g' → Kp E.L w w' → Q w')
    (h0 : bv E.D p 3 / 2 = 0 → ∀ w' g' pos', pos' = rdTo p pos 3 → Wd E w' g' hs bs cs pos' → g' 1047 = .bool (decide (bv E.D p 3 % 2 = 1)) → g' 1048 = .nilIface → Bt E g' (p + 3) pos' → Off [2, 3, 4, 1047, 1048] g g' → Kp E.L w w' → Ret 42 [fp E] w' fun v w2 => v = .tuple #[] ∧ Q w2)
    (h1 : p + 3 ≤ 8 * E.N → bv E.D p 3 / 2 = 1 → C43 ∧ ∀ w' g' X gx pos', pos' = rdTo p pos 3 → Wd E w' g' hs bs cs pos' → g' 1047 = .bool (decide (bv E.D p 3 % 2 = 1)) → g' 1048 = .nilIface → g' 1050 = .pointer (some ⟨X, 0, none⟩) → g' 1051 = .pointer none → X ∉ E.X → Bk w' X 515 86 gx → HTab E w' gx 0 (cdL fixL) → LkOk (cdL fixL) →
      Bt E g' (p + 3) pos' → Off [2, 3, 4, 1047, 1048, 1050, 1051] g g' → Kp E.L w w' → Ret 44 [fp E] w' fun v w2 => v = .tuple #[] ∧ Q w2)
    (h2 : bv E.D p 3 / 2 = 2 → ∀ w' g' pos', pos' = rdTo p pos 3 → Wd E w' g' hs bs cs pos' → g' 1047 = .bool (decide (bv E.D p 3 % 2 = 1)) → g' 1048 = .nilIface → Bt E g' (p + 3) pos' → Off [2, 3, 4, 1047, 1048] g g' → Kp E.L w w' → Ret 45 [fp E] w' fun v w2 => ∃ g3 bs2 cs2 pos3, Wd E w2 g3 hs bs2 cs2 pos3 ∧ v.oneCell' = true ∧ Kp E.L w' w2 ∧
      (((∃ t x, v = .iface t x) ∧ ∀ w3 g4, Wd E w3 g4 hs bs2 cs2 pos3 → g4 1048 = v → Off [1048] g3 g4 → Kp E.L w2 w3 → Kp E.L w w3 → Q w3) ∨
       (v = .nilIface ∧ ∀ w3 g4, Wd E w3 g4 hs bs2 cs2 pos3 → g4 1048 = .nilIface → g4 1050 = .pointer (some ⟨E.F, 5, none⟩) → g4 1051 = .pointer (some ⟨E.F, 520, none⟩) → Off [1048, 1050, 1051] g3 g4 → Kp E.L w2 w3 → Kp E.L w w3 → Ret 44 [fp E] w3 fun v w4 => v = .tuple #[] ∧ Q w4))) :
    Ret 35 [fp E] w fun v w' => v = .tuple #[] ∧ Q w' := by
  have kp := Kp.refl E.L w
  have hN := hE.N47
  have hp0 := hB.le
  have hp1 := hB.l32
  refine calls_fr (N := 103) Tryd.func35 rfl rfl (by simp [fp]) rfl ?_
  refine wp_seq ?_
  refine wp_block ?_
  refine loop_fr (fun k f w' => f 0 = fp E ∧ ∃ g' pos', Wd E w' g' hs bs cs pos' ∧ Bt E g' p pos' ∧ Off [2, 3, 4, 1048] g g' ∧ g' 1048 = .nilIface ∧ Kp E.L w w' ∧ pos ≤ pos' ∧ (pos' = pos ∨ 8 * pos' < p + 3 + 8) ∧ k = E.N - pos') (E.N - pos) ⟨rfl, g, pos, hW, hB, Off.refl _ _, he, kp, Nat.le_refl _, .inl rfl, rfl⟩ ?_
  clear hW kp hp0 hp1
  intro k f w1 HJ
  obtain ⟨s0, g1, pos', hW, hB, ho, he, kp, hpp, hpq, rfl⟩ := HJ
  have hp0 := hB.le
  have hp1 := hB.l32
  have hS := hS.off ho (by decide)
  refine slots (fc s0 fnil) ?_
  refine wp_seq ?_
  refine wp_seq ?_
  -- region 0
  refine reg_lit ?_
  refine L1 (mv (v := .pointer _) rfl) ?_
  refine L1 (nilP rfl) ?_
  refine L1 (fa95_4 rfl) ?_
  refine L1 (ld38 rfl (hW.F.cellv (by decide) hB.nb)) ?_
  refine L1 (bi rfl rfl (bn_lss (v := decide (8 * pos' - p < 3)) (decide_eq_decide.2 (by omega)))) ?_
  refine wpList_nil ?_
  refine then_n ?_
  refine cond_d (p := 8 * pos' - p < 3) rfl (fun hlt => ?_) (fun hlt => ?_)
  · -- more bits are wanted
    by_cases hpn : pos' < E.N
    · -- eight bits more
      refine wp_skip ?_
      refine then_n ?_
      refine wp_block ?_
      refine wp_seq ?_
      -- region 1
      refine reg_lit ?_
      refine L1 (mv (v := .pointer _) rfl) ?_
      refine L1 (mv (v := .pointer _) rfl) ?_
      refine LC (cl1 has41 rfl rfl) (more_ok E _ g1 hs bs cs p pos' hE hW hS hB (by omega) hpn) ?_
      rintro v w1 ⟨rfl, g2, hW, hB, ho2, kp1⟩
      have kp := kp.trans kp1
      refine L1 (nilP rfl) ?_
      refine L1 (fa95_14 rfl) ?_
      refine Lst62 (v := .nilIface) rfl rfl rfl hW.F (by decide) ?_
      intro w1 hb1 kp1
      have hW := hW.setF hE hb1 kp1
      have kp := kp.F kp1
      clear hb1 kp1
      refine wpList_nil ?_
      refine then_n ?_
      refine wp_seq ?_
      -- region 2
      refine reg_lit ?_
      refine L1 (mv (v := .pointer _) rfl) ?_
      refine L1 (nilP rfl) ?_
      refine L1 (fa95_14 rfl) ?_
      refine L1 (ld62 rfl (hW.F.cellv (v := .nilIface) (by decide) rfl)) ?_
      refine L1 (en_nil rfl rfl) ?_
      refine wpList_nil ?_
      refine then_n ?_
      refine cond_f rfl ?_
      refine wp_skip ?_
      refine inb_n ?_
      refine then_n ?_
      have hle := hW.rd.le
      refine ⟨E.N - (pos' + 1), _, by omega, rfl, rfl, _, pos' + 1, hW, hB.off ((Off.refl [1048] g2).upd (by decide) _) (by decide), (ho.trans (ho2.mono (by decide))).upd (by decide) _, rfl, kp, by omega, .inr (by omega), rfl⟩
    · -- there are none
      refine wp_skip ?_
      refine then_n ?_
      refine wp_block ?_
      refine wp_seq ?_
      -- region 1
      refine reg_lit ?_
      refine L1 (mv (v := .pointer _) rfl) ?_
      refine L1 (mv (v := .pointer _) rfl) ?_
      refine LC (cl1 has41 rfl rfl) (more_short E _ g1 hs bs cs p pos' hE hW hS hB (by have := hW.rd.le; omega)) ?_
      rintro v w1 ⟨rfl, hW, kp1⟩
      have kp := kp.trans kp1
      refine L1 (nilP rfl) ?_
      refine L1 (fa95_14 rfl) ?_
      refine Lst62 (v := (UEOFv E)) rfl rfl rfl hW.F (by decide) ?_
      intro w1 hb1 kp1
      have hW := hW.setF hE hb1 kp1
      have kp := kp.F kp1
      clear hb1 kp1
      refine wpList_nil ?_
      refine then_n ?_
      refine wp_seq ?_
      -- region 2
      refine reg_lit ?_
      refine L1 (mv (v := .pointer _) rfl) ?_
      refine L1 (nilP rfl) ?_
      refine L1 (fa95_14 rfl) ?_
      refine L1 (ld62 (v := UEOFv E) rfl (hW.F.cellv (by decide) rfl)) ?_
      refine L1 (en_held (u := 131) rfl rfl) ?_
      refine wpList_nil ?_
      refine then_n ?_
      refine cond_t rfl ?_
      refine wp_ret ?_
      refine inb_r ?_
      refine then_r ?_
      refine inb_r ?_
      refine then_r ?_
      refine ret0 rfl ?_
      have e : pos' = E.N := by have := hW.rd.le; omega
      rw [e] at hW
      exact ⟨_, rfl, rfl, hsh _ _ (by omega) hW rfl (ho.upd (by decide) _) kp⟩
  · -- there are enough
    have hpos : pos' = rdTo p pos 3 := rdTo_of hpp hpq (by omega)
    have hbv := bv_lt E.D p (8 * pos' - p)
    have h32 : bv E.D p (8 * pos' - p) < 4294967296 := Nat.lt_of_lt_of_le hbv (Nat.pow_le_pow_right (n := 2) (by decide) (show 8 * pos' - p ≤ 32 by omega))
    obtain ⟨ro, hro⟩ := hB.ro
    have hb1 : bv E.D p (8 * pos' - p) % 2 ^ 1 = bv E.D p 3 % 2 := by rw [← bv_mod E.D p (8 * pos' - p) 3 (by omega)]; omega
    have hb2 : bv E.D p (8 * pos' - p) / 2 ^ 1 % 2 ^ 2 = bv E.D p 3 / 2 := by rw [← bv_mod E.D p (8 * pos' - p) 3 (by omega)]; omega
    refine wp_exit ?_
    refine then_e ?_
    refine then_e ?_
    refine inb_same ?_
    refine then_n ?_
    refine wp_seq ?_
    -- region 3
    refine reg_lit ?_
    refine L1 (mv (v := .pointer _) rfl) ?_
    refine L1 (mv (v := .pointer _) rfl) ?_
    refine L1 (nilP rfl) ?_
    refine L1 (fa95_3 rfl) ?_
    refine L1 (ld82 rfl (hW.F.cellv (by decide) hB.b)) ?_
    refine L1 (bi rfl rfl ((bn_mask32 (k := 1) rfl rfl h32 (by decide)).trans (congrArg (fun x : Nat => pure (Value.int .u32 (x : Int))) hb1))) ?_
    refine L1 (bi rfl rfl (bn_eql (v := decide (bv E.D p 3 % 2 = 1)) (decide_eq_decide.2 (by omega)))) ?_
    refine L1 (nilP rfl) ?_
    refine L1 (fa95_13 rfl) ?_
    refine Lst4 (v := .bool _) rfl rfl rfl hW.F (by decide) ?_
    intro w1 hb1 kp1
    have hW := hW.setF hE hb1 kp1
    have kp := kp.F kp1
    clear hb1 kp1
    refine wpList_nil ?_
    refine then_n ?_
    refine wp_seq ?_
    -- region 4
    refine reg_lit ?_
    refine L1 (mv (v := .pointer _) rfl) ?_
    refine L1 (nilP rfl) ?_
    refine L1 (fa95_3 rfl) ?_
    refine L1 (ld82 rfl (hW.F.cellv (by decide) hB.b)) ?_
    refine L1 (bi rfl rfl (bn_shr (n := 1) rfl rfl (by decide))) ?_
    refine L1 (nilP rfl) ?_
    refine L1 (fa95_3 rfl) ?_
    refine Lst82 (v := .int _ _) rfl rfl rfl hW.F (by decide) ?_
    intro w1 hb1 kp1
    have hW := hW.setF hE hb1 kp1
    have kp := kp.F kp1
    clear hb1 kp1
    refine wpList_nil ?_
    refine then_n ?_
    refine wp_seq ?_
    -- region 5
    refine reg_lit ?_
    refine L1 (mv (v := .pointer _) rfl) ?_
    refine L1 (nilP rfl) ?_
    refine L1 (fa95_3 rfl) ?_
    refine L1 (ld82 rfl (hW.F.cellv (v := .int _ _) (by decide) rfl)) ?_
    refine L1 (bi rfl rfl ((bn_mask32 (k := 2) rfl rfl (by omega) (by decide)).trans (congrArg (fun x : Nat => pure (Value.int .u32 (x : Int))) hb2))) ?_
    refine L1 (asg (v := .int _ _) rfl) ?_
    refine wpList_nil ?_
    refine then_n ?_
    refine wp_seq ?_
    -- region 6
    refine reg_lit ?_
    refine L1 (mv (v := .pointer _) rfl) ?_
    refine L1 (nilP rfl) ?_
    refine L1 (fa95_3 rfl) ?_
    refine L1 (ld82 rfl (hW.F.cellv (v := .int _ _) (by decide) rfl)) ?_
    refine L1 (bi rfl rfl (bn_shr (n := 2) rfl rfl (by decide))) ?_
    refine L1 (nilP rfl) ?_
    refine L1 (fa95_3 rfl) ?_
    refine Lst82 (v := .int _ _) rfl rfl rfl hW.F (by decide) ?_
    intro w1 hb1 kp1
    have hW := hW.setF hE hb1 kp1
    have kp := kp.F kp1
    clear hb1 kp1
    refine wpList_nil ?_
    refine then_n ?_
    refine wp_seq ?_
    -- region 7
    refine reg_lit ?_
    refine L1 (mv (v := .pointer _) rfl) ?_
    refine L1 (nilP rfl) ?_
    refine L1 (fa95_4 rfl) ?_
    refine L1 (ld38 rfl (hW.F.cellv (by decide) hB.nb)) ?_
    refine L1 (bi rfl rfl (bn_subu (c := ((8 * pos' - p - 3 : Nat) : Int)) (by omega) (by omega) (by omega))) ?_
    refine L1 (nilP rfl) ?_
    refine L1 (fa95_4 rfl) ?_
    refine Lst38 (v := .int _ _) rfl rfl rfl hW.F (by decide) ?_
    intro w1 hb1 kp1
    have hW := hW.setF hE hb1 kp1
    have kp := kp.F kp1
    clear hb1 kp1
    refine wpList_nil ?_
    have hB3 := Bt.advW hW hB 3 (by omega) ⟨_, hro⟩ (by show Value.int .u32 _ = Value.int .u32 _; rw [Nat.div_div_eq_div_mul]) rfl
    have ho7 := hW.offs (((((ho.mono (by decide)).upd (k := 1047) (by decide) _).upd (k := 3) (by decide) _).upd (k := 3) (by decide) _).upd (k := 4) (by decide) _ : Off [2, 3, 4, 1047, 1048] g _)
    have kp7 := kp
    have hW7 := hW
    have hle := hW.rd.le
    refine then_n ?_
    refine wp_seq ?_
    -- region 8
    refine reg_lit ?_
    refine L1 (mv (v := .int _ _) rfl) ?_
    refine wpList_nil ?_
    refine then_n ?_
    refine wp_block ?_
    refine wp_seq ?_
    -- region 10
    refine reg_lit ?_
    refine L1 (bi rfl rfl (bn_eql (v := decide (bv E.D p 3 / 2 = 0)) (decide_eq_decide.2 (by omega)))) ?_
    refine L1 (asg (v := .bool _) rfl) ?_
    refine wpList_nil ?_
    refine then_n ?_
    refine cond_d (p := bv E.D p 3 / 2 = 0) rfl (fun hk => ?_) (fun hk => ?_)
    · -- as it stands
      -- region 11
      refine reg_lit ?_
      refine L1 (mv (v := .pointer _) rfl) ?_
      refine LC (cl1 has42 rfl rfl) (h0 hk _ _ pos' hpos hW rfl he hB3 ho7 kp) ?_
      rintro v w2 ⟨rfl, hQ1⟩
      refine wpList_nil ?_
      refine inb_n ?_
      refine end0 rfl ?_
      exact ⟨_, rfl, rfl, hQ1⟩
    · -- another kind
      refine wp_seq ?_
      -- region 12
      refine reg_lit ?_
      refine L1 (bi rfl rfl (bn_eql (v := decide (bv E.D p 3 / 2 = 1)) (decide_eq_decide.2 (by omega)))) ?_
      refine L1 (asg (v := .bool _) rfl) ?_
      refine wpList_nil ?_
      refine then_n ?_
      refine cond_d (p := bv E.D p 3 / 2 = 1) rfl (fun hk1 => ?_) (fun hk1 => ?_)
      · -- the codes of the specification
        refine wp_seq ?_
        -- region 13
        refine reg_lit ?_
        refine L1 (mv (v := .pointer _) rfl) ?_
        refine LC (cl0 has43 rfl) ((h1 (by omega) hk1).1 _) ?_
        rintro v w2 ⟨X, gx, rfl, hX, hbX, hTX, hLX, kp1⟩
        have hW := hW.new kp1
        have kp := kp.trans (kp1.mono (by simp))
        have hXL : X ∉ E.X := fun hm => by
          have := hW7.lts X hm
          omega
        refine L1 (nilP rfl) ?_
        refine L1 (fa95_16 rfl) ?_
        have hTX := hTX E
        refine Lst93 (v := .pointer _) rfl rfl rfl hW.F (by decide) ?_
        intro w1 hb1 kp1
        have hW := hW.setF hE hb1 kp1
        have kp := kp.F kp1
        have hbX := hbX.kp kp1 (by simp; exact fun e => hXL (by simp [Env.X, e]))
        have hTX := hTX.keep (kp1.mono (by simp [Env.X])) (fun _ _ _ => rfl)
        refine wpList_nil ?_
        refine then_n ?_
        refine wp_seq ?_
        -- region 14
        refine reg_lit ?_
        refine L1 (mv (v := .pointer _) rfl) ?_
        refine L1 (nilP rfl) ?_
        refine L1 (fa95_17 rfl) ?_
        refine Lst93 (v := .pointer _) rfl rfl rfl hW.F (by decide) ?_
        intro w1 hb1 kp1
        have hW := hW.setF hE hb1 kp1
        have kp := kp.F kp1
        have hbX := hbX.kp kp1 (by simp; exact fun e => hXL (by simp [Env.X, e]))
        have hTX : HTab E _ gx 0 (cdL fixL) := (hTX).keep (kp1.mono (by simp [Env.X])) (fun _ _ _ => rfl)
        clear hb1 kp1
        refine wpList_nil ?_
        refine then_n ?_
        -- region 15
        refine reg_lit ?_
        refine L1 (mv (v := .pointer _) rfl) ?_
        refine LC (cl1 has44 rfl rfl) ((h1 (by omega) hk1).2 _ _ X gx pos' hpos hW rfl he rfl rfl hXL hbX hTX hLX (hB3.off (((Off.refl [1050, 1051] _).upd (k := 1050) (by decide) _).upd (k := 1051) (by decide) _) (by decide)) (((ho7.mono (by decide)).upd (k := 1050) (by decide) _).upd (k := 1051) (by decide) _) kp) ?_
        rintro v w2 ⟨rfl, hQ1⟩
        refine wpList_nil ?_
        refine inb_n ?_
        refine end0 rfl ?_
        exact ⟨_, rfl, rfl, hQ1⟩
      · -- another kind
        refine wp_seq ?_
        -- region 16
        refine reg_lit ?_
        refine L1 (bi rfl rfl (bn_eql (v := decide (bv E.D p 3 / 2 = 2)) (decide_eq_decide.2 (by omega)))) ?_
        refine L1 (asg (v := .bool _) rfl) ?_
        refine wpList_nil ?_
        refine then_n ?_
        refine cond_d (p := bv E.D p 3 / 2 = 2) rfl (fun hk2 => ?_) (fun hk2 => ?_)
        · -- codes of its own
          refine wp_seq ?_
          refine wp_seq ?_
          -- region 17
          refine reg_lit ?_
          refine L1 (mv (v := .pointer _) rfl) ?_
          refine L1 (mv (v := .pointer _) rfl) ?_
          refine LC (cl1 has45 rfl rfl) (h2 hk2 _ _ pos' hpos hW rfl he hB3 ho7 kp) ?_
          rintro v w2 ⟨g3, bs2, cs2, pos3, hW, hv1, kp1, hrest⟩
          have kp := kp.trans kp1
          refine L1 (nilP rfl) ?_
          refine L1 (fa95_14 rfl) ?_
          refine Lst62 (v := v) rfl rfl hv1 hW.F (by decide) ?_
          intro w1 hb1 kp1
          have hW := hW.setF hE hb1 kp1
          have kp := kp.F kp1
          clear hb1
          refine wpList_nil ?_
          refine then_n ?_
          rcases hrest with ⟨⟨tv, xv, rfl⟩, hQ1⟩ | ⟨rfl, hQ1⟩
          · -- refused, or too short
            refine wp_seq ?_
            -- region 18
            refine reg_lit ?_
            refine L1 (mv (v := .pointer _) rfl) ?_
            refine L1 (nilP rfl) ?_
            refine L1 (fa95_14 rfl) ?_
            refine L1 (ld62 rfl (hW.F.cellv (v := .iface _ _) (by decide) rfl)) ?_
            refine L1 (en_held rfl rfl) ?_
            refine wpList_nil ?_
            refine then_n ?_
            refine cond_t rfl ?_
            refine wp_exit ?_
            refine then_e ?_
            refine inb_same ?_
            refine end0 rfl ?_
            exact ⟨_, rfl, rfl, hQ1 _ _ hW rfl ((Off.refl [1048] g3).upd (by decide) _) (kp1.mono (by simp [Env.L])) kp⟩
          · -- the codes are there
            refine wp_seq ?_
            -- region 18
            refine reg_lit ?_
            refine L1 (mv (v := .pointer _) rfl) ?_
            refine L1 (nilP rfl) ?_
            refine L1 (fa95_14 rfl) ?_
            refine L1 (ld62 rfl (hW.F.cellv (v := .nilIface) (by decide) rfl)) ?_
            refine L1 (en_nil rfl rfl) ?_
            refine wpList_nil ?_
            refine then_n ?_
            refine cond_f rfl ?_
            refine wp_skip ?_
            refine then_n ?_
            refine wp_seq ?_
            -- region 19
            refine reg_lit ?_
            refine L1 (mv (v := .pointer _) rfl) ?_
            refine L1 (mv (v := .pointer _) rfl) ?_
            refine L1 (nilP rfl) ?_
            refine L1 (fa95_5 rfl) ?_
            refine L1 (nilP rfl) ?_
            refine L1 (fa95_16 rfl) ?_
            refine Lst93 (v := .pointer _) rfl rfl rfl hW.F (by decide) ?_
            intro w1 hb1 kp2
            have hW := hW.setF hE hb1 kp2
            have kp := kp.F kp2
            clear hb1
            refine wpList_nil ?_
            refine then_n ?_
            refine wp_seq ?_
            -- region 20
            refine reg_lit ?_
            refine L1 (mv (v := .pointer _) rfl) ?_
            refine L1 (mv (v := .pointer _) rfl) ?_
            refine L1 (nilP rfl) ?_
            refine L1 (fa95_6 rfl) ?_
            refine L1 (nilP rfl) ?_
            refine L1 (fa95_17 rfl) ?_
            refine Lst93 (v := .pointer _) rfl rfl rfl hW.F (by decide) ?_
            intro w1 hb1 kp3
            have hW := hW.setF hE hb1 kp3
            have kp := kp.F kp3
            clear hb1
            refine wpList_nil ?_
            refine then_n ?_
            -- region 21
            refine reg_lit ?_
            refine L1 (mv (v := .pointer _) rfl) ?_
            refine LC (cl1 has44 rfl rfl) (hQ1 _ _ hW rfl rfl rfl (((Off.refl [1048, 1050, 1051] g3).upd (k := 1048) (by decide) _).upd (k := 1050) (by decide) _ |>.upd (k := 1051) (by decide) _) ((kp1.mono (by simp [Env.L])).trans ((kp2.mono (by simp [Env.L])).trans (kp3.mono (by simp [Env.L])))) kp) ?_
            rintro v w2 ⟨rfl, hQ2⟩
            refine wpList_nil ?_
            refine inb_n ?_
            refine end0 rfl ?_
            exact ⟨_, rfl, rfl, hQ2⟩
        · -- the fourth kind
          -- region 9
          refine reg_lit ?_
          refine L1 (mv (v := .pointer _) rfl) ?_
          refine L1 (mv (v := .pointer _) rfl) ?_
          refine L1 (nilP rfl) ?_
          refine L1 (fa95_2 rfl) ?_
          refine L1 (ld2 rfl (hW.F.cellv (by decide) hro)) ?_
          refine L1 (mkI107 rfl) ?_
          refine L1 (nilP rfl) ?_
          refine L1 (fa95_14 rfl) ?_
          refine Lst62 (v := .iface _ _) rfl rfl rfl hW.F (by decide) ?_
          intro w1 hb1 kp1
          have hW := hW.setF hE hb1 kp1
          have kp := kp.F kp1
          clear hb1 kp1
          refine wpList_nil ?_
          refine inb_n ?_
          refine end0 rfl ?_
          exact ⟨_, rfl, rfl, hbad (by omega) ⟨hk, hk1, hk2⟩ _ _ pos' hpos hW ⟨_, rfl⟩ (ho7.upd (by decide) _) kp⟩
end Go.Proofs.YtejeloeaklpinaaDoor

/- nextBlock, as the machine tells it. -/
namespace Go.Proofs.YtejeloeaklpinaaDoor
theorem errIface {E : Env} {c : Nat} {v : Value} (h : ErrV E c v) (hc : c ≠ 0) : ∃ t x, v = .iface t x := by
  rcases h with ⟨h, _⟩ | ⟨_, h⟩ | ⟨_, h⟩ | ⟨_, n, h⟩
  · exact absurd h hc
  · exact ⟨_, _, h⟩
  · exact ⟨_, _, h⟩
  · exact ⟨_, _, h⟩
theorem mic_next {S : Src} {a : A} (h : a.md = .next) : mic S a = mNext S a := by unfold mic; rw [h]
/-- The machine behind a block's first three bits. -/
def A.headed (S : Src) (a : A) : A := { a with p := a.p + 3, pos := rdTo a.p a.pos 3, fin := decide (bv S.D a.p 3 % 2 = 1) }
theorem nextBlock_c (E : Env) (w : World) (a : A) (hE : E.Ok) (hR : RepI E w a) (hmd : a.md = .next) (hef : a.e = a.fl) (herr : a.err = 0) (hH : a.p + 3 ≤ 8 * E.N → bv E.D a.p 3 / 2 = 1 ∨ bv E.D a.p 3 / 2 = 2 → HC) :
    Ret 35 [fp E] w fun v w' => v = .tuple #[] ∧ (∃ c, Rep E w' c ∧ Runs E.S' a c) ∧ Kp E.L w w' := by
  obtain ⟨g, hs, bs, cs, hC, hL⟩ := hR
  have hmd' := hL.md
  rw [hmd] at hmd'
  obtain ⟨hSS, hl⟩ := hmd'
  have hSN : E.S'.N = E.N := rfl
  have hSD : E.S'.D = E.D := rfl
  have hle := hC.W.rd.le
  have hRI : ∀ w' g', Wd E w' g' hs bs cs (rdTo a.p a.pos 3) → g' 1047 = .bool (decide (bv E.D a.p 3 % 2 = 1)) → g' 1048 = .nilIface → Bt E g' (a.p + 3) (rdTo a.p a.pos 3) → Off [2, 3, 4, 1047, 1048] g g' →
      Cr E w' g' hs bs cs (a.headed E.S').pos (a.headed E.S').out (a.headed E.S').fl ((a.headed E.S').out.length % 32768) (a.headed E.S').e ∧ Live E w' g' (a.headed E.S') := by
    intro w' g' hW h47 h48 hB ho
    refine ⟨hC.off hW ho (by decide), ⟨hB, h47, h48, ?_⟩⟩
    show Md E w' g' a.out a.md
    rw [hmd]
    exact ⟨hSS.off ho (by decide), (ho _ (by decide)).trans hl⟩
  refine nextBlock_w E w g hs bs cs a.p a.pos hE hC.W hC.S hL.B hL.err (fun w' => (∃ c, Rep E w' c ∧ Runs E.S' a c) ∧ Kp E.L w w') ?_ ?_ ?_ ?_ ?_
  · intro w' g' hp hW h48 ho kp
    refine ⟨⟨a.short E.S', ⟨g', hs, bs, cs, hC.off hW ho (by decide), .inr (.inr (.inl ⟨rfl, h48⟩)), fun h => by cases h⟩, .stop ?_⟩, kp⟩
    rw [mic_next hmd]; unfold mNext; rw [hSN, if_pos hp]
  · intro hp hk w' g' pos' hpos hW h48 ho kp
    subst hpos
    refine ⟨⟨(a.headed E.S').bad, ⟨g', hs, bs, cs, hC.off hW ho (by decide), .inr (.inr (.inr ⟨rfl, h48⟩)), fun h => by cases h⟩, .stop ?_⟩, kp⟩
    rw [mic_next hmd]; unfold mNext; rw [hSN, hSD, if_neg (by omega), if_neg hk.1, if_neg hk.2.1, if_neg hk.2.2]; rfl
  · intro hk w' g' pos' hpos hW h47 h48 hB ho kp
    subst hpos
    obtain ⟨hC', hL'⟩ := hRI w' g' hW h47 h48 hB ho
    refine (dataBlock_c E w' (a.headed E.S') hE ⟨g', hs, bs, cs, hC', hL'⟩ hmd hef herr).mono ?_
    rintro e w2 ⟨v, rfl, rfl, ⟨c, hRc, hm⟩, kp2⟩
    have hp8 := hB.le
    have hpN := hW.rd.le
    have hmic : mic E.S' a = mStored E.S' (a.headed E.S') := by
      rw [mic_next hmd]; unfold mNext; rw [hSN, hSD, if_neg (by omega), if_pos hk]; rfl
    refine ⟨_, rfl, rfl, ⟨c, hRc, ?_⟩, kp.trans kp2⟩
    rcases hm with hm | ⟨b, hm, hm2⟩
    · exact .stop (hmic.trans hm)
    · exact .more (hmic.trans hm) (.stop hm2)
  · intro hp hk
    obtain ⟨h43, h44, _⟩ := hH hp (.inl hk)
    refine ⟨h43, ?_⟩
    intro w' g' X gx pos' hpos hW h47 h48 h50 h51 hX hbX hT hLk hB ho kp
    subst hpos
    have hmic : mic E.S' a = ({ a.headed E.S' with md := .huff (cdL fixL) none none }, false) := by
      rw [mic_next hmd]; unfold mNext; rw [hSN, hSD, if_neg (by omega), if_neg (by omega), if_pos hk]; rfl
    refine (h44 E w' { a.headed E.S' with md := .huff (cdL fixL) none none } (cdL fixL) none none g' hs bs cs hE (hC.off hW ho (by decide)) ⟨hB, h47, h48, ?_⟩ trivial rfl hef herr).mono ?_
    · exact ⟨⟨hLk, h51, X, gx, h50, hX, hbX, hT⟩, hSS.off ho (by decide), (ho _ (by decide)).trans hl⟩
    · rintro e w2 ⟨v, rfl, rfl, ⟨c, hRc, hm⟩, kp2⟩
      exact ⟨_, rfl, rfl, ⟨c, hRc, .more hmic hm⟩, kp.trans kp2⟩
  · intro hk w' g' pos' hpos hW h47 h48 hB ho kp
    subst hpos
    have hp8 := hB.le
    have hpN := hW.rd.le
    obtain ⟨_, h44, h45⟩ := hH (by omega) (.inr hk)
    obtain ⟨hC', hL'⟩ := hRI w' g' hW h47 h48 hB ho
    refine (h45 E w' (a.headed E.S') g' hs bs cs hE hC' hL' hmd herr).mono ?_
    rintro e w2 ⟨v, rfl, g3, bs2, cs2, b, kp1, hC3, ho1, ho2, ho3, ho4, hr⟩
    have hmic : mic E.S' a = mDyn E.S' (a.headed E.S') := by
      rw [mic_next hmd]; unfold mNext; rw [hSN, hSD, if_neg (by omega), if_neg (by omega), if_neg (by omega), if_pos hk]; rfl
    rcases hr with ⟨hv, hne, hm⟩ | ⟨rfl, hbe, hl1, hd1, hm, hbm, hk1, hk2, ht1, ht2, hB3, hkeep⟩
    · have hvi := errIface hv hne
      refine ⟨_, rfl, g3, bs2, cs2, b.pos, hC3.W, by obtain ⟨t, x, rfl⟩ := hvi; rfl, kp1, .inl ⟨hvi, ?_⟩⟩
      intro w3 g4 hW4 h48' ho' kp2 kp3
      refine ⟨⟨b, ⟨g4, hs, bs2, cs2, ?_, by rw [h48']; exact hv, fun h => absurd h hne⟩, .stop (hmic.trans hm)⟩, kp3⟩
      rw [ho1, ho2, ho3]
      exact hC3.off hW4 ho' (by decide)
    · refine ⟨_, rfl, g3, bs2, cs2, b.pos, hC3.W, rfl, kp1, .inr ⟨rfl, ?_⟩⟩
      intro w3 g4 hW4 h48' h50 h51 ho' kp2 kp3
      have hk5 : ∀ j, j < 1035 → g4 j = g3 j := fun j hj => ho' j (by simp; omega)
      refine (h44 E w3 b hl1 (some hd1) none g4 hs bs2 cs2 hE ?_ ⟨?_, ?_, h48', ?_⟩ ?_ hbm (by rw [ho2, ho3]; exact hef) hbe).mono ?_
      · rw [ho1, ho2, ho3]; exact hC3.off hW4 ho' (by decide)
      · exact hB3.off ho' (by decide)
      · rw [ho4]; exact ((ho' _ (by decide)).trans (hkeep 1047 (by decide))).trans h47
      · rw [hbm]
        refine ⟨⟨hk1, hk2, h50, h51, ht1.keep kp2.X (fun j _ _ => hk5 j (by omega)), ht2.keep kp2.X (fun j _ _ => hk5 j (by omega))⟩, ?_, ?_⟩
        · have hS3 : SS g3 := by
            have e1 : g3 1046 = g' 1046 := hkeep _ (by decide)
            have e2 : g3 1053 = g' 1053 := hkeep _ (by decide)
            have := hSS.off ho (by decide)
            unfold SS at this ⊢
            rw [e1, e2]; exact this
          exact hS3.off ho' (by decide)
        · exact (((ho' _ (by decide)).trans (hkeep 1052 (by decide))).trans (ho _ (by decide))).trans hl
      · rw [hbm]; trivial
      · rintro e w4 ⟨v, rfl, rfl, ⟨c, hRc, hm2⟩, kp4⟩
        exact ⟨_, rfl, rfl, ⟨c, hRc, .more (hmic.trans hm) hm2⟩, kp3.trans kp4⟩
end Go.Proofs.YtejeloeaklpinaaDoor

/- The machine goes on: a number that each step lowers, or something is handed on. -/
namespace Go.Proofs.YtejeloeaklpinaaDoor
def rank : Mode → Nat
  | .next => 0
  | .data _ => 1
  | .huff _ _ none => 1
  | .huff _ _ (some _) => 2
def qv (a : A) : Nat :=
  match a.md with
  | .data _ => 8 * a.pos
  | _ => a.p
def mu (S : Src) (a : A) : Nat := 3 * (8 * S.N - qv a) + rank a.md

theorem getBits_ok {S : Src} {p pos n v p' pos' : Nat} (h : getBits S p pos n = .ok v p' pos') : p' = p + n ∧ p + n ≤ 8 * S.N := by
  unfold getBits at h
  split at h
  · rename_i h1; cases h; exact ⟨rfl, h1⟩
  · cases h
theorem getSym_ok {S : Src} {c : Cd} {p pos v p' pos' : Nat} (h : getSym S c p pos = .ok v p' pos') : p < p' ∧ p' ≤ 8 * S.N := by
  unfold getSym at h
  simp only at h
  split at h
  · split at h <;> cases h
  · rename_i h0
    split at h
    · rename_i h1; cases h
      have := Nat.le_max_right c.m (c.lk (S.D / 2 ^ p) % 16)
      exact ⟨by omega, by omega⟩
    · cases h
theorem getLen_ok {S : Src} {x p pos v p' pos' : Nat} (h : getLen S x p pos = .ok v p' pos') : p ≤ p' := by
  unfold getLen at h
  split at h
  · cases h
  · split at h
    · cases h; exact Nat.le_refl _
    · cases hg : getBits S p pos (lenOf x).2 with
      | ok a b c => rw [hg] at h; simp only [Got.bind] at h; cases h; have := getBits_ok hg; omega
      | short => rw [hg] at h; cases h
      | bad => rw [hg] at h; cases h
theorem getDist_ok {S : Src} {hd : Option Cd} {p pos v p' pos' : Nat} (h : getDist S hd p pos = .ok v p' pos') : p ≤ p' := by
  unfold getDist at h
  have key : ∀ (x : Got), (∀ a b c, x = .ok a b c → p ≤ b) → (x.bind fun d p pos =>
      if d < 4 then .ok (d + 1) p pos
      else if d < 30 then (getBits S p pos ((d - 2) / 2)).bind fun x p pos => .ok (2 ^ ((d - 2) / 2 + 1) + 1 + (d % 2 * 2 ^ ((d - 2) / 2) + x)) p pos
      else .bad p pos) = .ok v p' pos' → p ≤ p' := by
    intro x hx h
    cases x with
    | short => cases h
    | bad => cases h
    | ok a b c =>
      have h0 := hx a b c rfl
      simp only [Got.bind] at h
      split at h
      · cases h; exact h0
      · split at h
        · split at h
          · rename_i hg; cases h; have := getBits_ok hg; omega
          · cases h
          · cases h
        · cases h
  refine key _ ?_ h
  intro a b c hx
  cases hd with
  | none =>
    simp only at hx
    cases hg : getBits S p pos 5 with
    | ok a b c => rw [hg] at hx; simp only [Got.bind] at hx; cases hx; have := getBits_ok hg; omega
    | short => rw [hg] at hx; cases hx
    | bad => rw [hg] at hx; cases hx
  | some cd => have := getSym_ok hx; omega
theorem clLens_ok {S : Src} : ∀ (k p pos : Nat) (f f' : Nat → Nat) (p' pos' : Nat), clLens S k p pos f = some (f', p', pos') → p ≤ p'
  | 0, p, pos, f, f', p', pos', h => by simp only [clLens, Option.some.injEq, Prod.mk.injEq] at h; omega
  | k + 1, p, pos, f, f', p', pos', h => by
    simp only [clLens] at h
    cases hc : clLens S k p pos f with
    | none => rw [hc] at h; cases h
    | some x =>
      obtain ⟨f1, p1, q1⟩ := x
      rw [hc] at h
      simp only at h
      have := clLens_ok k p pos f f1 p1 q1 hc
      split at h
      · simp only [Option.some.injEq, Prod.mk.injEq] at h; omega
      · cases h
theorem rdLens_ok {S : Src} {c : Cd} {n : Nat} : ∀ (k : Nat) (l : List Nat) (p pos : Nat) (l' : List Nat) (p' pos' : Nat), rdLens S c n k l p pos = .ok l' p' pos' → p ≤ p'
  | 0, l, p, pos, l', p', pos', h => by simp only [rdLens, Lens.ok.injEq] at h; omega
  | k + 1, l, p, pos, l', p', pos', h => by
    simp only [rdLens] at h
    split at h
    · simp only [Lens.ok.injEq] at h; omega
    · cases hg : getSym S c p pos with
      | short => rw [hg] at h; cases h
      | bad => rw [hg] at h; cases h
      | ok x p1 q1 =>
        rw [hg] at h
        have h1 := getSym_ok hg
        simp only at h
        split at h
        · have := rdLens_ok k _ _ _ _ _ _ h; omega
        · split at h
          · cases h
          · cases hb : getBits S p1 q1 (if x = 16 then 2 else if x = 17 then 3 else 7) with
            | short => rw [hb] at h; cases h
            | bad => rw [hb] at h; cases h
            | ok r p2 q2 =>
              rw [hb] at h
              have h2 := getBits_ok hb
              simp only at h
              generalize (if x = 18 then 11 else 3) + r = rep at h
              split at h
              · cases h
              · have := rdLens_ok k _ _ _ _ _ _ h; omega
theorem lz_length (out : List Nat) (d : Nat) : ∀ k, (lz out d k).length = out.length + k
  | 0 => rfl
  | k + 1 => by simp [lz, lz_length out d k]; omega

/-- What one round leaves. -/
structure Goes (S : Src) (a : A) (x : A × Bool) : Prop where
  e : x.1.e = a.e
  len : a.out.length ≤ x.1.out.length
  fl : x.1.fl = a.fl ∨ x.1.fl = x.1.out.length
  low : x.1.err = 0 → mu S x.1 < mu S a ∨ a.out.length < x.1.fl
  fal : x.2 = false → x.1.err = a.err ∧ mu S x.1 < mu S a ∧ x.1.fl = a.fl
theorem goes_err {S : Src} {a b : A} (he : b.e = a.e) (hl : a.out.length ≤ b.out.length) (hf : b.fl = a.fl ∨ b.fl = b.out.length) (hr : b.err ≠ 0) : Goes S a (b, true) := ⟨he, hl, hf, fun h => absurd h hr, fun h => by cases h⟩
theorem mu_lt {S : Src} {a b : A} (h1 : qv a < 8 * S.N) (h2 : qv a < qv b) (h3 : rank b.md ≤ 2) : mu S b < mu S a := by
  unfold mu; omega
theorem rank_le (m : Mode) : rank m ≤ 2 := by
  cases m with
  | next => simp [rank]
  | data n => simp [rank]
  | huff hl hd c => cases c <;> simp [rank]
theorem goes_finish {S : Src} {a b : A} (he : b.e = a.e) (hl : a.out.length ≤ b.out.length) (hf : b.fl = a.fl ∨ b.fl = b.out.length) (hm : mu S { b with md := .next } < mu S a) : Goes S a (b.finish, true) := by
  unfold A.finish
  split
  · exact ⟨he, hl, .inr rfl, fun h => (by cases h), fun h => (by cases h)⟩
  · exact ⟨he, hl, hf, fun _ => .inl hm, fun h => by cases h⟩
theorem avail_pos (out : List Nat) : 0 < avail out := by unfold avail; have := Nat.mod_lt out.length (show 32768 > 0 by decide); omega
theorem goes_huff {S : Src} {a : A} {hl : Cd} {hd : Option Cd} {c : Option (Nat × Nat)} (hm : a.md = .huff hl hd c) : Goes S a (mHuff S a hl hd c) := by
  have hq : qv a = a.p := by unfold qv; rw [hm]
  have hav := avail_pos a.out
  cases c with
  | none =>
    simp only [mHuff]
    split
    · exact goes_err rfl (Nat.le_refl _) (.inl rfl) (by simp [A.short])
    · exact goes_err rfl (Nat.le_refl _) (.inl rfl) (by simp [A.bad])
    · rename_i v p pos hg
      have h1 := getSym_ok hg
      split
      · split
        · exact ⟨rfl, by simp [A.flush], .inr rfl, fun _ => .inr (by simp [A.flush]), fun h => by cases h⟩
        · have hh := mu_lt (S := S) (a := a) (b := { a with p := p, pos := pos, out := a.out ++ [v], md := .huff hl hd none }) (by omega) (by rw [hq]; exact h1.1) (rank_le _)
          exact ⟨rfl, by simp, .inl rfl, fun _ => .inl hh, fun _ => ⟨rfl, hh, rfl⟩⟩
      · split
        · exact goes_finish rfl (Nat.le_refl _) (.inl rfl) (mu_lt (by omega) (by rw [hq]; exact h1.1) (rank_le _))
        · split
          · exact goes_err rfl (Nat.le_refl _) (.inl rfl) (by simp [A.short])
          · exact goes_err rfl (Nat.le_refl _) (.inl rfl) (by simp [A.bad])
          · rename_i len p2 pos2 hg2
            have h2 := getLen_ok hg2
            split
            · exact goes_err rfl (Nat.le_refl _) (.inl rfl) (by simp [A.short])
            · exact goes_err rfl (Nat.le_refl _) (.inl rfl) (by simp [A.bad])
            · rename_i dist p3 pos3 hg3
              have h3 := getDist_ok hg3
              split
              · exact goes_err rfl (Nat.le_refl _) (.inl rfl) (by simp [A.bad])
              · have hh := mu_lt (S := S) (a := a) (b := { a with p := p3, pos := pos3, md := .huff hl hd (some (len, dist)) }) (by omega) (by rw [hq]; show a.p < p3; omega) (rank_le _)
                exact ⟨rfl, Nat.le_refl _, .inl rfl, fun _ => .inl hh, fun _ => ⟨rfl, hh, rfl⟩⟩
  | some x =>
    obtain ⟨len, dist⟩ := x
    simp only [mHuff]
    split
    · exact ⟨rfl, by simp [A.flush, lz_length], .inr rfl, fun _ => .inr (by simp only [A.flush, lz_length]; omega), fun h => by cases h⟩
    · have hh : mu S { a with out := lz a.out dist len, md := .huff hl hd none } < mu S a := by
        unfold mu
        rw [hq, hm]
        show 3 * (8 * S.N - a.p) + 1 < 3 * (8 * S.N - a.p) + 2
        omega
      exact ⟨rfl, by simp [lz_length], .inl rfl, fun _ => .inl hh, fun _ => ⟨rfl, hh, rfl⟩⟩
theorem goes_data {S : Src} {a : A} {n : Nat} (hm : a.md = .data n) : Goes S a (mData S a n) := by
  have hq : qv a = 8 * a.pos := by unfold qv; rw [hm]
  have hav := avail_pos a.out
  simp only [mData]
  split
  · exact goes_err rfl (by simp [A.short]) (.inl rfl) (by simp [A.short])
  · split
    · exact ⟨rfl, by simp [A.flush], .inr rfl, fun _ => .inr (by simp only [A.flush, List.length_append, bytesAt_length]; omega), fun h => by cases h⟩
    · refine goes_finish rfl (by simp) (.inl rfl) ?_
      unfold mu
      rw [hq, hm]
      show 3 * (8 * S.N - 8 * (a.pos + n)) + 0 < 3 * (8 * S.N - 8 * a.pos) + 1
      omega
theorem goes_dyn {S : Src} {a b0 : A} (h0 : a.p < b0.p) (h1 : qv a = a.p) (h2 : a.p < 8 * S.N) (he : b0.e = a.e) (hl : a.out = b0.out) (hf : b0.fl = a.fl) (hr : b0.err = a.err) : Goes S a (mDyn S b0) := by
  have hl' : a.out.length ≤ b0.out.length := by rw [hl]; exact Nat.le_refl _
  unfold mDyn
  split
  · exact goes_err he hl' (.inl hf) (by simp [A.short])
  · simp only
    split
    · exact goes_err he hl' (.inl hf) (by simp [A.bad])
    · split
      · exact goes_err he hl' (.inl hf) (by simp [A.short])
      · rename_i f p pos hc
        have h3 := clLens_ok _ _ _ _ _ _ _ hc
        split
        · exact goes_err he hl' (.inl hf) (by simp [A.bad])
        · split
          · exact goes_err he hl' (.inl hf) (by simp [A.short])
          · exact goes_err he hl' (.inl hf) (by simp [A.bad])
          · rename_i l p2 pos2 hrl
            have h4 := rdLens_ok _ _ _ _ _ _ _ hrl
            split
            · exact goes_err he hl' (.inl hf) (by simp [A.bad])
            · refine ⟨he, hl', .inl hf, fun _ => .inl (mu_lt (by omega) ?_ (rank_le _)), fun _ => ⟨hr, mu_lt (by omega) ?_ (rank_le _), hf⟩⟩
              · rw [h1]; show a.p < p2; omega
              · rw [h1]; show a.p < p2; omega
theorem goes_stored {S : Src} {a b0 : A} (h0 : a.p < 8 * b0.pos + 1) (h1 : qv a = a.p) (h2 : a.p < 8 * S.N) (he : b0.e = a.e) (hl : a.out = b0.out) (hf : b0.fl = a.fl) (hr : b0.err = a.err) : Goes S a (mStored S b0) := by
  have hl' : a.out.length ≤ b0.out.length := by rw [hl]; exact Nat.le_refl _
  unfold mStored
  split
  · exact goes_err he hl' (.inl hf) (by simp [A.short])
  · split
    · exact goes_err he hl' (.inl hf) (by simp [A.bad])
    · split
      · refine goes_finish he hl' (.inr rfl) (mu_lt (by omega) ?_ (rank_le _))
        rw [h1]; show a.p < 8 * (b0.pos + 4); omega
      · refine ⟨he, hl', .inl hf, fun _ => .inl (mu_lt (by omega) ?_ (rank_le _)), fun _ => ⟨hr, mu_lt (by omega) ?_ (rank_le _), hf⟩⟩
        · rw [h1]; show a.p < 8 * (b0.pos + 4); omega
        · rw [h1]; show a.p < 8 * (b0.pos + 4); omega
theorem goes_mic (S : Src) (a : A) : Goes S a (mic S a) := by
  cases hm : a.md with
  | huff hl hd c => unfold mic; rw [hm]; exact goes_huff hm
  | data n => unfold mic; rw [hm]; exact goes_data hm
  | next =>
    have hq : qv a = a.p := by unfold qv; rw [hm]
    rw [mic_next hm]
    unfold mNext
    split
    · exact goes_err rfl (Nat.le_refl _) (.inl rfl) (by simp [A.short])
    · simp only
      split
      · refine goes_stored ?_ hq (by omega) rfl rfl rfl rfl
        show a.p < 8 * rdTo a.p a.pos 3 + 1
        unfold rdTo; omega
      · split
        · refine ⟨rfl, Nat.le_refl _, .inl rfl, fun _ => .inl (mu_lt (by omega) ?_ (rank_le _)), fun _ => ⟨rfl, mu_lt (by omega) ?_ (rank_le _), rfl⟩⟩
          · rw [hq]; show a.p < a.p + 3; omega
          · rw [hq]; show a.p < a.p + 3; omega
        · split
          · exact goes_dyn (by show a.p < a.p + 3; omega) hq (by omega) rfl rfl rfl rfl
          · exact goes_err rfl (Nat.le_refl _) (.inl rfl) (by simp [A.bad])
/-- What a step leaves. -/
theorem Runs.goes {S : Src} {a b : A} (h : Runs S a b) : a.fl ≤ a.out.length → b.e = a.e ∧ a.fl ≤ b.fl ∧ b.fl ≤ b.out.length ∧ (b.err = 0 → mu S b < mu S a ∨ a.fl < b.fl) ∧ (b.fl = a.fl ∨ b.fl = b.out.length) := by
  induction h with
  | @stop a b h =>
    intro h0
    have hg := goes_mic S a
    rw [h] at hg
    obtain ⟨h1, h2, h3, h4, _⟩ := hg
    simp only at h1 h2 h3 h4
    refine ⟨h1, by rcases h3 with h3 | h3 <;> omega, by rcases h3 with h3 | h3 <;> omega, fun he => ?_, h3⟩
    rcases h4 he with h4 | h4
    · exact .inl h4
    · exact .inr (by omega)
  | @more a b c h _ ih =>
    intro h0
    have hg := goes_mic S a
    rw [h] at hg
    obtain ⟨h1, h2, h3, h4, h5⟩ := hg
    simp only at h1 h2 h3 h4 h5
    obtain ⟨i1, i2, i3, i4, i5⟩ := ih (by rcases h3 with h3 | h3 <;> omega)
    obtain ⟨_, h6, h7⟩ := h5 trivial
    refine ⟨i1.trans h1, by omega, i3, fun he => ?_, by rw [← h7]; exact i5⟩
    rcases i4 he with i4 | i4
    · exact .inl (by omega)
    · exact .inr (by omega)
def meas (S : Src) (a : A) : Nat := if a.e < a.fl ∨ a.err ≠ 0 then 0 else mu S a + 1
theorem meas_lt {S : Src} {a b : A} (h0 : a.fl ≤ a.out.length) (hf : a.e = a.fl) (he : a.err = 0) (h : Runs S a b) (hb : b.err = 0) : meas S b < meas S a := by
  obtain ⟨h1, h2, h3, h4, _⟩ := h.goes h0
  unfold meas
  rw [if_neg (show ¬ (a.e < a.fl ∨ a.err ≠ 0) by omega)]
  split
  · omega
  · rename_i hn
    rcases h4 hb with h4 | h4
    · omega
    · exact absurd (.inl (by omega)) hn
/-- What was handed on and not yet taken is all that was told. -/
def Pend (a : A) : Prop := a.e < a.fl → a.fl = a.out.length
theorem Pend.step {S : Src} {a b : A} (h0 : a.fl ≤ a.out.length) (hf : a.e = a.fl) (h : Runs S a b) : Pend b := by
  obtain ⟨h1, h2, h3, h4, h5⟩ := h.goes h0
  intro hlt
  rcases h5 with h5 | h5
  · omega
  · exact h5
theorem Md.keep {E : Env} {w w' : World} {g g' : Nat → Value} {out : List Nat} {m : Mode} {L : List Nat} (h : Md E w g out m) (k : Kp E.X w w') (o : Off L g g') (hL : ∀ j, j ∈ L → j < 3 ∨ 1035 ≤ j) (h0 : 1046 ∉ L ∧ 1050 ∉ L ∧ 1051 ∉ L ∧ 1052 ∉ L ∧ 1053 ∉ L) : Md E w' g' out m := by
  have n : ∀ j, 3 ≤ j → j < 1035 → j ∉ L := fun j a b hm => by have := hL j hm; omega
  cases m with
  | next => exact ⟨h.1.off o ⟨h0.1, h0.2.2.2.2⟩, (o _ h0.2.2.2.1).trans h.2⟩
  | data k =>
    obtain ⟨h1, h2, h3, h4, h5⟩ := h
    exact ⟨h1.off o ⟨h0.1, h0.2.2.2.2⟩, (o _ h0.2.2.2.1).trans h2, h3, (o _ (n _ (by omega) (by omega))).trans h4, (o _ (n _ (by omega) (by omega))).trans h5⟩
  | huff hl hd c =>
    cases c with
    | none =>
      obtain ⟨h1, h2, h3⟩ := h
      exact ⟨h1.keep k o (fun j hm => by have := hL j hm; omega) ⟨h0.2.1, h0.2.2.1⟩, h2.off o ⟨h0.1, h0.2.2.2.2⟩, (o _ h0.2.2.2.1).trans h3⟩
    | some x =>
      obtain ⟨len, dist⟩ := x
      obtain ⟨h1, h2, h3, h4, h5⟩ := h
      exact ⟨h1.keep k o (fun j hm => by have := hL j hm; omega) ⟨h0.2.1, h0.2.2.1⟩, (o _ h0.2.2.2.1).trans h2, h3, (o _ h0.2.2.2.2).trans h4, h5⟩
theorem Live.keep {E : Env} {w w' : World} {g g' : Nat → Value} {a a' : A} {L : List Nat} (h : Live E w g a) (k : Kp E.X w w') (o : Off L g g') (hL : ∀ j, j ∈ L → j < 2 ∨ 1035 ≤ j)
    (h0 : 1046 ∉ L ∧ 1047 ∉ L ∧ 1048 ∉ L ∧ 1050 ∉ L ∧ 1051 ∉ L ∧ 1052 ∉ L ∧ 1053 ∉ L) (ha : a'.p = a.p ∧ a'.pos = a.pos ∧ a'.fin = a.fin ∧ a'.out = a.out ∧ a'.md = a.md) : Live E w' g' a' := by
  obtain ⟨e1, e2, e3, e4, e5⟩ := ha
  have n : ∀ j, 2 ≤ j → j < 1035 → j ∉ L := fun j a b hm => by have := hL j hm; omega
  refine ⟨?_, ?_, (o _ h0.2.2.1).trans h.err, ?_⟩
  · rw [e1, e2]; exact h.B.off o ⟨n _ (by omega) (by omega), n _ (by omega) (by omega), n _ (by omega) (by omega)⟩
  · rw [e3]; exact (o _ h0.2.1).trans h.fin
  · rw [e4, e5]; exact h.md.keep k o (fun j hm => by have := hL j hm; omega) ⟨h0.1, h0.2.2.2⟩
theorem SSm.keep {g g' : Nat → Value} {m : Mode} {L : List Nat} (h : SSm g m) (o : Off L g g') (h0 : 1046 ∉ L) : SSm g' m := by
  cases m with
  | next => trivial
  | data n => trivial
  | huff hl hd c =>
    cases c with
    | none => trivial
    | some x => exact (o _ h0).trans h
theorem Rep.keep {E : Env} {w w' : World} {a : A} (h : Rep E w a) (k : Kp [] w w') : Rep E w' a := by
  obtain ⟨g, hs, bs, cs, hC, he, hl⟩ := h
  refine ⟨g, hs, bs, cs, ⟨hC.W.new k, hC.S, hC.V, hC.D, hC.T, hC.Z⟩, he, fun h0 => ?_⟩
  obtain ⟨h1, h2, h3⟩ := hl h0
  exact ⟨h1.keep (k.mono (by simp)) (Off.refl [] g) (by simp) (by simp) ⟨rfl, rfl, rfl, rfl, rfl⟩, h2, h3⟩
theorem Rep.drew {E : Env} {w : World} {a : A} (h : Rep E w a) : Rep E w.drew a := h.keep (Kp.refl [] w).drew
end Go.Proofs.YtejeloeaklpinaaDoor

/- Read: what is handed on, and the steps behind it. Its walk is printed by gen/g_read.py. -/
namespace Go.Proofs.YtejeloeaklpinaaDoor
attribute [local irreducible] wpList wpStill wpMix Code.wp Calls fr
/-- The codes are wanted at this state. -/
def needsM (S : Src) (a : A) : Prop :=
  match a.md with
  | .huff _ _ _ => True
  | .next => a.p + 3 ≤ 8 * S.N ∧ (bv S.D a.p 3 / 2 = 1 ∨ bv S.D a.p 3 / 2 = 2)
  | .data _ => False
def needs (S : Src) (a : A) : Prop := a.err = 0 ∧ needsM S a
/-- One step of the reader, whatever it is. -/
theorem step_c (E : Env) (w : World) (a : A) (hE : E.Ok) (g hs bs cs : Nat → Value) (hC : Cr E w g hs bs cs a.pos a.out a.fl (a.out.length % 32768) a.e) (hL : Live E w g a) (h45 : g 1045 = fnv (stepOf a.md)) (hSm : SSm g a.md) (hef : a.e = a.fl) (herr : a.err = 0) (hH : needs E.S' a → HC) :
    ∃ k fn, Has k fn ∧ g 1045 = fnv k ∧ Ret k [fp E] w fun v w' => v = .tuple #[] ∧ (∃ c, Rep E w' c ∧ Runs E.S' a c) ∧ Kp E.L w w' := by
  cases hm : a.md with
  | next =>
    rw [hm] at h45
    refine ⟨35, _, has35, h45, nextBlock_c E w a hE ⟨g, hs, bs, cs, hC, hL⟩ hm hef herr fun h1 h2 => hH ?_⟩
    refine ⟨herr, ?_⟩
    unfold needsM; rw [hm]; exact ⟨h1, h2⟩
  | data n =>
    rw [hm] at h45
    refine ⟨52, _, has52, h45, (copyData_c E w a n hE ⟨g, hs, bs, cs, hC, hL⟩ hm hef herr).mono ?_⟩
    rintro e w' ⟨v, rfl, rfl, h1, h2⟩
    refine ⟨_, rfl, rfl, ⟨_, h1, .stop ?_⟩, h2⟩
    unfold mic; rw [hm]
    show mData _ _ _ = _
    rw [← mData_true E.S' a n]
  | huff hl hd c =>
    rw [hm] at h45
    exact ⟨44, _, has44, h45, (hH ⟨herr, by unfold needsM; rw [hm]; trivial⟩).2.1 E w a hl hd c g hs bs cs hE hC hL hSm hm hef herr⟩
/-- What lies in the buffer behind a Read. -/
def gotB (out : List Nat) (e o k : Nat) (gb : Nat → Value) : Nat → Value := fun j => if o ≤ j ∧ j < o + k then .int .u8 (out.getD (e + (j - o)) 0) else gb j
/-- The states that a Read may come to. -/
inductive Steps (S : Src) : A → A → Prop where
  | refl (a : A) : Steps S a a
  | step {a b c : A} : a.e = a.fl → a.err = 0 → Runs S a b → Steps S b.late c → Steps S a c
theorem Steps.trans {S : Src} {a b c : A} (h : Steps S a b) (k : Steps S b c) : Steps S a c := by
  induction h with
  | refl => exact k
  | step h1 h2 h3 _ ih => exact .step h1 h2 h3 (ih k)
theorem Steps.reads {S : Src} {a b c : A} {n k er : Nat} (h : Steps S a b) (r : Reads S n b k er c) : Reads S n a k er c := by
  induction h with
  | refl => exact r
  | step h1 h2 h3 _ ih => exact .step h1 h2 h3 (ih r)
theorem Rep.late_fl {E : Env} {w : World} {a : A} (h : Rep E w a) : a.fl ≤ a.out.length := by
  obtain ⟨g, hs, bs, cs, hC, _⟩ := h
  obtain ⟨q, rd, h1, h2, h3, h4, _⟩ := hC.D
  omega
theorem Rep.e_fl {E : Env} {w : World} {a : A} (h : Rep E w a) : a.e ≤ a.fl := by
  obtain ⟨g, hs, bs, cs, hC, _⟩ := h
  exact hC.T.1
theorem late_fl (a : A) (h : a.fl ≤ a.out.length) : a.late.fl ≤ a.late.out.length := by
  unfold A.late; split
  · exact Nat.le_refl _
  · exact h

theorem read_c (E : Env) (w : World) (a : A) (hE : E.Ok) (hU : E.OkB) (hR : Rep E w a) (o m c n : Nat) (t : TypeId) (gb : Nat → Value) (hb : Bk w E.buf n t gb) (hm : o + m ≤ n) (hP : Pend a) (hH : ∀ a', Steps E.S' a a' → needs E.S' a' → HC) :
    Ret 90 [fp E, .slice (some ⟨E.buf, o, none⟩) m c] w fun v w' => ∃ k er a' ev, v = .tuple #[.int .i64 ((k : Nat) : Int), ev] ∧ ErrV E er ev ∧ Reads E.S' m a k er a' ∧ Rep E w' a' ∧ Pend a' ∧ Bk w' E.buf n t (gotB a'.out (a'.e - k) o k gb) ∧ Kp (E.buf :: E.L) w w' := by
  have kp := Kp.refl (E.buf :: E.L) w
  refine calls_fr (N := 75) Tryd.func90 rfl rfl (by simp [fp]) rfl ?_
  refine wp_seq ?_
  -- region 0
  refine reg_lit ?_
  refine L1 (asg (v := .int _ _) rfl) ?_
  refine L1 (asg (v := .nilIface) rfl) ?_
  refine wpList_nil ?_
  refine then_n ?_
  refine wp_block ?_
  refine loop_fr (fun k f w' => f 0 = fp E ∧ f 1 = .slice (some ⟨E.buf, o, none⟩) m c ∧ ∃ a', Rep E w' a' ∧ Bk w' E.buf n t gb ∧ Kp (E.buf :: E.L) w w' ∧ Steps E.S' a a' ∧ Pend a' ∧ k = meas E.S' a') (meas E.S' a) ⟨rfl, rfl, a, hR, hb, kp, .refl _, hP, rfl⟩ ?_
  clear hR hb kp hP
  intro k f w0 HJ
  obtain ⟨s0, s1, a1, hR, hb, kp, hst, hP, rfl⟩ := HJ
  have hR0 := hR
  obtain ⟨g, hs, bs, cs, hC, hev, hlive⟩ := hR
  have hW := hC.W
  have hT := hC.T
  obtain ⟨hefl, ta, tc, ht, htc, hta⟩ := hT
  refine slots (fc s0 (fc s1 fnil)) ?_
  by_cases hlt : a1.e < a1.fl
  · -- something is handed on
    obtain ⟨rfl, hfit⟩ := hta hlt
    have hmin : min (a1.fl - a1.e) m ≤ a1.fl - a1.e := Nat.min_le_left _ _
    have hmin2 : min (a1.fl - a1.e) m ≤ m := Nat.min_le_right _ _
    have hmod := Nat.mod_lt a1.e (show 32768 > 0 by decide)
    have hgot : ∀ w3 g', Wd E w3 g' hs bs cs a1.pos → g' 1049 = .slice (cutA (some ⟨E.H, a1.e % 32768, none⟩) (min (a1.fl - a1.e) m) tc) (a1.fl - a1.e - min (a1.fl - a1.e) m) (tc - min (a1.fl - a1.e) m) → Off [1049] g g' → Kp E.X w0 w3 → Rep E w3 { a1 with e := a1.e + min m (a1.fl - a1.e) } := by
      intro w3 g' hW' h49 ho' kp3
      rw [Nat.min_comm m]
      refine ⟨g', hs, bs, cs, ⟨hW', hC.S.off ho' (by decide), hC.V, hC.D.off ho' (by decide), ⟨by show a1.e + _ ≤ a1.fl; omega, _, _, h49.trans (by rw [Nat.sub_sub]), by show a1.fl - (a1.e + _) ≤ _; omega, fun h => ?_⟩, HZ.offs hC.Z ho' (by decide)⟩, by rw [ho' _ (by decide)]; exact hev, fun h0 => ?_⟩
      · have h' : a1.e + min (a1.fl - a1.e) m < a1.fl := h
        refine ⟨?_, ?_⟩
        · show _ = some (⟨E.H, (a1.e + min (a1.fl - a1.e) m) % 32768, none⟩ : Addr)
          rw [cutA_lt _ _ _ _ (by omega), show (a1.e + min (a1.fl - a1.e) m) % 32768 = a1.e % 32768 + min (a1.fl - a1.e) m by omega]
        · show (a1.e + min (a1.fl - a1.e) m) % 32768 + (a1.fl - (a1.e + min (a1.fl - a1.e) m)) ≤ 32768
          omega
      · obtain ⟨hL, h45, hSm⟩ := hlive h0
        exact ⟨hL.keep kp3 ho' (by decide) (by decide) ⟨rfl, rfl, rfl, rfl, rfl⟩, (ho' _ (by decide)).trans h45, hSm.keep ho' (by decide)⟩
    have hbuf : ∀ j, j < n → cpg gb hs o (a1.e % 32768) (min (a1.fl - a1.e) m) j = gotB a1.out a1.e o (min m (a1.fl - a1.e)) gb j := by
      intro j _
      rw [Nat.min_comm m]
      unfold cpg gotB
      split
      · have hfl := hP hlt
        have := hC.V.last (a1.e + (j - o)) (by omega) (by obtain ⟨q, rd, q1, q2, q3, q4, _⟩ := hC.D; omega)
        rw [← this, show (a1.e + (j - o)) % 32768 = a1.e % 32768 + (j - o) by omega]
      · rfl
    refine wp_block ?_
    refine wp_seq ?_
    refine wp_seq ?_
    -- region 1
    refine reg_lit ?_
    refine L1 (mv (v := .pointer _) rfl) ?_
    refine L1 (nilP rfl) ?_
    refine L1 (fa95_15 rfl) ?_
    refine L1 (ld22 rfl (hW.F.cellv (by decide) ht)) ?_
    refine L1 (ln und22 rfl) ?_
    refine L1 (bi rfl rfl (bn_gtr (v := true) (decide_eq_true (by omega)))) ?_
    refine wpList_nil ?_
    refine then_n ?_
    refine cond_t rfl ?_
    refine wp_seq ?_
    -- region 2
    refine reg_lit ?_
    refine L1 (mv (v := .slice _ _ _) rfl) ?_
    refine L1 (mv (v := .pointer _) rfl) ?_
    refine L1 (nilP rfl) ?_
    refine L1 (fa95_15 rfl) ?_
    refine L1 (ld22 rfl (hW.F.cellv (by decide) ht)) ?_
    refine Lcp rfl rfl hb hW.H (by omega) (by omega) (fun j hj => by obtain ⟨cc, _, hcc⟩ := hC.V.byte (a1.e % 32768 + j) (by omega); rw [hcc]; rfl) ?_
    intro w1 hb kp1
    have hW := hW.setbuf hU kp1
    have kp := kp.trans (kp1.mono (by simp [Env.L]))
    refine L1 (asg (v := .int _ _) rfl) ?_
    refine wpList_nil ?_
    refine then_n ?_
    refine wp_seq ?_
    -- region 3
    refine reg_lit ?_
    refine L1 (mv (v := .pointer _) rfl) ?_
    refine L1 (mv (v := .pointer _) rfl) ?_
    refine L1 (nilP rfl) ?_
    refine L1 (fa95_15 rfl) ?_
    refine L1 (ld22 rfl (hW.F.cellv (by decide) ht)) ?_
    refine L1 (mv (v := .int _ _) rfl) ?_
    refine L1 (sl_l und22 sz5 rfl rfl rfl (by omega)) ?_
    refine L1 (nilP rfl) ?_
    refine L1 (fa95_15 rfl) ?_
    refine Lst22 (v := .slice _ _ _) rfl rfl rfl hW.F (by decide) ?_
    intro w2 hb1 kp2
    have hW := hW.setF hE hb1 kp2
    have hb := hb.kp kp2 (by simp; exact hU.uF)
    have kp := kp.trans (kp2.mono (by simp [Env.L]))
    clear hb1
    refine wpList_nil ?_
    refine then_n ?_
    refine wp_seq ?_
    refine wp_seq ?_
    -- region 4
    refine reg_lit ?_
    refine L1 (mv (v := .pointer _) rfl) ?_
    refine L1 (nilP rfl) ?_
    refine L1 (fa95_15 rfl) ?_
    refine L1 (ld22 rfl (hW.F.cellv (v := .slice _ _ _) (by decide) rfl)) ?_
    refine L1 (ln und22 rfl) ?_
    refine L1 (bi rfl rfl (bn_eql (v := decide (a1.fl - a1.e ≤ m)) (decide_eq_decide.2 (by omega)))) ?_
    refine wpList_nil ?_
    refine then_n ?_
    refine cond_d (p := a1.fl - a1.e ≤ m) rfl (fun hall => ?_) (fun hall => ?_)
    · skip
      refine wp_seq ?_
      -- region 5 (its order is open)
      refine reg_still mixed (by kernel_rfl) ?_
      have hW := hW.drew
      have hb := hb.drew
      have kp := kp.drew
      refine S1 (mv (v := .int _ _) rfl) ?_
      refine S1 (mv (v := .pointer _) rfl) ?_
      refine S1 (nilP rfl) ?_
      refine S1 (fa95_14 rfl) ?_
      refine S1 (ld62 rfl (hW.F.cellv (by decide) (rfl : g 1048 = g 1048))) ?_
      refine S1 (asg (v := .int _ _) rfl) ?_
      refine S1 (asg (v := ((g 1048))) rfl) ?_
      refine still_nil ?_
      refine then_n ?_
      refine wp_ret ?_
      refine then_r ?_
      refine then_r ?_
      refine inb_r ?_
      refine then_r ?_
      refine inb_r ?_
      refine ret2 rfl rfl rfl ?_
      refine ⟨_, rfl, min m (a1.fl - a1.e), a1.err, _, g 1048, by rw [Nat.min_comm m]; rfl, hev, hst.reads (by have := Reads.give (S := E.S') (n := m) hlt; rw [if_pos hall] at this; exact this), hgot _ _ hW rfl ((Off.refl [1049] g).upd (by decide) _) ((kp1.mono (by simp [Env.X])).trans (kp2.mono (by simp [Env.X]))).drew, fun _ => hP hlt, ?_, kp⟩
      refine hb.congr fun j hj => ?_
      show _ = gotB a1.out (a1.e + min m (a1.fl - a1.e) - min m (a1.fl - a1.e)) o (min m (a1.fl - a1.e)) gb j
      rw [Nat.add_sub_cancel]
      exact hbuf j hj
    · skip
      refine wp_skip ?_
      refine then_n ?_
      refine wp_seq ?_
      -- region 6
      refine reg_lit ?_
      refine L1 (mv (v := .int _ _) rfl) ?_
      refine L1 (asg (v := .int _ _) rfl) ?_
      refine L1 (asg (v := .nilIface) rfl) ?_
      refine wpList_nil ?_
      refine then_n ?_
      refine wp_ret ?_
      refine then_r ?_
      refine inb_r ?_
      refine then_r ?_
      refine inb_r ?_
      refine ret2 rfl rfl rfl ?_
      refine ⟨_, rfl, min m (a1.fl - a1.e), 0, _, .nilIface, by rw [Nat.min_comm m]; rfl, .inl ⟨rfl, rfl⟩, hst.reads (by have := Reads.give (S := E.S') (n := m) hlt; rw [if_neg hall] at this; exact this), hgot _ _ hW rfl ((Off.refl [1049] g).upd (by decide) _) ((kp1.mono (by simp [Env.X])).trans (kp2.mono (by simp [Env.X]))), fun _ => hP hlt, ?_, kp⟩
      refine hb.congr fun j hj => ?_
      show _ = gotB a1.out (a1.e + min m (a1.fl - a1.e) - min m (a1.fl - a1.e)) o (min m (a1.fl - a1.e)) gb j
      rw [Nat.add_sub_cancel]
      exact hbuf j hj
  · have hfe : a1.e = a1.fl := by omega
    by_cases herr : a1.err = 0
    · -- a step
      obtain ⟨hL, h45, hSm⟩ := hlive herr
      obtain ⟨sk, sfn, hhas, h45', hcall⟩ := step_c E w0 a1 hE g hs bs cs hC hL h45 hSm hfe herr (hH a1 hst)
      clear h45
      have h45 := h45'
      refine wp_block ?_
      refine wp_seq ?_
      refine wp_seq ?_
      -- region 1
      refine reg_lit ?_
      refine L1 (mv (v := .pointer _) rfl) ?_
      refine L1 (nilP rfl) ?_
      refine L1 (fa95_15 rfl) ?_
      refine L1 (ld22 rfl (hW.F.cellv (by decide) ht)) ?_
      refine L1 (ln und22 rfl) ?_
      refine L1 (bi rfl rfl (bn_gtr (v := false) (decide_eq_false (by omega)))) ?_
      refine wpList_nil ?_
      refine then_n ?_
      refine cond_f rfl ?_
      refine wp_skip ?_
      refine then_n ?_
      refine wp_seq ?_
      refine wp_seq ?_
      -- region 7
      refine reg_lit ?_
      refine L1 (mv (v := .pointer _) rfl) ?_
      refine L1 (nilP rfl) ?_
      refine L1 (fa95_14 rfl) ?_
      refine L1 (ld62 rfl (hW.F.cellv (by decide) hL.err)) ?_
      refine L1 (en_nil rfl rfl) ?_
      refine wpList_nil ?_
      refine then_n ?_
      refine cond_f rfl ?_
      refine wp_skip ?_
      refine then_n ?_
      refine wp_seq ?_
      -- region 9
      refine reg_lit ?_
      refine L1 (mv (v := .pointer _) rfl) ?_
      refine L1 (nilP rfl) ?_
      refine L1 (fa95_11 rfl) ?_
      refine L1 (ld92 rfl (hW.F.cellv (by decide) h45)) ?_
      refine L1 (mv (v := .pointer _) rfl) ?_
      refine LC (cl1 hhas rfl rfl) hcall ?_
      rintro v w1 ⟨rfl, ⟨a2, hR2, hrun⟩, kp1⟩
      have hb := hb.kp kp1 (nbuf hU)
      have kp := kp.trans (kp1.mono (by simp; exact fun k h => .inr h))
      clear hC hlive hev hW hL h45 h45' hcall ht
      have hR3 := hR2
      obtain ⟨g, hs, bs, cs, hC, hev, hlive⟩ := hR2
      have hW := hC.W
      obtain ⟨hefl2, ta2, tc2, ht, htc2, hta2⟩ := hC.T
      refine wpList_nil ?_
      refine then_n ?_
      by_cases herr2 : a2.err = 0
      · skip
        obtain ⟨hL2, h452, hSm2⟩ := hlive herr2
        refine wp_seq ?_
        -- region 10
        refine reg_lit ?_
        refine L1 (mv (v := .pointer _) rfl) ?_
        refine L1 (nilP rfl) ?_
        refine L1 (fa95_14 rfl) ?_
        refine L1 (ld62 rfl (hW.F.cellv (by decide) hL2.err)) ?_
        refine L1 (en_nil rfl rfl) ?_
        refine L1 (mv (v := .bool _) rfl) ?_
        refine Lskip (t := 60) (b := true) rfl (by decide) rfl ?_
        refine Lskip (t := 60) (b := true) rfl (by decide) rfl ?_
        refine Lskip (t := 60) (b := true) rfl (by decide) rfl ?_
        refine Lskip (t := 60) (b := true) rfl (by decide) rfl ?_
        refine Lskip (t := 60) (b := true) rfl (by decide) rfl ?_
        refine Lskip (t := 60) (b := true) rfl (by decide) rfl ?_
        refine L1 (pk_f rfl rfl) ?_
        refine wpList_nil ?_
        refine then_n ?_
        refine cond_f rfl ?_
        refine wp_skip ?_
        refine inb_n ?_
        refine then_n ?_
        have hla : a2.late = a2 := by unfold A.late; rw [if_neg (by omega)]
        refine ⟨meas E.S' a2, _, ?_, rfl, rfl, rfl, a2, hR3, hb, kp, hst.trans (.step hfe herr hrun (by rw [hla]; exact .refl _)), Pend.step hR0.late_fl hfe hrun, rfl⟩
        exact meas_lt hR0.late_fl hfe herr hrun herr2
      · skip
        obtain ⟨et, ex, hex⟩ := errIface hev herr2
        refine wp_seq ?_
        -- region 10
        refine reg_lit ?_
        refine L1 (mv (v := .pointer _) rfl) ?_
        refine L1 (nilP rfl) ?_
        refine L1 (fa95_14 rfl) ?_
        refine L1 (ld62 rfl (hW.F.cellv (by decide) hex)) ?_
        refine L1 (en_held rfl rfl) ?_
        refine L1 (mv (v := .bool _) rfl) ?_
        refine L1g (t := 60) (b := true) rfl (by decide) rfl (mv (v := .pointer _) rfl) ?_
        refine L1g (t := 60) (b := true) rfl (by decide) rfl (nilP rfl) ?_
        refine L1g (t := 60) (b := true) rfl (by decide) rfl (fa95_15 rfl) ?_
        refine L1g (t := 60) (b := true) rfl (by decide) rfl (ld22 rfl (hW.F.cellv (by decide) ht)) ?_
        refine L1g (t := 60) (b := true) rfl (by decide) rfl (ln und22 rfl) ?_
        refine L1g (t := 60) (b := true) rfl (by decide) rfl (bi rfl rfl (bn_eql (v := decide (a2.e = a2.fl)) (decide_eq_decide.2 (by omega)))) ?_
        refine L1 (pk_t rfl rfl) ?_
        refine wpList_nil ?_
        refine then_n ?_
        refine cond_d (p := a2.e = a2.fl) rfl (fun hef2 => ?_) (fun hef2 => ?_)
        · skip
          -- region 11
          refine reg_lit ?_
          refine L1 (mv (v := .pointer _) rfl) ?_
          refine L1 (mv (v := .pointer _) rfl) ?_
          refine L1 (nilP rfl) ?_
          refine L1 (fa95_9 rfl) ?_
          refine LC (cl1 has50 rfl rfl) (rf_c E _ g hs bs cs a2.pos _ _ _ hE hW hC.D) ?_
          rintro v w1 ⟨hv, g1, hW, hD1, ho, kp1⟩
          have hb := hb.kp kp1 (nbuf hU)
          have kp := kp.trans (kp1.mono (by simp; exact fun k h => .inr h))
          refine L1 (nilP rfl) ?_
          refine L1 (fa95_15 rfl) ?_
          refine Lst22 (v := v) rfl rfl (by obtain ⟨_, _, _, rfl, _⟩ := hv; rfl) hW.F (by decide) ?_
          intro w3 hb1 kp3
          have hW := hW.setF hE hb1 kp3
          have hb := hb.kp kp3 (by simp; exact hU.uF)
          have kp := kp.trans (kp3.mono (by simp [Env.L]))
          refine wpList_nil ?_
          refine inb_n ?_
          refine then_n ?_
          have hla : a2.late = a2.flush := by unfold A.late; rw [if_pos ⟨herr2, hef2⟩]
          have hfl2 := hR3.late_fl
          have hR4 : Rep E w3 a2.flush := by
            refine ⟨_, hs, bs, cs, ⟨hW, (hC.S.off ho (by decide)).off ((Off.refl [1049] g1).upd (by decide) _) (by decide), hC.V, ?_, ?_, HZ.offs (HZ.offs hC.Z ho (by decide)) ((Off.refl [1049] g1).upd (by decide) _) (by decide)⟩, ?_, fun h => absurd h herr2⟩
            · have hnx : nx (a2.out.length % 32768) = a2.out.length % 32768 := by unfold nx; rw [if_neg (by omega)]
              rw [hnx] at hD1
              exact hD1.off ((Off.refl [1049] g1).upd (by decide) _) (by decide)
            · show TRv E _ a2.e a2.out.length
              rw [hef2]
              exact hv
            · show ErrV E a2.err (g1 1048)
              rw [ho _ (by decide)]
              exact hev
          refine ⟨0, _, ?_, rfl, rfl, rfl, a2.flush, hR4, hb, kp, hst.trans (.step hfe herr hrun (by rw [hla]; exact .refl _)), fun _ => rfl, ?_⟩
          · unfold meas; rw [if_neg (by omega)]; omega
          · unfold meas; rw [if_pos (.inr herr2)]
        · skip
          refine wp_skip ?_
          refine inb_n ?_
          refine then_n ?_
          have hla : a2.late = a2 := by unfold A.late; rw [if_neg (by omega)]
          refine ⟨0, _, ?_, rfl, rfl, rfl, a2, hR3, hb, kp, hst.trans (.step hfe herr hrun (by rw [hla]; exact .refl _)), Pend.step hR0.late_fl hfe hrun, ?_⟩
          · unfold meas; rw [if_neg (by omega)]; omega
          · unfold meas; rw [if_pos (.inr herr2)]
    · -- the end
      obtain ⟨et, ex, hex⟩ := errIface hev herr
      refine wp_block ?_
      refine wp_seq ?_
      refine wp_seq ?_
      -- region 1
      refine reg_lit ?_
      refine L1 (mv (v := .pointer _) rfl) ?_
      refine L1 (nilP rfl) ?_
      refine L1 (fa95_15 rfl) ?_
      refine L1 (ld22 rfl (hW.F.cellv (by decide) ht)) ?_
      refine L1 (ln und22 rfl) ?_
      refine L1 (bi rfl rfl (bn_gtr (v := false) (decide_eq_false (by omega)))) ?_
      refine wpList_nil ?_
      refine then_n ?_
      refine cond_f rfl ?_
      refine wp_skip ?_
      refine then_n ?_
      refine wp_seq ?_
      refine wp_seq ?_
      -- region 7
      refine reg_lit ?_
      refine L1 (mv (v := .pointer _) rfl) ?_
      refine L1 (nilP rfl) ?_
      refine L1 (fa95_14 rfl) ?_
      refine L1 (ld62 rfl (hW.F.cellv (by decide) hex)) ?_
      refine L1 (en_held rfl rfl) ?_
      refine wpList_nil ?_
      refine then_n ?_
      refine cond_t rfl ?_
      refine wp_seq ?_
      -- region 8 (its order is open)
      refine reg_still mixed (by kernel_rfl) ?_
      have hW := hW.drew
      have hb := hb.drew
      have kp := kp.drew
      have hR0 := hR0.drew
      refine S1 (mv (v := .pointer _) rfl) ?_
      refine S1 (nilP rfl) ?_
      refine S1 (fa95_14 rfl) ?_
      refine S1 (ld62 rfl (hW.F.cellv (by decide) hex)) ?_
      refine S1 (asg (v := .int _ _) rfl) ?_
      refine S1 (asg (v := .iface _ _) rfl) ?_
      refine still_nil ?_
      refine then_n ?_
      refine wp_ret ?_
      refine then_r ?_
      refine inb_r ?_
      refine then_r ?_
      refine inb_r ?_
      refine ret2 rfl rfl rfl ?_
      refine ⟨_, rfl, 0, a1.err, a1, _, rfl, by rw [← hex]; exact hev, hst.reads (.done hfe herr), hR0, hP, ?_, kp⟩
      refine hb.congr fun j hj => ?_
      unfold gotB
      rw [if_neg (by omega)]
end Go.Proofs.YtejeloeaklpinaaDoor

/- What is laid anew: zero blocks, readers, slices. -/
namespace Go.Proofs.YtejeloeaklpinaaDoor
/-- The cells of a reader that is all zero. -/
def g95 (k : Nat) : Value :=
  if k = 0 ∨ k = 1048 then .nilIface
  else if k = 1 ∨ k = 1035 ∨ k = 1036 ∨ k = 1050 ∨ k = 1051 then .pointer none
  else if k = 2 ∨ k = 5 ∨ k = 520 ∨ k = 1038 ∨ k = 1039 ∨ k = 1046 ∨ k = 1052 ∨ k = 1053 then .int .i64 0
  else if k = 4 then .int .u64 0
  else if k = 518 ∨ k = 1033 ∨ k = 1037 ∨ k = 1049 then .slice none 0 0
  else if k = 1040 ∨ k = 1047 then .bool false
  else if k = 1045 then .nilFunc
  else if 1041 ≤ k then .int .u8 0
  else .int .u32 0
theorem Bk.newOf (w : World) (C : Array Value) (t : TypeId) (n : Nat) (g : Nat → Value) (h : C.toList = (List.range n).map g) : Bk (w.alloc (.cells C t)) w.heap.size n t g := by
  have hs : C.size = n := by have := congrArg List.length h; simpa using this
  refine ⟨C, heap_alloc_new w _, hs, fun k hk => ?_⟩
  have := congrArg (fun l : List Value => l[k]?) h
  simp only [List.getElem?_map, List.getElem?_range hk, Option.map_some] at this
  simpa using this
section
variable {ops : Array Oper} {Q : Exit → Act → World → Prop} {N : Nat} {L : List (Nat × Value)} {B : Nat → Value} {w : World} {rest : List Oper} {dd : Nat} {ty : TypeId} {pos : String} {af : Array Edge}
theorem Lal95 (K : ∀ X w1, w.heap.size = X → Bk w1 X 1054 95 g95 → Kp [] w w1 → w1.heap.size = X + 1 → wpList Tryd.prog ops Q rest (fr N (fl ((dd, .pointer (some ⟨X, 0, none⟩)) :: L) B)) w1) :
    wpList Tryd.prog ops Q (⟨some dd, .alloc 95, ty, pos, af, none⟩ :: rest) (fr N (fl L B)) w := by
  obtain ⟨Z, hZ, hr⟩ : ∃ Z : Array Value, Z.toList = (List.range 1054).map g95 ∧ ∀ (ρ : Operand → Value) (w : World), (execOp ρ ⟨some dd, .alloc 95, ty, pos, af, none⟩).run Tryd.prog w = .ok (.value (.pointer (some ⟨w.heap.size, 0, none⟩))) (w.alloc (.cells Z 95)) :=
    ⟨(((Tryd.prog.info? 95).bind (·.zero)).map (·.cells)).getD #[], by kernel_rfl, fun ρ w => by kernel_rfl⟩
  exact L1 (hr _ _) (K _ _ rfl (Bk.newOf w Z 95 1054 g95 hZ) ((Kp.refl [] w).alloc _) (by simp))
theorem Lal97 (K : ∀ X w1, w.heap.size = X → Bk w1 X 316 97 (fun _ => .int .i64 0) → Kp [] w w1 → w1.heap.size = X + 1 → wpList Tryd.prog ops Q rest (fr N (fl ((dd, .pointer (some ⟨X, 0, none⟩)) :: L) B)) w1) :
    wpList Tryd.prog ops Q (⟨some dd, .alloc 97, ty, pos, af, none⟩ :: rest) (fr N (fl L B)) w := by
  obtain ⟨Z, hZ, hr⟩ : ∃ Z : Array Value, Z.toList = (List.range 316).map (fun _ => .int .i64 0) ∧ ∀ (ρ : Operand → Value) (w : World), (execOp ρ ⟨some dd, .alloc 97, ty, pos, af, none⟩).run Tryd.prog w = .ok (.value (.pointer (some ⟨w.heap.size, 0, none⟩))) (w.alloc (.cells Z 97)) :=
    ⟨(((Tryd.prog.info? 97).bind (·.zero)).map (·.cells)).getD #[], by kernel_rfl, fun ρ w => by kernel_rfl⟩
  exact L1 (hr _ _) (K _ _ rfl (Bk.newOf w Z 97 316 _ hZ) ((Kp.refl [] w).alloc _) (by simp))
theorem Lal98 (K : ∀ X w1, w.heap.size = X → Bk w1 X 19 98 (fun _ => .int .i64 0) → Kp [] w w1 → w1.heap.size = X + 1 → wpList Tryd.prog ops Q rest (fr N (fl ((dd, .pointer (some ⟨X, 0, none⟩)) :: L) B)) w1) :
    wpList Tryd.prog ops Q (⟨some dd, .alloc 98, ty, pos, af, none⟩ :: rest) (fr N (fl L B)) w := by
  obtain ⟨Z, hZ, hr⟩ : ∃ Z : Array Value, Z.toList = (List.range 19).map (fun _ => .int .i64 0) ∧ ∀ (ρ : Operand → Value) (w : World), (execOp ρ ⟨some dd, .alloc 98, ty, pos, af, none⟩).run Tryd.prog w = .ok (.value (.pointer (some ⟨w.heap.size, 0, none⟩))) (w.alloc (.cells Z 98)) :=
    ⟨(((Tryd.prog.info? 98).bind (·.zero)).map (·.cells)).getD #[], by kernel_rfl, fun ρ w => by kernel_rfl⟩
  exact L1 (hr _ _) (K _ _ rfl (Bk.newOf w Z 98 19 _ hZ) ((Kp.refl [] w).alloc _) (by simp))
end
section
variable {ρ : Operand → Value} {d : Option Nat} {x y z : Operand} {ty : TypeId} {pos : String} {af : Array Edge} {gd : Option (Nat × Bool)} {w : World}
theorem ta80 {a : Addr} (hx : ρ x = .iface 43 (.pointer (some a))) : (execOp ρ ⟨d, .typeAssert x 72 80 true, ty, pos, af, gd⟩).run Tryd.prog w = .ok (.value (.tuple #[.iface 43 (.pointer (some a)), .bool true])) w := by
  show (Instr.typeAssert (ρ x) 72 80 true >>= fun v => pure (Next.value v)).run Tryd.prog w = _
  rw [hx]
  kernel_rfl
theorem bd70 {a : Option Addr} {n c : Nat} {i j : Int} (hx : ρ x = .slice a n c) (hi : ρ y = .int .i64 i) (hj : ρ z = .int .i64 j) :
    (execOp ρ ⟨d, .build 70 #[(0, x), (1, y), (2, z)], ty, pos, af, gd⟩).run Tryd.prog w = .ok (.value (.agg #[.slice a n c, .int .i64 i, .int .i64 j])) w := by
  simp only [execOp, List.map_toArray, List.map_cons, List.map_nil, hx, hi, hj]
  kernel_rfl
theorem bx70 {a : Option Addr} {n c : Nat} {i j : Int} (hx : ρ x = .agg #[.slice a n c, .int .i64 i, .int .i64 j]) :
    (execOp ρ ⟨d, .box 70 x, ty, pos, af, gd⟩).run Tryd.prog w = .ok (.value (.pointer (some ⟨w.heap.size, 0, none⟩))) (w.alloc (.cells #[.slice a n c, .int .i64 i, .int .i64 j] 70)) := by
  show (Instr.box 70 (ρ x) >>= fun v => pure (Next.value v)).run Tryd.prog w = _
  rw [hx]
  kernel_rfl
theorem bd90 {a : Option Addr} {n c : Nat} (hx : ρ x = .slice a n c) :
    (execOp ρ ⟨d, .build 90 #[(0, x)], ty, pos, af, gd⟩).run Tryd.prog w = .ok (.value (.agg #[.slice a n c, .int .i64 0, .int .i64 0, .bool false])) w := by
  simp only [execOp, List.map_toArray, List.map_cons, List.map_nil, hx]
  kernel_rfl
theorem und72_ : True := trivial
end
theorem sz90 (w : World) : (sizeOf 90).run Tryd.prog w = .ok 4 w := by kernel_rfl
section
variable {ops : Array Oper} {Q : Exit → Act → World → Prop} {N : Nat} {f : Nat → Value} {w : World} {rest : List Oper} {x y : Operand} {ty : TypeId} {pos : String} {af : Array Edge} {b k n : Nat} {T : TypeId} {g : Nat → Value} {v0 v1 v2 v3 : Value}
theorem Lst90 (hx : ev N f x = .pointer (some ⟨b, k, none⟩)) (hy : ev N f y = .agg #[v0, v1, v2, v3]) (h1 : v0.oneCell' = true ∧ v1.oneCell' = true ∧ v2.oneCell' = true ∧ v3.oneCell' = true) (hB : Bk w b n T g) (hk : k + 3 < n)
    (K : ∀ w1, Bk w1 b n T (upd (upd (upd (upd g k v0) (k + 1) v1) (k + 2) v2) (k + 3) v3) → Kp [b] w w1 → wpList Tryd.prog ops Q rest (fr N f) w1) : wpList Tryd.prog ops Q (⟨none, .store 90 x y, ty, pos, af, none⟩ :: rest) (fr N f) w := by
  have hst := run_storeCells_cells (P := Tryd.prog) b k [v0, v1, v2, v3] 0 w (fun j hj => by
      rw [Nat.add_zero, hB.cell (k := k + j) (by simp at hj; omega)]; rfl) (fun j _ => hB.frozen _) (fun v hv => by
      simp at hv; rcases hv with rfl | rfl | rfl | rfl
      · exact h1.1
      · exact h1.2.1
      · exact h1.2.2.1
      · exact h1.2.2.2)
  refine L0 (w' := w.setCells b k [v0, v1, v2, v3]) ?_ (K _ ((hB.setCells [v0, v1, v2, v3] k).congr fun j _ => ?_) (Kp.setCells (by simp) _ _ (Kp.refl [b] w)))
  · simp [execOp, hx, hy, Instr.storeAt, Instr.sureAddr, storeVar, sz90, Value.cells, hst]
  · simp only [List.length_cons, List.length_nil]
    by_cases h : k ≤ j ∧ j < k + (0 + 1 + 1 + 1 + 1)
    · rw [if_pos h]
      have : j = k ∨ j = k + 1 ∨ j = k + 2 ∨ j = k + 3 := by omega
      rcases this with rfl | rfl | rfl | rfl
      · simp [upd]
      · simp [upd]
      · simp [upd]
      · simp [upd]
    · rw [if_neg h, upd_ne _ _ _ _ (by omega), upd_ne _ _ _ _ (by omega), upd_ne _ _ _ _ (by omega), upd_ne _ _ _ _ (by omega)]
end
end Go.Proofs.YtejeloeaklpinaaDoor

/- Slices of bytes that a call has made: made, and grown by append. -/
namespace Go.Proofs.YtejeloeaklpinaaDoor
/-- A slice of bytes that begins at its block's head (or nil). -/
def Sl (w : World) (v : Value) (xs : List Nat) : Prop :=
  (v = .slice none 0 0 ∧ xs = []) ∨ ∃ b cap g, v = .slice (some ⟨b, 0, none⟩) xs.length cap ∧ Bk w b cap 5 g ∧ xs.length ≤ cap ∧ cap ≤ maxLen ∧ ∀ k, k < xs.length → g k = .int .u8 (xs.getD k 0)
def obk (v : Value) : List Nat := match v.ownBlock with
  | some b => [b]
  | none => []
theorem Sl.kp {w w' : World} {v : Value} {xs : List Nat} {L : List Nat} (h : Sl w v xs) (k : Kp L w w') (hL : ∀ b, v.ownBlock = some b → b ∉ L) : Sl w' v xs := by
  rcases h with h | ⟨b, cap, g, rfl, h2, h3⟩
  · exact .inl h
  · exact .inr ⟨b, cap, g, rfl, h2.kp k (hL b rfl), h3⟩
theorem Sl.lt {w : World} {v : Value} {xs : List Nat} (h : Sl w v xs) {b : Nat} (hb : v.ownBlock = some b) : b < w.heap.size := by
  rcases h with ⟨rfl, _⟩ | ⟨b', cap, g, rfl, h2, _⟩
  · simp [Value.ownBlock] at hb
  · simp only [Value.ownBlock, Option.some.injEq] at hb
    subst hb; exact h2.lt
theorem Sl.val {w : World} {v : Value} {xs : List Nat} (h : Sl w v xs) : ∃ a c, v = .slice a xs.length c := by
  rcases h with ⟨rfl, rfl⟩ | ⟨b', cap, g, rfl, h2, _⟩
  · exact ⟨_, _, rfl⟩
  · exact ⟨_, _, rfl⟩
theorem Sl.nil (w : World) : Sl w (.slice none 0 0) [] := .inl ⟨rfl, rfl⟩
theorem info5 : ∃ i, Tryd.prog.info? 5 = some i ∧ i.zero = some (.int .u8 0) ∧ i.size = 1 ∧ i.bytes = 1 := by
  have h : (Tryd.prog.info? 5).map (fun i => (i.zero, i.size, i.bytes)) = some (some (.int .u8 0), 1, 1) := by kernel_rfl
  obtain ⟨i, hi, he⟩ := Option.map_eq_some_iff.1 h
  simp only [Prod.mk.injEq] at he
  exact ⟨i, hi, he.1, he.2.1, he.2.2⟩
theorem getD_app (xs ys : List Nat) (k : Nat) : (xs ++ ys).getD k 0 = if k < xs.length then xs.getD k 0 else ys.getD (k - xs.length) 0 := by
  by_cases h : k < xs.length
  · rw [if_pos h, List.getD_eq_getElem?_getD, List.getElem?_append_left h, ← List.getD_eq_getElem?_getD]
  · rw [if_neg h, List.getD_eq_getElem?_getD, List.getElem?_append_right (by omega), ← List.getD_eq_getElem?_getD]
theorem map_get (ys : List Nat) (j : Nat) (h : j < ys.length) : (ys.map fun c : Nat => Value.int .u8 (c : Int))[j]? = some (.int .u8 (ys.getD j 0)) := by
  rw [List.getElem?_map, List.getD_eq_getElem?_getD, List.getElem?_eq_getElem h]
  rfl
theorem grownNew {w : World} {xs ys : List Nat} {C : Array Value} {cap : Nat} {Z : Array Value} (hC : C = (xs.map fun c : Nat => Value.int .u8 (c : Int)).toArray ++ (ys.map fun c : Nat => Value.int .u8 (c : Int)).toArray ++ Z) (hZ : Z.size = cap - (xs.length + ys.length)) (hcap : xs.length + ys.length ≤ cap) (hm : cap ≤ maxLen) :
    Sl (w.drew.alloc (.cells C 5)) (.slice (some ⟨w.heap.size, 0, none⟩) (xs.length + ys.length) cap) (xs ++ ys) := by
  have hs : C.size = cap := by subst hC; simp; omega
  refine .inr ⟨w.heap.size, cap, fun k => C.getD k undef, by rw [List.length_append], by rw [← hs]; exact Bk.new w.drew C 5, by rw [List.length_append]; exact hcap, hm, fun k hk => ?_⟩
  rw [List.length_append] at hk
  rw [getD_app]
  subst hC
  simp only [Array.getD_eq_getD_getElem?]
  by_cases h : k < xs.length
  · rw [if_pos h, Array.getElem?_append_left (by simp; omega), Array.getElem?_append_left (by simpa using h)]
    simp [h]
  · rw [if_neg h, Array.getElem?_append_left (by simp; omega), Array.getElem?_append_right (by simpa using h)]
    simp only [List.size_toArray, List.length_map, List.getElem?_toArray]
    rw [map_get _ _ (by omega)]
    rfl
theorem ap_run (w : World) (ty : TypeId) {v : Value} {xs ys : List Nat} {a : Addr} {m c2 : Nat} (hS : Sl w v xs) (hl : ys.length = m) (hys : ∀ j, j < m → w.cell? (a.add j) = some (.int .u8 (ys.getD j 0))) (hmax : xs.length + m ≤ 140737488355328) :
    ∃ v' w', (Builtin.append_ #[22, 22] ty #[v, .slice (some a) m c2]).run Tryd.prog w = .ok v' w' ∧ Sl w' v' (xs ++ ys) ∧ Kp (obk v) w w' ∧ ∀ k, v'.ownBlock = some k → v.ownBlock = some k ∨ w.heap.size ≤ k := by
  obtain ⟨i, hi, hz, hsz, hby⟩ := info5
  have hl' : (ys.map fun c : Nat => Value.int .u8 (c : Int)).length = m * i.size := by rw [hsz, List.length_map]; omega
  have hnews : ∀ j u, (ys.map fun c : Nat => Value.int .u8 (c : Int))[j]? = some u → w.cell? (a.add j) = some u := by
    intro j u hj
    have hlt : j < ys.length := by have := (List.getElem?_eq_some_iff.1 hj).1; simpa using this
    rw [map_get _ _ hlt] at hj
    rw [hys j (by omega)]
    exact hj
  have h1 : ∀ u ∈ (ys.map fun c : Nat => Value.int .u8 (c : Int)), u.oneCell' = true := by
    intro u hu
    obtain ⟨c, _, rfl⟩ := List.mem_map.1 hu
    rfl
  have hmx : xs.length + m ≤ maxLen := by simp only [maxLen]; omega
  rcases hS with ⟨rfl, rfl⟩ | ⟨b, cap, g, rfl, hB, hxc, hcm, hg⟩
  · by_cases hm : m = 0
    · subst hm
      have hn : ys = [] := List.eq_nil_of_length_eq_zero hl
      subst hn
      refine ⟨.slice none 0 0, w, ?_, .inl ⟨rfl, rfl⟩, Kp.refl _ _, fun k hk => .inl hk⟩
      simp [Builtin.append_, run_underlying und22, sizeOf, typeInfo, hi, Builtin.lenOf, Builtin.firstCells, loadCells, loadCellsFrom]
    · have hr := run_append_nil (P := Tryd.prog) w 22 ty 5 i (.int .u8 0) und22 hi hz a m c2 _ hl' hnews (by omega) (by simp at hmax; omega) (by rw [hby]; simp at hmax; omega)
      have hge := grownCap_ge w m 0 5
      refine ⟨_, _, hr, ?_, ((Kp.refl _ w).drew.alloc _), fun k hk => ?_⟩
      · have := grownNew (w := w) (xs := []) (ys := ys) (C := (ys.map fun c : Nat => Value.int .u8 (c : Int)).toArray ++ Builtin.zeroCells (Value.int .u8 0).cells (grownCap w m 0 5 - m)) (cap := grownCap w m 0 5) (Z := Builtin.zeroCells (Value.int .u8 0).cells (grownCap w m 0 5 - m)) (by simp) (by simp [Builtin.zeroCells, Value.cells]; omega) (by simp; omega) (grownCap_le_maxLen w m 0 5 (by simp at hmx; exact hmx))
        simpa [hl] using this
      · simp only [Value.ownBlock, Option.some.injEq] at hk
        exact .inr (by omega)
  · obtain ⟨C, hC, hCs, hCg⟩ := hB
    by_cases hroom : xs.length + m ≤ cap
    · have hr := run_append_room (P := Tryd.prog) w 22 ty 5 i und22 hi b xs.length cap C hC a m c2 _ hl' hnews h1 hroom (by rw [hsz, List.length_map]; omega)
      rw [hsz, Nat.mul_one, List.length_map] at hr
      refine ⟨_, _, hr, ?_, (Kp.refl _ w).setRow (by simp [obk, Value.ownBlock]) _, fun k hk => .inl hk⟩
      refine .inr ⟨b, cap, fun k => if k < xs.length then .int .u8 (xs.getD k 0) else if k < xs.length + m then .int .u8 (ys.getD (k - xs.length) 0) else g k, by rw [List.length_append, hl], ?_, by rw [List.length_append]; omega, hcm, fun k hk => ?_⟩
      · refine Bk.setRow (g := g) ⟨C, hC, hCs, hCg⟩ _ ?_ ?_
        · simp; omega
        · intro k hk
          have htl : (C.toList.take xs.length).length = xs.length := by simp; omega
          rw [List.getElem?_toArray]
          by_cases hk1 : k < xs.length
          · rw [if_pos hk1, List.append_assoc, List.getElem?_append_left (by omega), List.getElem?_take, if_pos hk1]
            rw [← hg k hk1]
            simpa using hCg k hk
          · rw [if_neg hk1, List.append_assoc, List.getElem?_append_right (by omega), htl]
            by_cases hk2 : k < xs.length + m
            · rw [if_pos hk2, List.getElem?_append_left (by simp; omega), map_get _ _ (by omega)]
            · rw [if_neg hk2, List.getElem?_append_right (by simp; omega), List.getElem?_drop, List.length_map, hl]
              rw [show xs.length + m + (k - xs.length - m) = k by omega]
              simpa using hCg k hk
      · rw [List.length_append] at hk
        rw [getD_app]
        simp only
        by_cases hk1 : k < xs.length
        · rw [if_pos hk1, if_pos hk1]
        · rw [if_neg hk1, if_neg hk1, if_pos (by omega)]
    · have holds : ∀ j u, (xs.map fun c : Nat => Value.int .u8 (c : Int))[j]? = some u → w.cell? ((⟨b, 0, none⟩ : Addr).add j) = some u := by
        intro j u hj
        have hlt : j < xs.length := by have := (List.getElem?_eq_some_iff.1 hj).1; simpa using this
        rw [map_get _ _ hlt] at hj
        rw [Addr.add_lit, Nat.zero_add, Bk.cell (n := cap) (t := 5) (g := g) ⟨C, hC, hCs, hCg⟩ (k := j) (by omega), hg j hlt]
        exact hj
      have hr := run_append_grow (P := Tryd.prog) w 22 ty 5 i (.int .u8 0) und22 hi hz ⟨b, 0, none⟩ xs.length cap (xs.map fun c : Nat => Value.int .u8 (c : Int)) (by rw [hsz, List.length_map, Nat.mul_one]) holds a m c2 _ hl' hnews (by omega) (by omega) (growslice_fits (by omega) (by rw [hby]; omega))
      have hge := grownCap_ge w (xs.length + m) cap 5
      refine ⟨_, _, hr, ?_, ((Kp.refl _ w).drew.alloc _), fun k hk => ?_⟩
      · have := grownNew (w := w) (xs := xs) (ys := ys) (cap := grownCap w (xs.length + m) cap 5) (Z := Builtin.zeroCells (Value.int .u8 0).cells (grownCap w (xs.length + m) cap 5 - (xs.length + m))) rfl (by simp [Builtin.zeroCells, Value.cells]; omega) (by omega) (grownCap_le_maxLen w (xs.length + m) cap 5 hmx)
        rw [hl] at this
        exact this
      · simp only [Value.ownBlock, Option.some.injEq] at hk
        exact .inr (by omega)
/-- A slice of bytes that came in: nothing is asked of its block. -/
def Ag (w : World) (v : Value) (xs : List Nat) : Prop := ∃ a c, v = .slice a xs.length c ∧ ∀ j, j < xs.length → ∃ ad, a = some ad ∧ w.cell? (ad.add j) = some (.int .u8 (xs.getD j 0))
theorem Ag.kp {w w' : World} {v : Value} {xs : List Nat} (h : Ag w v xs) (k : Kp [] w w') : Ag w' v xs := by
  obtain ⟨a, c, h1, h2⟩ := h
  refine ⟨a, c, h1, fun j hj => ?_⟩
  obtain ⟨ad, h3, h4⟩ := h2 j hj
  exact ⟨ad, h3, k.cell h4 (by simp)⟩
theorem Sl.ag {w : World} {v : Value} {xs : List Nat} (h : Sl w v xs) : Ag w v xs := by
  rcases h with ⟨rfl, rfl⟩ | ⟨b, cap, g, rfl, h2, h3, h4, h5⟩
  · exact ⟨none, 0, rfl, fun j hj => by simp at hj⟩
  · refine ⟨_, _, rfl, fun j hj => ⟨_, rfl, ?_⟩⟩
    rw [Addr.add_lit, Nat.zero_add, h2.cell (by omega), h5 j hj]
/-- Where nothing is appended. -/
theorem ap_run0 (w : World) (ty : TypeId) {v : Value} {xs : List Nat} {a : Option Addr} {c : Nat} (hS : Sl w v xs) : (Builtin.append_ #[22, 22] ty #[v, .slice a 0 c]).run Tryd.prog w = .ok v w := by
  obtain ⟨i, hi, hz, hsz, hby⟩ := info5
  rcases hS with ⟨rfl, rfl⟩ | ⟨b, cap, g, rfl, hB, hxc, hcm, hg⟩
  · cases a <;> simp [Builtin.append_, run_underlying und22, sizeOf, typeInfo, hi, Builtin.lenOf, Builtin.firstCells, loadCells, loadCellsFrom]
  · cases a <;> simp [Builtin.append_, run_underlying und22, sizeOf, typeInfo, hi, Builtin.lenOf, Builtin.firstCells, loadCells, loadCellsFrom, hxc, storeCells]
section
variable {ops : Array Oper} {Q : Exit → Act → World → Prop} {N : Nat} {L : List (Nat × Value)} {B : Nat → Value} {w : World} {rest : List Oper} {dd : Nat} {ty : TypeId} {pos : String} {af : Array Edge} {x y : Operand}
theorem Lap {v : Value} {xs ys : List Nat} {b2 o2 m c2 n2 : Nat} {t2 : TypeId} {g2 : Nat → Value} (hx : ev N (fl L B) x = v) (hy : ev N (fl L B) y = .slice (some ⟨b2, o2, none⟩) m c2) (hS : Sl w v xs) (hB2 : Bk w b2 n2 t2 g2) (hl : ys.length = m) (h2 : o2 + m ≤ n2) (hys : ∀ j, j < m → g2 (o2 + j) = .int .u8 (ys.getD j 0)) (hmax : xs.length + m ≤ 140737488355328)
    (K : ∀ v' w1, Sl w1 v' (xs ++ ys) → Kp (obk v) w w1 → (∀ k, v'.ownBlock = some k → v.ownBlock = some k ∨ w.heap.size ≤ k) → wpList Tryd.prog ops Q rest (fr N (fl ((dd, v') :: L) B)) w1) :
    wpList Tryd.prog ops Q (⟨some dd, .call ⟨.builtin .append, #[x, y], #[22, 22]⟩, ty, pos, af, none⟩ :: rest) (fr N (fl L B)) w := by
  obtain ⟨v', w1, hr, h3, h4, h5⟩ := ap_run w ty (a := ⟨b2, o2, none⟩) (c2 := c2) hS hl (fun j hj => by rw [Addr.add_lit, hB2.cell (k := o2 + j) (by omega), hys j hj]) hmax
  refine L1 (v := v') (w' := w1) ?_ (K v' w1 h3 h4 h5)
  simp [execOp, resolve, invoke, builtin, hx, hy, hr]
theorem Lapg {v u : Value} {xs ys : List Nat} (hx : ev N (fl L B) x = v) (hy : ev N (fl L B) y = u) (hS : Sl w v xs) (hA : Ag w u ys) (hmax : xs.length + ys.length ≤ 140737488355328)
    (K : ∀ v' w1, Sl w1 v' (xs ++ ys) → Kp (obk v) w w1 → (∀ k, v'.ownBlock = some k → v.ownBlock = some k ∨ w.heap.size ≤ k) → wpList Tryd.prog ops Q rest (fr N (fl ((dd, v') :: L) B)) w1) :
    wpList Tryd.prog ops Q (⟨some dd, .call ⟨.builtin .append, #[x, y], #[22, 22]⟩, ty, pos, af, none⟩ :: rest) (fr N (fl L B)) w := by
  obtain ⟨a, c, rfl, hA⟩ := hA
  by_cases h0 : ys.length = 0
  · have hys : ys = [] := List.eq_nil_of_length_eq_zero h0
    subst hys
    refine L1 (v := v) (w' := w) ?_ (K v w (by simpa using hS) (Kp.refl _ _) (fun k hk => .inl hk))
    have hr := ap_run0 w ty (a := a) (c := c) hS
    simp [execOp, resolve, invoke, builtin, hx, hy, hr]
  · obtain ⟨ad, rfl, _⟩ := hA 0 (by omega)
    obtain ⟨v', w1, hr, h3, h4, h5⟩ := ap_run w ty (a := ad) (c2 := c) hS rfl (fun j hj => by obtain ⟨ad', he, h⟩ := hA j hj; cases he; exact h) hmax
    refine L1 (v := v') (w' := w1) ?_ (K v' w1 h3 h4 h5)
    simp [execOp, resolve, invoke, builtin, hx, hy, hr]
theorem Lap0 {v : Value} {xs : List Nat} {a : Option Addr} {c : Nat} (hx : ev N (fl L B) x = v) (hy : ev N (fl L B) y = .slice a 0 c) (hS : Sl w v xs) (K : wpList Tryd.prog ops Q rest (fr N (fl ((dd, v) :: L) B)) w) :
    wpList Tryd.prog ops Q (⟨some dd, .call ⟨.builtin .append, #[x, y], #[22, 22]⟩, ty, pos, af, none⟩ :: rest) (fr N (fl L B)) w := by
  refine L1 (v := v) (w' := w) ?_ K
  have hr := ap_run0 w ty (a := a) (c := c) hS
  simp [execOp, resolve, invoke, builtin, hx, hy, hr]
/-- A new slice of n zero bytes. -/
theorem Lmk {n : Nat} {i : Int} (hx : ev N (fl L B) x = .int .i64 i) (hi : i = (n : Int)) (hn : n ≤ 1000000)
    (K : ∀ X w1, w.heap.size = X → Bk w1 X n 5 (fun _ => .int .u8 0) → Kp [] w w1 → w1.heap.size = X + 1 → wpList Tryd.prog ops Q rest (fr N (fl ((dd, .slice (some ⟨X, 0, none⟩) n n) :: L) B)) w1) :
    wpList Tryd.prog ops Q (⟨some dd, .makeSlice 22 x x, ty, pos, af, none⟩ :: rest) (fr N (fl L B)) w := by
  subst hi
  have hr := run_make_row' (P := Tryd.prog) 22 5 (.int .u8 0) 1 und22 (by kernel_rfl) rfl .i64 .i64 n (by omega) (by omega) w
  refine L1 (v := .slice (some ⟨w.heap.size, 0, none⟩) n n) (w' := w.alloc (.cells (madeCells #[.int .u8 0] n) 5)) ?_ (K _ _ rfl ?_ ((Kp.refl [] w).alloc _) (by simp))
  · simp [execOp, hx, hr]
  · obtain ⟨C, h1, h2, h3⟩ := World.rowIs_made w (.int .u8 0) n 5
    exact ⟨C, h1, h2, h3⟩
end
end Go.Proofs.YtejeloeaklpinaaDoor

/- A reader laid anew. Its walks are printed by gen/g_new.py. -/
namespace Go.Proofs.YtejeloeaklpinaaDoor
attribute [local irreducible] wpList wpStill wpMix Code.wp Calls fr

theorem copied_c (w : World) (v : Value) (xs : List Nat) (hA : Ag w v xs) (hn : xs.length ≤ 140737488355328) :
    Ret 15 [v] w fun v' w' => Sl w' v' xs ∧ Kp [] w w' ∧ ∀ k, v'.ownBlock = some k → w.heap.size ≤ k := by
  refine calls_fr (N := 5) Tryd.func15 rfl rfl (by simp) rfl ?_
  refine wp_seq ?_
  -- region 0
  refine reg_lit ?_
  refine L1 (asg (v := .slice _ _ _) rfl) ?_
  refine wpList_nil ?_
  refine then_n ?_
  refine wp_seq ?_
  -- region 1
  refine reg_lit ?_
  refine L1 (mv (v := v) rfl) ?_
  refine Lapg (v := .slice none 0 0) rfl rfl (Sl.nil w) hA (by simpa using hn) ?_
  intro v' w1 hS kp hown
  refine L1 (asg (v := v') rfl) ?_
  refine wpList_nil ?_
  refine then_n ?_
  refine wp_ret ?_
  refine ret1 rfl rfl ?_
  exact ⟨v', rfl, by simpa using hS, kp.mono (by simp [obk, Value.ownBlock]), fun k hk => (hown k hk).elim (fun h => by cases h) id⟩
theorem newReader_c (w : World) (a : Option Addr) (n c : Nat) :
    Ret 14 [.slice a n c] w fun v' w' => v' = .pointer (some ⟨w.heap.size, 0, none⟩) ∧ Bk w' w.heap.size 3 70 (fun k => if k = 0 then .slice a n c else if k = 1 then .int .i64 0 else .int .i64 (-1)) ∧ Kp [] w w' ∧ w'.heap.size = w.heap.size + 1 := by
  refine calls_fr (N := 6) Tryd.func14 rfl rfl (by simp) rfl ?_
  refine wp_seq ?_
  -- region 0
  refine reg_lit ?_
  refine L1 (asg (v := .pointer _) rfl) ?_
  refine wpList_nil ?_
  refine then_n ?_
  refine wp_seq ?_
  -- region 1
  refine reg_lit ?_
  refine L1 (mv (v := .slice _ _ _) rfl) ?_
  refine L1 (bd70 rfl rfl rfl) ?_
  refine L1 (bx70 rfl) ?_
  refine L1 (asg (v := .pointer _) rfl) ?_
  refine wpList_nil ?_
  refine then_n ?_
  refine wp_ret ?_
  refine ret1 rfl rfl ?_
  refine ⟨_, rfl, rfl, ?_, (Kp.refl [] w).alloc _, by simp⟩
  exact Bk.newOf w _ 70 3 (fun k => if k = 0 then .slice a n c else if k = 1 then .int .i64 0 else .int .i64 (-1)) rfl
theorem makeReader_c (w : World) (F R : Nat) (g : Nat → Value) (hF : Bk w F 1054 95 g) :
    Ret 34 [.pointer (some ⟨F, 0, none⟩), .iface 43 (.pointer (some ⟨R, 0, none⟩))] w fun v w' => v = .tuple #[] ∧ Bk w' F 1054 95 (upd (upd g 1 (.pointer none)) 0 (.iface 43 (.pointer (some ⟨R, 0, none⟩)))) ∧ Kp [F] w w' := by
  have kp := Kp.refl [F] w
  refine calls_fr (N := 43) Tryd.func34 rfl rfl (by simp) rfl ?_
  refine wp_seq ?_
  refine wp_seq ?_
  -- region 0
  refine reg_lit ?_
  refine L1 (mv (v := .iface _ _) rfl) ?_
  refine L1 (ta80 rfl) ?_
  refine L1 (mv (v := .tuple _) rfl) ?_
  refine L1 (ext2_0 rfl) ?_
  refine L1 (ext2_1 rfl) ?_
  refine L1 (asg (v := .iface _ _) rfl) ?_
  refine L1 (asg (v := .bool _) rfl) ?_
  refine wpList_nil ?_
  refine then_n ?_
  refine wp_seq ?_
  -- region 1
  refine reg_lit ?_
  refine L1 (mv (v := .bool _) rfl) ?_
  refine wpList_nil ?_
  refine then_n ?_
  refine cond_t rfl ?_
  refine wp_seq ?_
  -- region 2
  refine reg_lit ?_
  refine L1 (mv (v := .pointer _) rfl) ?_
  refine L1 (nilP rfl) ?_
  refine L1 (fa95_1 rfl) ?_
  refine Lst81 (v := .pointer _) rfl rfl rfl hF (by decide) ?_
  intro w1 hF kp1
  have kp := kp.trans kp1
  clear kp1
  refine wpList_nil ?_
  refine then_n ?_
  refine wp_seq ?_
  -- region 3
  refine reg_lit ?_
  refine L1 (mv (v := .pointer _) rfl) ?_
  refine L1 (mv (v := .iface _ _) rfl) ?_
  refine L1 (nilP rfl) ?_
  refine L1 (fa95_0 rfl) ?_
  refine Lst80 (v := .iface _ _) rfl rfl rfl hF (by decide) ?_
  intro w1 hF kp1
  have kp := kp.trans kp1
  clear kp1
  refine wpList_nil ?_
  refine then_n ?_
  refine wp_ret ?_
  refine then_r ?_
  refine ret0 rfl ?_
  exact ⟨_, rfl, rfl, hF, kp⟩
/-- What init leaves: the last bytes of the dictionary in the window. -/
def InitP (F H : Nat) (w' : World) (g : Nat → Value) (xs : List Nat) : Prop :=
  ∃ g' hs, Bk w' F 1054 95 g' ∧ Bk w' H 32768 5 hs ∧ Off [1037, 1038, 1039, 1040] g g' ∧ g' 1037 = .slice (some ⟨H, 0, none⟩) 32768 32768 ∧
    g' 1038 = .int .i64 ((min xs.length 32768 % 32768 : Nat) : Int) ∧ g' 1039 = .int .i64 ((min xs.length 32768 % 32768 : Nat) : Int) ∧ g' 1040 = .bool (decide (32768 ≤ xs.length)) ∧
    (∀ k, k < 32768 → ∃ c : Nat, c < 256 ∧ hs k = .int .u8 c) ∧ ∀ j, j < min xs.length 32768 → hs j = .int .u8 (xs.getD (xs.length - min xs.length 32768 + j) 0)
theorem initP_mk {F H : Nat} {w' : World} {g g' hs : Nat → Value} {xs : List Nat} {dg : Nat → Value} {o n : Nat} (hn : n = min xs.length 32768) (ho : o = xs.length - n) (hF : Bk w' F 1054 95 g') (hH : Bk w' H 32768 5 (cpg hs dg 0 o n)) (ho' : Off [1037, 1038, 1039, 1040] g g')
    (h1 : g' 1037 = .slice (some ⟨H, 0, none⟩) 32768 32768) (h2 : g' 1038 = .int .i64 ((n % 32768 : Nat) : Int)) (h3 : g' 1039 = .int .i64 ((n % 32768 : Nat) : Int)) (h4 : g' 1040 = .bool (decide (32768 ≤ xs.length)))
    (hb : ∀ k, k < 32768 → ∃ c : Nat, c < 256 ∧ hs k = .int .u8 c) (hx : ∀ x ∈ xs, x < 256) (hd : ∀ k, k < xs.length → dg k = .int .u8 (xs.getD k 0)) : InitP F H w' g xs := by
  subst hn ho
  refine ⟨g', _, hF, hH, ho', h1, h2, h3, h4, fun k hk => ?_, fun j hj => ?_⟩
  · unfold cpg
    split
    · rename_i hh
      have hlt : xs.length - min xs.length 32768 + (k - 0) < xs.length := by omega
      refine ⟨xs.getD (xs.length - min xs.length 32768 + (k - 0)) 0, ?_, hd _ hlt⟩
      rw [List.getD_eq_getElem?_getD, List.getElem?_eq_getElem hlt]
      exact hx _ (List.getElem_mem hlt)
    · exact hb k hk
  · unfold cpg
    rw [if_pos (by omega), hd _ (by omega), Nat.sub_zero]
theorem init_n_none (w : World) (F : Nat) (g : Nat → Value) (hF : Bk w F 1054 95 g) (h37 : g 1037 = .slice none 0 0) (da : Option Addr) (dc : Nat) :
    Ret 36 [.pointer (some ⟨F, 1037, none⟩), .int .i64 32768, .slice da 0 dc] w fun v w' => v = .tuple #[] ∧ ∃ H, w.heap.size ≤ H ∧ InitP F H w' g [] ∧ Kp [F] w w' := by
  have kp := Kp.refl [F] w
  have hFlt := hF.lt
  refine calls_fr (N := 84) Tryd.func36 rfl rfl (by simp) rfl ?_
  refine wp_seq ?_
  -- region 0
  refine reg_lit ?_
  refine L1 (mv (v := .pointer _) rfl) ?_
  refine L1 (mv (v := .pointer _) rfl) ?_
  refine L1 (nilP rfl) ?_
  refine L1 (fd90_0 rfl) ?_
  refine L1 (ld22 rfl (hF.cellv (by decide) h37)) ?_
  refine L1 (bd90 rfl) ?_
  refine L1 (nilP rfl) ?_
  refine Lst90 rfl rfl ⟨rfl, rfl, rfl, rfl⟩ hF (by decide) ?_
  intro w1 hF kp1
  have kp := kp.trans (kp1.mono (by simp))
  clear kp1
  refine wpList_nil ?_
  refine then_n ?_
  refine wp_seq ?_
  refine wp_seq ?_
  -- region 1
  refine reg_lit ?_
  refine L1 (mv (v := .pointer _) rfl) ?_
  refine L1 (nilP rfl) ?_
  refine L1 (fd90_0 rfl) ?_
  refine L1 (ld22 rfl (hF.cellv (v := .slice _ _ _) (by decide) rfl)) ?_
  refine L1 (cp und22 rfl) ?_
  refine L1 (mv (v := .int _ _) rfl) ?_
  refine L1 (bi rfl rfl (bn_lss (v := true) (decide_eq_true (by omega)))) ?_
  refine wpList_nil ?_
  refine then_n ?_
  refine cond_t rfl ?_
  -- region 2
  refine reg_lit ?_
  refine L1 (mv (v := .pointer _) rfl) ?_
  refine L1 (mv (v := .int _ _) rfl) ?_
  refine Lmk (n := 32768) rfl rfl (by decide) ?_
  intro H w1 hHe hH kp1 hsz
  have hle0 := kp.size
  have hFH : F ≠ H := by omega
  have hF := hF.kp kp1 (by simp)
  have kp := kp.trans (kp1.mono (by simp))
  clear kp1
  refine L1 (nilP rfl) ?_
  refine L1 (fd90_0 rfl) ?_
  refine Lst22 (v := .slice _ _ _) rfl rfl rfl hF (by decide) ?_
  intro w1 hF kp1
  have hH := hH.kp kp1 (by simp; exact fun e => hFH e.symm)
  have kp := kp.trans (kp1.mono (by simp))
  clear kp1
  refine wpList_nil ?_
  refine then_n ?_
  refine wp_seq ?_
  -- region 3
  refine reg_lit ?_
  refine L1 (mv (v := .pointer _) rfl) ?_
  refine L1 (mv (v := .pointer _) rfl) ?_
  refine L1 (nilP rfl) ?_
  refine L1 (fd90_0 rfl) ?_
  refine L1 (ld22 rfl (hF.cellv (v := .slice _ _ _) (by decide) rfl)) ?_
  refine L1 (mv (v := .int _ _) rfl) ?_
  refine L1 (sl_h und22 sz5 rfl rfl (h := 32768) rfl (by omega)) ?_
  refine L1 (nilP rfl) ?_
  refine L1 (fd90_0 rfl) ?_
  refine Lst22 (v := .slice _ _ _) rfl rfl rfl hF (by decide) ?_
  intro w1 hF kp1
  have hH := hH.kp kp1 (by simp; exact fun e => hFH e.symm)
  have kp := kp.trans (kp1.mono (by simp))
  clear kp1
  refine wpList_nil ?_
  refine then_n ?_
  refine wp_seq ?_
  refine wp_seq ?_
  -- region 4
  refine reg_lit ?_
  refine L1 (mv (v := .slice _ _ _) rfl) ?_
  refine L1 (ln und22 rfl) ?_
  refine L1 (mv (v := .pointer _) rfl) ?_
  refine L1 (nilP rfl) ?_
  refine L1 (fd90_0 rfl) ?_
  refine L1 (ld22 rfl (hF.cellv (v := .slice _ _ _) (by decide) rfl)) ?_
  refine L1 (ln und22 rfl) ?_
  refine L1 (bi rfl rfl (bn_gtr (v := false) (decide_eq_false (by omega)))) ?_
  refine wpList_nil ?_
  refine then_n ?_
  refine cond_f rfl ?_
  refine wp_skip ?_
  refine then_n ?_
  refine wp_seq ?_
  -- region 6
  refine reg_lit ?_
  refine L1 (mv (v := .pointer _) rfl) ?_
  refine L1 (mv (v := .pointer _) rfl) ?_
  refine L1 (nilP rfl) ?_
  refine L1 (fd90_0 rfl) ?_
  refine L1 (ld22 rfl (hF.cellv (v := .slice _ _ _) (by decide) rfl)) ?_
  refine L1 (mv (v := .slice _ _ _) rfl) ?_
  refine L1 (run_cp0 rfl rfl (by simp)) ?_
  refine L1 (nilP rfl) ?_
  refine L1 (fd90_1 rfl) ?_
  refine Lst3 (v := .int _ _) rfl rfl rfl hF (by decide) ?_
  intro w1 hF kp1
  have hH := hH.kp kp1 (by simp; exact fun e => hFH e.symm)
  have kp := kp.trans (kp1.mono (by simp))
  clear kp1
  refine wpList_nil ?_
  refine then_n ?_
  refine wp_seq ?_
  refine wp_seq ?_
  -- region 7 (its order is open)
  refine reg_still mixed (by kernel_rfl) ?_
  have hF := hF.drew
  have hH := hH.drew
  have kp := kp.drew
  refine S1 (mv (v := .pointer _) rfl) ?_
  refine S1 (nilP rfl) ?_
  refine S1 (fd90_1 rfl) ?_
  refine S1 (ld3 rfl (hF.cellv (v := .int _ _) (by decide) rfl)) ?_
  refine S1 (mv (v := .pointer _) rfl) ?_
  refine S1 (nilP rfl) ?_
  refine S1 (fd90_0 rfl) ?_
  refine S1 (ld22 rfl (hF.cellv (v := .slice _ _ _) (by decide) rfl)) ?_
  refine S1 (ln und22 rfl) ?_
  refine S1 (bi rfl rfl (bn_eql (v := false) (decide_eq_false (by omega)))) ?_
  refine still_nil ?_
  refine then_n ?_
  refine cond_f rfl ?_
  refine wp_skip ?_
  refine then_n ?_
  -- region 10
  refine reg_lit ?_
  refine L1 (mv (v := .pointer _) rfl) ?_
  refine L1 (mv (v := .pointer _) rfl) ?_
  refine L1 (nilP rfl) ?_
  refine L1 (fd90_1 rfl) ?_
  refine L1 (ld3 rfl (hF.cellv (v := .int _ _) (by decide) rfl)) ?_
  refine L1 (nilP rfl) ?_
  refine L1 (fd90_2 rfl) ?_
  refine Lst3 (v := .int _ _) rfl rfl rfl hF (by decide) ?_
  intro w1 hF kp1
  have hH := hH.kp kp1 (by simp; exact fun e => hFH e.symm)
  have kp := kp.trans (kp1.mono (by simp))
  clear kp1
  refine wpList_nil ?_
  refine end0 rfl ?_
  refine ⟨_, rfl, rfl, H, by omega, ?_, kp⟩
  refine ⟨_, _, hF, hH, by repeat (first | exact Off.refl _ _ | refine Off.upd ?_ (by decide) _), rfl, rfl, rfl, rfl, (fun _ _ => ⟨0, by decide, rfl⟩), fun j hj => by simp at hj⟩
theorem init_n_small (w : World) (F : Nat) (g : Nat → Value) (hF : Bk w F 1054 95 g) (h37 : g 1037 = .slice none 0 0) (xs : List Nat) (Db dc dn : Nat) (dg : Nat → Value) (hD : Bk w Db dn 5 dg) (hDF : Db ≠ F) (hdn : xs.length ≤ dn) (hdc : xs.length ≤ dc) (hx : ∀ x ∈ xs, x < 256) (hdg : ∀ k, k < xs.length → dg k = .int .u8 (xs.getD k 0)) (h47 : xs.length ≤ 140737488355328) (hlen : xs.length < 32768) :
    Ret 36 [.pointer (some ⟨F, 1037, none⟩), .int .i64 32768, .slice (some ⟨Db, 0, none⟩) xs.length dc] w fun v w' => v = .tuple #[] ∧ ∃ H, w.heap.size ≤ H ∧ InitP F H w' g xs ∧ Kp [F] w w' := by
  have kp := Kp.refl [F] w
  have hFlt := hF.lt
  have hDlt := hD.lt
  refine calls_fr (N := 84) Tryd.func36 rfl rfl (by simp) rfl ?_
  refine wp_seq ?_
  -- region 0
  refine reg_lit ?_
  refine L1 (mv (v := .pointer _) rfl) ?_
  refine L1 (mv (v := .pointer _) rfl) ?_
  refine L1 (nilP rfl) ?_
  refine L1 (fd90_0 rfl) ?_
  refine L1 (ld22 rfl (hF.cellv (by decide) h37)) ?_
  refine L1 (bd90 rfl) ?_
  refine L1 (nilP rfl) ?_
  refine Lst90 rfl rfl ⟨rfl, rfl, rfl, rfl⟩ hF (by decide) ?_
  intro w1 hF kp1
  have hD := hD.kp kp1 (by simp; exact hDF)
  have kp := kp.trans (kp1.mono (by simp))
  clear kp1
  refine wpList_nil ?_
  refine then_n ?_
  refine wp_seq ?_
  refine wp_seq ?_
  -- region 1
  refine reg_lit ?_
  refine L1 (mv (v := .pointer _) rfl) ?_
  refine L1 (nilP rfl) ?_
  refine L1 (fd90_0 rfl) ?_
  refine L1 (ld22 rfl (hF.cellv (v := .slice _ _ _) (by decide) rfl)) ?_
  refine L1 (cp und22 rfl) ?_
  refine L1 (mv (v := .int _ _) rfl) ?_
  refine L1 (bi rfl rfl (bn_lss (v := true) (decide_eq_true (by omega)))) ?_
  refine wpList_nil ?_
  refine then_n ?_
  refine cond_t rfl ?_
  -- region 2
  refine reg_lit ?_
  refine L1 (mv (v := .pointer _) rfl) ?_
  refine L1 (mv (v := .int _ _) rfl) ?_
  refine Lmk (n := 32768) rfl rfl (by decide) ?_
  intro H w1 hHe hH kp1 hsz
  have hle0 := kp.size
  have hFH : F ≠ H := by omega
  have hF := hF.kp kp1 (by simp)
  have hD := hD.kp kp1 (by simp)
  have hDH : Db ≠ H := by omega
  have kp := kp.trans (kp1.mono (by simp))
  clear kp1
  refine L1 (nilP rfl) ?_
  refine L1 (fd90_0 rfl) ?_
  refine Lst22 (v := .slice _ _ _) rfl rfl rfl hF (by decide) ?_
  intro w1 hF kp1
  have hH := hH.kp kp1 (by simp; exact fun e => hFH e.symm)
  have hD := hD.kp kp1 (by simp; exact hDF)
  have kp := kp.trans (kp1.mono (by simp))
  clear kp1
  refine wpList_nil ?_
  refine then_n ?_
  refine wp_seq ?_
  -- region 3
  refine reg_lit ?_
  refine L1 (mv (v := .pointer _) rfl) ?_
  refine L1 (mv (v := .pointer _) rfl) ?_
  refine L1 (nilP rfl) ?_
  refine L1 (fd90_0 rfl) ?_
  refine L1 (ld22 rfl (hF.cellv (v := .slice _ _ _) (by decide) rfl)) ?_
  refine L1 (mv (v := .int _ _) rfl) ?_
  refine L1 (sl_h und22 sz5 rfl rfl (h := 32768) rfl (by omega)) ?_
  refine L1 (nilP rfl) ?_
  refine L1 (fd90_0 rfl) ?_
  refine Lst22 (v := .slice _ _ _) rfl rfl rfl hF (by decide) ?_
  intro w1 hF kp1
  have hH := hH.kp kp1 (by simp; exact fun e => hFH e.symm)
  have hD := hD.kp kp1 (by simp; exact hDF)
  have kp := kp.trans (kp1.mono (by simp))
  clear kp1
  refine wpList_nil ?_
  refine then_n ?_
  refine wp_seq ?_
  refine wp_seq ?_
  -- region 4
  refine reg_lit ?_
  refine L1 (mv (v := .slice _ _ _) rfl) ?_
  refine L1 (ln und22 rfl) ?_
  refine L1 (mv (v := .pointer _) rfl) ?_
  refine L1 (nilP rfl) ?_
  refine L1 (fd90_0 rfl) ?_
  refine L1 (ld22 rfl (hF.cellv (v := .slice _ _ _) (by decide) rfl)) ?_
  refine L1 (ln und22 rfl) ?_
  refine L1 (bi rfl rfl (bn_gtr (v := false) (decide_eq_false (by omega)))) ?_
  refine wpList_nil ?_
  refine then_n ?_
  refine cond_f rfl ?_
  refine wp_skip ?_
  refine then_n ?_
  refine wp_seq ?_
  -- region 6
  refine reg_lit ?_
  refine L1 (mv (v := .pointer _) rfl) ?_
  refine L1 (mv (v := .pointer _) rfl) ?_
  refine L1 (nilP rfl) ?_
  refine L1 (fd90_0 rfl) ?_
  refine L1 (ld22 rfl (hF.cellv (v := .slice _ _ _) (by decide) rfl)) ?_
  refine L1 (mv (v := .slice _ _ _) rfl) ?_
  refine Lcp rfl rfl hH hD (by omega) (by omega) (fun j hj => by rw [hdg _ (by omega)]; rfl) ?_
  rw [show min xs.length 32768 = xs.length by omega]
  intro w1 hH kp1
  have hF := hF.kp kp1 (by simp; exact hFH)
  have hD := hD.kp kp1 (by simp; exact hDH)
  have kp := kp.transNew kp1 (by simp; omega)
  clear kp1
  refine L1 (nilP rfl) ?_
  refine L1 (fd90_1 rfl) ?_
  refine Lst3 (v := .int _ _) rfl rfl rfl hF (by decide) ?_
  intro w1 hF kp1
  have hH := hH.kp kp1 (by simp; exact fun e => hFH e.symm)
  have hD := hD.kp kp1 (by simp; exact hDF)
  have kp := kp.trans (kp1.mono (by simp))
  clear kp1
  refine wpList_nil ?_
  refine then_n ?_
  refine wp_seq ?_
  refine wp_seq ?_
  -- region 7 (its order is open)
  refine reg_still mixed (by kernel_rfl) ?_
  have hF := hF.drew
  have hH := hH.drew
  have kp := kp.drew
  have hD := hD.drew
  refine S1 (mv (v := .pointer _) rfl) ?_
  refine S1 (nilP rfl) ?_
  refine S1 (fd90_1 rfl) ?_
  refine S1 (ld3 rfl (hF.cellv (v := .int _ _) (by decide) rfl)) ?_
  refine S1 (mv (v := .pointer _) rfl) ?_
  refine S1 (nilP rfl) ?_
  refine S1 (fd90_0 rfl) ?_
  refine S1 (ld22 rfl (hF.cellv (v := .slice _ _ _) (by decide) rfl)) ?_
  refine S1 (ln und22 rfl) ?_
  refine S1 (bi rfl rfl (bn_eql (v := false) (decide_eq_false (by omega)))) ?_
  refine still_nil ?_
  refine then_n ?_
  refine cond_f rfl ?_
  refine wp_skip ?_
  refine then_n ?_
  -- region 10
  refine reg_lit ?_
  refine L1 (mv (v := .pointer _) rfl) ?_
  refine L1 (mv (v := .pointer _) rfl) ?_
  refine L1 (nilP rfl) ?_
  refine L1 (fd90_1 rfl) ?_
  refine L1 (ld3 rfl (hF.cellv (v := .int _ _) (by decide) rfl)) ?_
  refine L1 (nilP rfl) ?_
  refine L1 (fd90_2 rfl) ?_
  refine Lst3 (v := .int _ _) rfl rfl rfl hF (by decide) ?_
  intro w1 hF kp1
  have hH := hH.kp kp1 (by simp; exact fun e => hFH e.symm)
  have hD := hD.kp kp1 (by simp; exact hDF)
  have kp := kp.trans (kp1.mono (by simp))
  clear kp1
  refine wpList_nil ?_
  refine end0 rfl ?_
  refine ⟨_, rfl, rfl, H, by omega, ?_, kp⟩
  refine initP_mk (hs := (fun _ => .int .u8 0)) (dg := dg) (o := 0) (n := xs.length) (by omega) (by omega) hF hH (by repeat (first | exact Off.refl _ _ | refine Off.upd ?_ (by decide) _)) rfl ?_ ?_ ?_ (fun _ _ => ⟨0, by decide, rfl⟩) hx hdg
  · rw [Nat.mod_eq_of_lt (by omega)]; rfl
  · rw [Nat.mod_eq_of_lt (by omega)]; rfl
  · show Value.bool false = _
    rw [decide_eq_false (by omega)]
theorem init_n_exact (w : World) (F : Nat) (g : Nat → Value) (hF : Bk w F 1054 95 g) (h37 : g 1037 = .slice none 0 0) (xs : List Nat) (Db dc dn : Nat) (dg : Nat → Value) (hD : Bk w Db dn 5 dg) (hDF : Db ≠ F) (hdn : xs.length ≤ dn) (hdc : xs.length ≤ dc) (hx : ∀ x ∈ xs, x < 256) (hdg : ∀ k, k < xs.length → dg k = .int .u8 (xs.getD k 0)) (h47 : xs.length ≤ 140737488355328) (hlen : xs.length = 32768) :
    Ret 36 [.pointer (some ⟨F, 1037, none⟩), .int .i64 32768, .slice (some ⟨Db, 0, none⟩) xs.length dc] w fun v w' => v = .tuple #[] ∧ ∃ H, w.heap.size ≤ H ∧ InitP F H w' g xs ∧ Kp [F] w w' := by
  have kp := Kp.refl [F] w
  have hFlt := hF.lt
  have hDlt := hD.lt
  refine calls_fr (N := 84) Tryd.func36 rfl rfl (by simp) rfl ?_
  refine wp_seq ?_
  -- region 0
  refine reg_lit ?_
  refine L1 (mv (v := .pointer _) rfl) ?_
  refine L1 (mv (v := .pointer _) rfl) ?_
  refine L1 (nilP rfl) ?_
  refine L1 (fd90_0 rfl) ?_
  refine L1 (ld22 rfl (hF.cellv (by decide) h37)) ?_
  refine L1 (bd90 rfl) ?_
  refine L1 (nilP rfl) ?_
  refine Lst90 rfl rfl ⟨rfl, rfl, rfl, rfl⟩ hF (by decide) ?_
  intro w1 hF kp1
  have hD := hD.kp kp1 (by simp; exact hDF)
  have kp := kp.trans (kp1.mono (by simp))
  clear kp1
  refine wpList_nil ?_
  refine then_n ?_
  refine wp_seq ?_
  refine wp_seq ?_
  -- region 1
  refine reg_lit ?_
  refine L1 (mv (v := .pointer _) rfl) ?_
  refine L1 (nilP rfl) ?_
  refine L1 (fd90_0 rfl) ?_
  refine L1 (ld22 rfl (hF.cellv (v := .slice _ _ _) (by decide) rfl)) ?_
  refine L1 (cp und22 rfl) ?_
  refine L1 (mv (v := .int _ _) rfl) ?_
  refine L1 (bi rfl rfl (bn_lss (v := true) (decide_eq_true (by omega)))) ?_
  refine wpList_nil ?_
  refine then_n ?_
  refine cond_t rfl ?_
  -- region 2
  refine reg_lit ?_
  refine L1 (mv (v := .pointer _) rfl) ?_
  refine L1 (mv (v := .int _ _) rfl) ?_
  refine Lmk (n := 32768) rfl rfl (by decide) ?_
  intro H w1 hHe hH kp1 hsz
  have hle0 := kp.size
  have hFH : F ≠ H := by omega
  have hF := hF.kp kp1 (by simp)
  have hD := hD.kp kp1 (by simp)
  have hDH : Db ≠ H := by omega
  have kp := kp.trans (kp1.mono (by simp))
  clear kp1
  refine L1 (nilP rfl) ?_
  refine L1 (fd90_0 rfl) ?_
  refine Lst22 (v := .slice _ _ _) rfl rfl rfl hF (by decide) ?_
  intro w1 hF kp1
  have hH := hH.kp kp1 (by simp; exact fun e => hFH e.symm)
  have hD := hD.kp kp1 (by simp; exact hDF)
  have kp := kp.trans (kp1.mono (by simp))
  clear kp1
  refine wpList_nil ?_
  refine then_n ?_
  refine wp_seq ?_
  -- region 3
  refine reg_lit ?_
  refine L1 (mv (v := .pointer _) rfl) ?_
  refine L1 (mv (v := .pointer _) rfl) ?_
  refine L1 (nilP rfl) ?_
  refine L1 (fd90_0 rfl) ?_
  refine L1 (ld22 rfl (hF.cellv (v := .slice _ _ _) (by decide) rfl)) ?_
  refine L1 (mv (v := .int _ _) rfl) ?_
  refine L1 (sl_h und22 sz5 rfl rfl (h := 32768) rfl (by omega)) ?_
  refine L1 (nilP rfl) ?_
  refine L1 (fd90_0 rfl) ?_
  refine Lst22 (v := .slice _ _ _) rfl rfl rfl hF (by decide) ?_
  intro w1 hF kp1
  have hH := hH.kp kp1 (by simp; exact fun e => hFH e.symm)
  have hD := hD.kp kp1 (by simp; exact hDF)
  have kp := kp.trans (kp1.mono (by simp))
  clear kp1
  refine wpList_nil ?_
  refine then_n ?_
  refine wp_seq ?_
  refine wp_seq ?_
  -- region 4
  refine reg_lit ?_
  refine L1 (mv (v := .slice _ _ _) rfl) ?_
  refine L1 (ln und22 rfl) ?_
  refine L1 (mv (v := .pointer _) rfl) ?_
  refine L1 (nilP rfl) ?_
  refine L1 (fd90_0 rfl) ?_
  refine L1 (ld22 rfl (hF.cellv (v := .slice _ _ _) (by decide) rfl)) ?_
  refine L1 (ln und22 rfl) ?_
  refine L1 (bi rfl rfl (bn_gtr (v := false) (decide_eq_false (by omega)))) ?_
  refine wpList_nil ?_
  refine then_n ?_
  refine cond_f rfl ?_
  refine wp_skip ?_
  refine then_n ?_
  refine wp_seq ?_
  -- region 6
  refine reg_lit ?_
  refine L1 (mv (v := .pointer _) rfl) ?_
  refine L1 (mv (v := .pointer _) rfl) ?_
  refine L1 (nilP rfl) ?_
  refine L1 (fd90_0 rfl) ?_
  refine L1 (ld22 rfl (hF.cellv (v := .slice _ _ _) (by decide) rfl)) ?_
  refine L1 (mv (v := .slice _ _ _) rfl) ?_
  refine Lcp rfl rfl hH hD (by omega) (by omega) (fun j hj => by rw [hdg _ (by omega)]; rfl) ?_
  rw [show min xs.length 32768 = 32768 by omega]
  intro w1 hH kp1
  have hF := hF.kp kp1 (by simp; exact hFH)
  have hD := hD.kp kp1 (by simp; exact hDH)
  have kp := kp.transNew kp1 (by simp; omega)
  clear kp1
  refine L1 (nilP rfl) ?_
  refine L1 (fd90_1 rfl) ?_
  refine Lst3 (v := .int _ _) rfl rfl rfl hF (by decide) ?_
  intro w1 hF kp1
  have hH := hH.kp kp1 (by simp; exact fun e => hFH e.symm)
  have hD := hD.kp kp1 (by simp; exact hDF)
  have kp := kp.trans (kp1.mono (by simp))
  clear kp1
  refine wpList_nil ?_
  refine then_n ?_
  refine wp_seq ?_
  refine wp_seq ?_
  -- region 7 (its order is open)
  refine reg_still mixed (by kernel_rfl) ?_
  have hF := hF.drew
  have hH := hH.drew
  have kp := kp.drew
  have hD := hD.drew
  refine S1 (mv (v := .pointer _) rfl) ?_
  refine S1 (nilP rfl) ?_
  refine S1 (fd90_1 rfl) ?_
  refine S1 (ld3 rfl (hF.cellv (v := .int _ _) (by decide) rfl)) ?_
  refine S1 (mv (v := .pointer _) rfl) ?_
  refine S1 (nilP rfl) ?_
  refine S1 (fd90_0 rfl) ?_
  refine S1 (ld22 rfl (hF.cellv (v := .slice _ _ _) (by decide) rfl)) ?_
  refine S1 (ln und22 rfl) ?_
  refine S1 (bi rfl rfl (bn_eql (v := true) (decide_eq_true (by omega)))) ?_
  refine still_nil ?_
  refine then_n ?_
  refine cond_t rfl ?_
  refine wp_seq ?_
  -- region 8
  refine reg_lit ?_
  refine L1 (mv (v := .pointer _) rfl) ?_
  refine L1 (nilP rfl) ?_
  refine L1 (fd90_1 rfl) ?_
  refine Lst3 (v := .int _ _) rfl rfl rfl hF (by decide) ?_
  intro w1 hF kp1
  have hH := hH.kp kp1 (by simp; exact fun e => hFH e.symm)
  have hD := hD.kp kp1 (by simp; exact hDF)
  have kp := kp.trans (kp1.mono (by simp))
  clear kp1
  refine wpList_nil ?_
  refine then_n ?_
  -- region 9
  refine reg_lit ?_
  refine L1 (mv (v := .pointer _) rfl) ?_
  refine L1 (nilP rfl) ?_
  refine L1 (fd90_3 rfl) ?_
  refine Lst4 (v := .bool _) rfl rfl rfl hF (by decide) ?_
  intro w1 hF kp1
  have hH := hH.kp kp1 (by simp; exact fun e => hFH e.symm)
  have hD := hD.kp kp1 (by simp; exact hDF)
  have kp := kp.trans (kp1.mono (by simp))
  clear kp1
  refine wpList_nil ?_
  refine then_n ?_
  -- region 10
  refine reg_lit ?_
  refine L1 (mv (v := .pointer _) rfl) ?_
  refine L1 (mv (v := .pointer _) rfl) ?_
  refine L1 (nilP rfl) ?_
  refine L1 (fd90_1 rfl) ?_
  refine L1 (ld3 rfl (hF.cellv (v := .int _ _) (by decide) rfl)) ?_
  refine L1 (nilP rfl) ?_
  refine L1 (fd90_2 rfl) ?_
  refine Lst3 (v := .int _ _) rfl rfl rfl hF (by decide) ?_
  intro w1 hF kp1
  have hH := hH.kp kp1 (by simp; exact fun e => hFH e.symm)
  have hD := hD.kp kp1 (by simp; exact hDF)
  have kp := kp.trans (kp1.mono (by simp))
  clear kp1
  refine wpList_nil ?_
  refine end0 rfl ?_
  refine ⟨_, rfl, rfl, H, by omega, ?_, kp⟩
  refine initP_mk (hs := (fun _ => .int .u8 0)) (dg := dg) (o := 0) (n := 32768) (by omega) (by omega) hF hH (by repeat (first | exact Off.refl _ _ | refine Off.upd ?_ (by decide) _)) rfl ?_ ?_ ?_ (fun _ _ => ⟨0, by decide, rfl⟩) hx hdg
  · rfl
  · rfl
  · show Value.bool true = _
    rw [decide_eq_true (by omega)]
theorem init_n_great (w : World) (F : Nat) (g : Nat → Value) (hF : Bk w F 1054 95 g) (h37 : g 1037 = .slice none 0 0) (xs : List Nat) (Db dc dn : Nat) (dg : Nat → Value) (hD : Bk w Db dn 5 dg) (hDF : Db ≠ F) (hdn : xs.length ≤ dn) (hdc : xs.length ≤ dc) (hx : ∀ x ∈ xs, x < 256) (hdg : ∀ k, k < xs.length → dg k = .int .u8 (xs.getD k 0)) (h47 : xs.length ≤ 140737488355328) (hlen : 32768 < xs.length) :
    Ret 36 [.pointer (some ⟨F, 1037, none⟩), .int .i64 32768, .slice (some ⟨Db, 0, none⟩) xs.length dc] w fun v w' => v = .tuple #[] ∧ ∃ H, w.heap.size ≤ H ∧ InitP F H w' g xs ∧ Kp [F] w w' := by
  have kp := Kp.refl [F] w
  have hFlt := hF.lt
  have hDlt := hD.lt
  obtain ⟨oo, hoo⟩ : ∃ oo, xs.length = oo + 32768 := ⟨xs.length - 32768, by omega⟩
  have hlc : oo < dc := by omega
  have hle : oo ≤ xs.length := by omega
  refine calls_fr (N := 84) Tryd.func36 rfl rfl (by simp) rfl ?_
  refine wp_seq ?_
  -- region 0
  refine reg_lit ?_
  refine L1 (mv (v := .pointer _) rfl) ?_
  refine L1 (mv (v := .pointer _) rfl) ?_
  refine L1 (nilP rfl) ?_
  refine L1 (fd90_0 rfl) ?_
  refine L1 (ld22 rfl (hF.cellv (by decide) h37)) ?_
  refine L1 (bd90 rfl) ?_
  refine L1 (nilP rfl) ?_
  refine Lst90 rfl rfl ⟨rfl, rfl, rfl, rfl⟩ hF (by decide) ?_
  intro w1 hF kp1
  have hD := hD.kp kp1 (by simp; exact hDF)
  have kp := kp.trans (kp1.mono (by simp))
  clear kp1
  refine wpList_nil ?_
  refine then_n ?_
  refine wp_seq ?_
  refine wp_seq ?_
  -- region 1
  refine reg_lit ?_
  refine L1 (mv (v := .pointer _) rfl) ?_
  refine L1 (nilP rfl) ?_
  refine L1 (fd90_0 rfl) ?_
  refine L1 (ld22 rfl (hF.cellv (v := .slice _ _ _) (by decide) rfl)) ?_
  refine L1 (cp und22 rfl) ?_
  refine L1 (mv (v := .int _ _) rfl) ?_
  refine L1 (bi rfl rfl (bn_lss (v := true) (decide_eq_true (by omega)))) ?_
  refine wpList_nil ?_
  refine then_n ?_
  refine cond_t rfl ?_
  -- region 2
  refine reg_lit ?_
  refine L1 (mv (v := .pointer _) rfl) ?_
  refine L1 (mv (v := .int _ _) rfl) ?_
  refine Lmk (n := 32768) rfl rfl (by decide) ?_
  intro H w1 hHe hH kp1 hsz
  have hle0 := kp.size
  have hFH : F ≠ H := by omega
  have hF := hF.kp kp1 (by simp)
  have hD := hD.kp kp1 (by simp)
  have hDH : Db ≠ H := by omega
  have kp := kp.trans (kp1.mono (by simp))
  clear kp1
  refine L1 (nilP rfl) ?_
  refine L1 (fd90_0 rfl) ?_
  refine Lst22 (v := .slice _ _ _) rfl rfl rfl hF (by decide) ?_
  intro w1 hF kp1
  have hH := hH.kp kp1 (by simp; exact fun e => hFH e.symm)
  have hD := hD.kp kp1 (by simp; exact hDF)
  have kp := kp.trans (kp1.mono (by simp))
  clear kp1
  refine wpList_nil ?_
  refine then_n ?_
  refine wp_seq ?_
  -- region 3
  refine reg_lit ?_
  refine L1 (mv (v := .pointer _) rfl) ?_
  refine L1 (mv (v := .pointer _) rfl) ?_
  refine L1 (nilP rfl) ?_
  refine L1 (fd90_0 rfl) ?_
  refine L1 (ld22 rfl (hF.cellv (v := .slice _ _ _) (by decide) rfl)) ?_
  refine L1 (mv (v := .int _ _) rfl) ?_
  refine L1 (sl_h und22 sz5 rfl rfl (h := 32768) rfl (by omega)) ?_
  refine L1 (nilP rfl) ?_
  refine L1 (fd90_0 rfl) ?_
  refine Lst22 (v := .slice _ _ _) rfl rfl rfl hF (by decide) ?_
  intro w1 hF kp1
  have hH := hH.kp kp1 (by simp; exact fun e => hFH e.symm)
  have hD := hD.kp kp1 (by simp; exact hDF)
  have kp := kp.trans (kp1.mono (by simp))
  clear kp1
  refine wpList_nil ?_
  refine then_n ?_
  refine wp_seq ?_
  refine wp_seq ?_
  -- region 4
  refine reg_lit ?_
  refine L1 (mv (v := .slice _ _ _) rfl) ?_
  refine L1 (ln und22 rfl) ?_
  refine L1 (mv (v := .pointer _) rfl) ?_
  refine L1 (nilP rfl) ?_
  refine L1 (fd90_0 rfl) ?_
  refine L1 (ld22 rfl (hF.cellv (v := .slice _ _ _) (by decide) rfl)) ?_
  refine L1 (ln und22 rfl) ?_
  refine L1 (bi rfl rfl (bn_gtr (v := true) (decide_eq_true (by omega)))) ?_
  refine wpList_nil ?_
  refine then_n ?_
  refine cond_t rfl ?_
  -- region 5
  refine reg_lit ?_
  refine L1 (mv (v := .slice _ _ _) rfl) ?_
  refine L1 (mv (v := .slice _ _ _) rfl) ?_
  refine L1 (ln und22 rfl) ?_
  refine L1 (mv (v := .pointer _) rfl) ?_
  refine L1 (nilP rfl) ?_
  refine L1 (fd90_0 rfl) ?_
  refine L1 (ld22 rfl (hF.cellv (v := .slice _ _ _) (by decide) rfl)) ?_
  refine L1 (ln und22 rfl) ?_
  refine L1 (bi rfl rfl (bn_sub (c := ((oo : Nat) : Int)) (by omega) (by omega) (by omega))) ?_
  refine L1 (slb_l und22 sz5 rfl rfl (l := oo) rfl hle hlc) ?_
  refine L1 (asg (v := .slice _ _ _) rfl) ?_
  refine wpList_nil ?_
  refine then_n ?_
  refine wp_seq ?_
  -- region 6
  refine reg_lit ?_
  refine L1 (mv (v := .pointer _) rfl) ?_
  refine L1 (mv (v := .pointer _) rfl) ?_
  refine L1 (nilP rfl) ?_
  refine L1 (fd90_0 rfl) ?_
  refine L1 (ld22 rfl (hF.cellv (v := .slice _ _ _) (by decide) rfl)) ?_
  refine L1 (mv (v := .slice _ _ _) rfl) ?_
  refine Lcp rfl rfl hH hD (by omega) (by omega) (fun j hj => by rw [hdg _ (by omega)]; rfl) ?_
  rw [show min (xs.length - oo) 32768 = 32768 by omega]
  intro w1 hH kp1
  have hF := hF.kp kp1 (by simp; exact hFH)
  have hD := hD.kp kp1 (by simp; exact hDH)
  have kp := kp.transNew kp1 (by simp; omega)
  clear kp1
  refine L1 (nilP rfl) ?_
  refine L1 (fd90_1 rfl) ?_
  refine Lst3 (v := .int _ _) rfl rfl rfl hF (by decide) ?_
  intro w1 hF kp1
  have hH := hH.kp kp1 (by simp; exact fun e => hFH e.symm)
  have hD := hD.kp kp1 (by simp; exact hDF)
  have kp := kp.trans (kp1.mono (by simp))
  clear kp1
  refine wpList_nil ?_
  refine then_n ?_
  refine wp_seq ?_
  refine wp_seq ?_
  -- region 7 (its order is open)
  refine reg_still mixed (by kernel_rfl) ?_
  have hF := hF.drew
  have hH := hH.drew
  have kp := kp.drew
  have hD := hD.drew
  refine S1 (mv (v := .pointer _) rfl) ?_
  refine S1 (nilP rfl) ?_
  refine S1 (fd90_1 rfl) ?_
  refine S1 (ld3 rfl (hF.cellv (v := .int _ _) (by decide) rfl)) ?_
  refine S1 (mv (v := .pointer _) rfl) ?_
  refine S1 (nilP rfl) ?_
  refine S1 (fd90_0 rfl) ?_
  refine S1 (ld22 rfl (hF.cellv (v := .slice _ _ _) (by decide) rfl)) ?_
  refine S1 (ln und22 rfl) ?_
  refine S1 (bi rfl rfl (bn_eql (v := true) (decide_eq_true (by omega)))) ?_
  refine still_nil ?_
  refine then_n ?_
  refine cond_t rfl ?_
  refine wp_seq ?_
  -- region 8
  refine reg_lit ?_
  refine L1 (mv (v := .pointer _) rfl) ?_
  refine L1 (nilP rfl) ?_
  refine L1 (fd90_1 rfl) ?_
  refine Lst3 (v := .int _ _) rfl rfl rfl hF (by decide) ?_
  intro w1 hF kp1
  have hH := hH.kp kp1 (by simp; exact fun e => hFH e.symm)
  have hD := hD.kp kp1 (by simp; exact hDF)
  have kp := kp.trans (kp1.mono (by simp))
  clear kp1
  refine wpList_nil ?_
  refine then_n ?_
  -- region 9
  refine reg_lit ?_
  refine L1 (mv (v := .pointer _) rfl) ?_
  refine L1 (nilP rfl) ?_
  refine L1 (fd90_3 rfl) ?_
  refine Lst4 (v := .bool _) rfl rfl rfl hF (by decide) ?_
  intro w1 hF kp1
  have hH := hH.kp kp1 (by simp; exact fun e => hFH e.symm)
  have hD := hD.kp kp1 (by simp; exact hDF)
  have kp := kp.trans (kp1.mono (by simp))
  clear kp1
  refine wpList_nil ?_
  refine then_n ?_
  -- region 10
  refine reg_lit ?_
  refine L1 (mv (v := .pointer _) rfl) ?_
  refine L1 (mv (v := .pointer _) rfl) ?_
  refine L1 (nilP rfl) ?_
  refine L1 (fd90_1 rfl) ?_
  refine L1 (ld3 rfl (hF.cellv (v := .int _ _) (by decide) rfl)) ?_
  refine L1 (nilP rfl) ?_
  refine L1 (fd90_2 rfl) ?_
  refine Lst3 (v := .int _ _) rfl rfl rfl hF (by decide) ?_
  intro w1 hF kp1
  have hH := hH.kp kp1 (by simp; exact fun e => hFH e.symm)
  have hD := hD.kp kp1 (by simp; exact hDF)
  have kp := kp.trans (kp1.mono (by simp))
  clear kp1
  refine wpList_nil ?_
  refine end0 rfl ?_
  refine ⟨_, rfl, rfl, H, by omega, ?_, kp⟩
  refine initP_mk (hs := (fun _ => .int .u8 0)) (dg := dg) (o := oo) (n := 32768) (by omega) (by omega) hF (by simpa using hH) (by repeat (first | exact Off.refl _ _ | refine Off.upd ?_ (by decide) _)) rfl ?_ ?_ ?_ (fun _ _ => ⟨0, by decide, rfl⟩) hx hdg
  · rfl
  · rfl
  · show Value.bool true = _
    rw [decide_eq_true (by omega)]
theorem init_r_none (w : World) (F : Nat) (g : Nat → Value) (hF : Bk w F 1054 95 g) (H : Nat) (hs0 : Nat → Value) (hFH : F ≠ H) (hH : Bk w H 32768 5 hs0) (hb0 : ∀ k, k < 32768 → ∃ c : Nat, c < 256 ∧ hs0 k = .int .u8 c) (h37 : g 1037 = .slice (some ⟨H, 0, none⟩) 32768 32768) (da : Option Addr) (dc : Nat) :
    Ret 36 [.pointer (some ⟨F, 1037, none⟩), .int .i64 32768, .slice da 0 dc] w fun v w' => v = .tuple #[] ∧ InitP F H w' g [] ∧ Kp [F, H] w w' := by
  have kp := Kp.refl [F, H] w
  have hFlt := hF.lt
  refine calls_fr (N := 84) Tryd.func36 rfl rfl (by simp) rfl ?_
  refine wp_seq ?_
  -- region 0
  refine reg_lit ?_
  refine L1 (mv (v := .pointer _) rfl) ?_
  refine L1 (mv (v := .pointer _) rfl) ?_
  refine L1 (nilP rfl) ?_
  refine L1 (fd90_0 rfl) ?_
  refine L1 (ld22 rfl (hF.cellv (by decide) h37)) ?_
  refine L1 (bd90 rfl) ?_
  refine L1 (nilP rfl) ?_
  refine Lst90 rfl rfl ⟨rfl, rfl, rfl, rfl⟩ hF (by decide) ?_
  intro w1 hF kp1
  have hH := hH.kp kp1 (by simp; exact fun e => hFH e.symm)
  have kp := kp.trans (kp1.mono (by simp))
  clear kp1
  refine wpList_nil ?_
  refine then_n ?_
  refine wp_seq ?_
  refine wp_seq ?_
  -- region 1
  refine reg_lit ?_
  refine L1 (mv (v := .pointer _) rfl) ?_
  refine L1 (nilP rfl) ?_
  refine L1 (fd90_0 rfl) ?_
  refine L1 (ld22 rfl (hF.cellv (v := .slice _ _ _) (by decide) rfl)) ?_
  refine L1 (cp und22 rfl) ?_
  refine L1 (mv (v := .int _ _) rfl) ?_
  refine L1 (bi rfl rfl (bn_lss (v := false) (decide_eq_false (by omega)))) ?_
  refine wpList_nil ?_
  refine then_n ?_
  refine cond_f rfl ?_
  refine wp_skip ?_
  refine then_n ?_
  refine wp_seq ?_
  -- region 3
  refine reg_lit ?_
  refine L1 (mv (v := .pointer _) rfl) ?_
  refine L1 (mv (v := .pointer _) rfl) ?_
  refine L1 (nilP rfl) ?_
  refine L1 (fd90_0 rfl) ?_
  refine L1 (ld22 rfl (hF.cellv (v := .slice _ _ _) (by decide) rfl)) ?_
  refine L1 (mv (v := .int _ _) rfl) ?_
  refine L1 (sl_h und22 sz5 rfl rfl (h := 32768) rfl (by omega)) ?_
  refine L1 (nilP rfl) ?_
  refine L1 (fd90_0 rfl) ?_
  refine Lst22 (v := .slice _ _ _) rfl rfl rfl hF (by decide) ?_
  intro w1 hF kp1
  have hH := hH.kp kp1 (by simp; exact fun e => hFH e.symm)
  have kp := kp.trans (kp1.mono (by simp))
  clear kp1
  refine wpList_nil ?_
  refine then_n ?_
  refine wp_seq ?_
  refine wp_seq ?_
  -- region 4
  refine reg_lit ?_
  refine L1 (mv (v := .slice _ _ _) rfl) ?_
  refine L1 (ln und22 rfl) ?_
  refine L1 (mv (v := .pointer _) rfl) ?_
  refine L1 (nilP rfl) ?_
  refine L1 (fd90_0 rfl) ?_
  refine L1 (ld22 rfl (hF.cellv (v := .slice _ _ _) (by decide) rfl)) ?_
  refine L1 (ln und22 rfl) ?_
  refine L1 (bi rfl rfl (bn_gtr (v := false) (decide_eq_false (by omega)))) ?_
  refine wpList_nil ?_
  refine then_n ?_
  refine cond_f rfl ?_
  refine wp_skip ?_
  refine then_n ?_
  refine wp_seq ?_
  -- region 6
  refine reg_lit ?_
  refine L1 (mv (v := .pointer _) rfl) ?_
  refine L1 (mv (v := .pointer _) rfl) ?_
  refine L1 (nilP rfl) ?_
  refine L1 (fd90_0 rfl) ?_
  refine L1 (ld22 rfl (hF.cellv (v := .slice _ _ _) (by decide) rfl)) ?_
  refine L1 (mv (v := .slice _ _ _) rfl) ?_
  refine L1 (run_cp0 rfl rfl (by simp)) ?_
  refine L1 (nilP rfl) ?_
  refine L1 (fd90_1 rfl) ?_
  refine Lst3 (v := .int _ _) rfl rfl rfl hF (by decide) ?_
  intro w1 hF kp1
  have hH := hH.kp kp1 (by simp; exact fun e => hFH e.symm)
  have kp := kp.trans (kp1.mono (by simp))
  clear kp1
  refine wpList_nil ?_
  refine then_n ?_
  refine wp_seq ?_
  refine wp_seq ?_
  -- region 7 (its order is open)
  refine reg_still mixed (by kernel_rfl) ?_
  have hF := hF.drew
  have hH := hH.drew
  have kp := kp.drew
  refine S1 (mv (v := .pointer _) rfl) ?_
  refine S1 (nilP rfl) ?_
  refine S1 (fd90_1 rfl) ?_
  refine S1 (ld3 rfl (hF.cellv (v := .int _ _) (by decide) rfl)) ?_
  refine S1 (mv (v := .pointer _) rfl) ?_
  refine S1 (nilP rfl) ?_
  refine S1 (fd90_0 rfl) ?_
  refine S1 (ld22 rfl (hF.cellv (v := .slice _ _ _) (by decide) rfl)) ?_
  refine S1 (ln und22 rfl) ?_
  refine S1 (bi rfl rfl (bn_eql (v := false) (decide_eq_false (by omega)))) ?_
  refine still_nil ?_
  refine then_n ?_
  refine cond_f rfl ?_
  refine wp_skip ?_
  refine then_n ?_
  -- region 10
  refine reg_lit ?_
  refine L1 (mv (v := .pointer _) rfl) ?_
  refine L1 (mv (v := .pointer _) rfl) ?_
  refine L1 (nilP rfl) ?_
  refine L1 (fd90_1 rfl) ?_
  refine L1 (ld3 rfl (hF.cellv (v := .int _ _) (by decide) rfl)) ?_
  refine L1 (nilP rfl) ?_
  refine L1 (fd90_2 rfl) ?_
  refine Lst3 (v := .int _ _) rfl rfl rfl hF (by decide) ?_
  intro w1 hF kp1
  have hH := hH.kp kp1 (by simp; exact fun e => hFH e.symm)
  have kp := kp.trans (kp1.mono (by simp))
  clear kp1
  refine wpList_nil ?_
  refine end0 rfl ?_
  refine ⟨_, rfl, rfl, ?_, kp⟩
  refine ⟨_, _, hF, hH, by repeat (first | exact Off.refl _ _ | refine Off.upd ?_ (by decide) _), rfl, rfl, rfl, rfl, hb0, fun j hj => by simp at hj⟩
theorem init_r_small (w : World) (F : Nat) (g : Nat → Value) (hF : Bk w F 1054 95 g) (H : Nat) (hs0 : Nat → Value) (hFH : F ≠ H) (hH : Bk w H 32768 5 hs0) (hb0 : ∀ k, k < 32768 → ∃ c : Nat, c < 256 ∧ hs0 k = .int .u8 c) (h37 : g 1037 = .slice (some ⟨H, 0, none⟩) 32768 32768) (xs : List Nat) (Db dc dn : Nat) (dg : Nat → Value) (hD : Bk w Db dn 5 dg) (hDF : Db ≠ F) (hDH : Db ≠ H) (hdn : xs.length ≤ dn) (hdc : xs.length ≤ dc) (hx : ∀ x ∈ xs, x < 256) (hdg : ∀ k, k < xs.length → dg k = .int .u8 (xs.getD k 0)) (h47 : xs.length ≤ 140737488355328) (hlen : xs.length < 32768) :
    Ret 36 [.pointer (some ⟨F, 1037, none⟩), .int .i64 32768, .slice (some ⟨Db, 0, none⟩) xs.length dc] w fun v w' => v = .tuple #[] ∧ InitP F H w' g xs ∧ Kp [F, H] w w' := by
  have kp := Kp.refl [F, H] w
  have hFlt := hF.lt
  have hDlt := hD.lt
  refine calls_fr (N := 84) Tryd.func36 rfl rfl (by simp) rfl ?_
  refine wp_seq ?_
  -- region 0
  refine reg_lit ?_
  refine L1 (mv (v := .pointer _) rfl) ?_
  refine L1 (mv (v := .pointer _) rfl) ?_
  refine L1 (nilP rfl) ?_
  refine L1 (fd90_0 rfl) ?_
  refine L1 (ld22 rfl (hF.cellv (by decide) h37)) ?_
  refine L1 (bd90 rfl) ?_
  refine L1 (nilP rfl) ?_
  refine Lst90 rfl rfl ⟨rfl, rfl, rfl, rfl⟩ hF (by decide) ?_
  intro w1 hF kp1
  have hH := hH.kp kp1 (by simp; exact fun e => hFH e.symm)
  have hD := hD.kp kp1 (by simp; exact hDF)
  have kp := kp.trans (kp1.mono (by simp))
  clear kp1
  refine wpList_nil ?_
  refine then_n ?_
  refine wp_seq ?_
  refine wp_seq ?_
  -- region 1
  refine reg_lit ?_
  refine L1 (mv (v := .pointer _) rfl) ?_
  refine L1 (nilP rfl) ?_
  refine L1 (fd90_0 rfl) ?_
  refine L1 (ld22 rfl (hF.cellv (v := .slice _ _ _) (by decide) rfl)) ?_
  refine L1 (cp und22 rfl) ?_
  refine L1 (mv (v := .int _ _) rfl) ?_
  refine L1 (bi rfl rfl (bn_lss (v := false) (decide_eq_false (by omega)))) ?_
  refine wpList_nil ?_
  refine then_n ?_
  refine cond_f rfl ?_
  refine wp_skip ?_
  refine then_n ?_
  refine wp_seq ?_
  -- region 3
  refine reg_lit ?_
  refine L1 (mv (v := .pointer _) rfl) ?_
  refine L1 (mv (v := .pointer _) rfl) ?_
  refine L1 (nilP rfl) ?_
  refine L1 (fd90_0 rfl) ?_
  refine L1 (ld22 rfl (hF.cellv (v := .slice _ _ _) (by decide) rfl)) ?_
  refine L1 (mv (v := .int _ _) rfl) ?_
  refine L1 (sl_h und22 sz5 rfl rfl (h := 32768) rfl (by omega)) ?_
  refine L1 (nilP rfl) ?_
  refine L1 (fd90_0 rfl) ?_
  refine Lst22 (v := .slice _ _ _) rfl rfl rfl hF (by decide) ?_
  intro w1 hF kp1
  have hH := hH.kp kp1 (by simp; exact fun e => hFH e.symm)
  have hD := hD.kp kp1 (by simp; exact hDF)
  have kp := kp.trans (kp1.mono (by simp))
  clear kp1
  refine wpList_nil ?_
  refine then_n ?_
  refine wp_seq ?_
  refine wp_seq ?_
  -- region 4
  refine reg_lit ?_
  refine L1 (mv (v := .slice _ _ _) rfl) ?_
  refine L1 (ln und22 rfl) ?_
  refine L1 (mv (v := .pointer _) rfl) ?_
  refine L1 (nilP rfl) ?_
  refine L1 (fd90_0 rfl) ?_
  refine L1 (ld22 rfl (hF.cellv (v := .slice _ _ _) (by decide) rfl)) ?_
  refine L1 (ln und22 rfl) ?_
  refine L1 (bi rfl rfl (bn_gtr (v := false) (decide_eq_false (by omega)))) ?_
  refine wpList_nil ?_
  refine then_n ?_
  refine cond_f rfl ?_
  refine wp_skip ?_
  refine then_n ?_
  refine wp_seq ?_
  -- region 6
  refine reg_lit ?_
  refine L1 (mv (v := .pointer _) rfl) ?_
  refine L1 (mv (v := .pointer _) rfl) ?_
  refine L1 (nilP rfl) ?_
  refine L1 (fd90_0 rfl) ?_
  refine L1 (ld22 rfl (hF.cellv (v := .slice _ _ _) (by decide) rfl)) ?_
  refine L1 (mv (v := .slice _ _ _) rfl) ?_
  refine Lcp rfl rfl hH hD (by omega) (by omega) (fun j hj => by rw [hdg _ (by omega)]; rfl) ?_
  rw [show min xs.length 32768 = xs.length by omega]
  intro w1 hH kp1
  have hF := hF.kp kp1 (by simp; exact hFH)
  have hD := hD.kp kp1 (by simp; exact hDH)
  have kp := kp.trans (kp1.mono (by simp))
  clear kp1
  refine L1 (nilP rfl) ?_
  refine L1 (fd90_1 rfl) ?_
  refine Lst3 (v := .int _ _) rfl rfl rfl hF (by decide) ?_
  intro w1 hF kp1
  have hH := hH.kp kp1 (by simp; exact fun e => hFH e.symm)
  have hD := hD.kp kp1 (by simp; exact hDF)
  have kp := kp.trans (kp1.mono (by simp))
  clear kp1
  refine wpList_nil ?_
  refine then_n ?_
  refine wp_seq ?_
  refine wp_seq ?_
  -- region 7 (its order is open)
  refine reg_still mixed (by kernel_rfl) ?_
  have hF := hF.drew
  have hH := hH.drew
  have kp := kp.drew
  have hD := hD.drew
  refine S1 (mv (v := .pointer _) rfl) ?_
  refine S1 (nilP rfl) ?_
  refine S1 (fd90_1 rfl) ?_
  refine S1 (ld3 rfl (hF.cellv (v := .int _ _) (by decide) rfl)) ?_
  refine S1 (mv (v := .pointer _) rfl) ?_
  refine S1 (nilP rfl) ?_
  refine S1 (fd90_0 rfl) ?_
  refine S1 (ld22 rfl (hF.cellv (v := .slice _ _ _) (by decide) rfl)) ?_
  refine S1 (ln und22 rfl) ?_
  refine S1 (bi rfl rfl (bn_eql (v := false) (decide_eq_false (by omega)))) ?_
  refine still_nil ?_
  refine then_n ?_
  refine cond_f rfl ?_
  refine wp_skip ?_
  refine then_n ?_
  -- region 10
  refine reg_lit ?_
  refine L1 (mv (v := .pointer _) rfl) ?_
  refine L1 (mv (v := .pointer _) rfl) ?_
  refine L1 (nilP rfl) ?_
  refine L1 (fd90_1 rfl) ?_
  refine L1 (ld3 rfl (hF.cellv (v := .int _ _) (by decide) rfl)) ?_
  refine L1 (nilP rfl) ?_
  refine L1 (fd90_2 rfl) ?_
  refine Lst3 (v := .int _ _) rfl rfl rfl hF (by decide) ?_
  intro w1 hF kp1
  have hH := hH.kp kp1 (by simp; exact fun e => hFH e.symm)
  have hD := hD.kp kp1 (by simp; exact hDF)
  have kp := kp.trans (kp1.mono (by simp))
  clear kp1
  refine wpList_nil ?_
  refine end0 rfl ?_
  refine ⟨_, rfl, rfl, ?_, kp⟩
  refine initP_mk (hs := hs0) (dg := dg) (o := 0) (n := xs.length) (by omega) (by omega) hF hH (by repeat (first | exact Off.refl _ _ | refine Off.upd ?_ (by decide) _)) rfl ?_ ?_ ?_ hb0 hx hdg
  · rw [Nat.mod_eq_of_lt (by omega)]; rfl
  · rw [Nat.mod_eq_of_lt (by omega)]; rfl
  · show Value.bool false = _
    rw [decide_eq_false (by omega)]
theorem init_r_exact (w : World) (F : Nat) (g : Nat → Value) (hF : Bk w F 1054 95 g) (H : Nat) (hs0 : Nat → Value) (hFH : F ≠ H) (hH : Bk w H 32768 5 hs0) (hb0 : ∀ k, k < 32768 → ∃ c : Nat, c < 256 ∧ hs0 k = .int .u8 c) (h37 : g 1037 = .slice (some ⟨H, 0, none⟩) 32768 32768) (xs : List Nat) (Db dc dn : Nat) (dg : Nat → Value) (hD : Bk w Db dn 5 dg) (hDF : Db ≠ F) (hDH : Db ≠ H) (hdn : xs.length ≤ dn) (hdc : xs.length ≤ dc) (hx : ∀ x ∈ xs, x < 256) (hdg : ∀ k, k < xs.length → dg k = .int .u8 (xs.getD k 0)) (h47 : xs.length ≤ 140737488355328) (hlen : xs.length = 32768) :
    Ret 36 [.pointer (some ⟨F, 1037, none⟩), .int .i64 32768, .slice (some ⟨Db, 0, none⟩) xs.length dc] w fun v w' => v = .tuple #[] ∧ InitP F H w' g xs ∧ Kp [F, H] w w' := by
  have kp := Kp.refl [F, H] w
  have hFlt := hF.lt
  have hDlt := hD.lt
  refine calls_fr (N := 84) Tryd.func36 rfl rfl (by simp) rfl ?_
  refine wp_seq ?_
  -- region 0
  refine reg_lit ?_
  refine L1 (mv (v := .pointer _) rfl) ?_
  refine L1 (mv (v := .pointer _) rfl) ?_
  refine L1 (nilP rfl) ?_
  refine L1 (fd90_0 rfl) ?_
  refine L1 (ld22 rfl (hF.cellv (by decide) h37)) ?_
  refine L1 (bd90 rfl) ?_
  refine L1 (nilP rfl) ?_
  refine Lst90 rfl rfl ⟨rfl, rfl, rfl, rfl⟩ hF (by decide) ?_
  intro w1 hF kp1
  have hH := hH.kp kp1 (by simp; exact fun e => hFH e.symm)
  have hD := hD.kp kp1 (by simp; exact hDF)
  have kp := kp.trans (kp1.mono (by simp))
  clear kp1
  refine wpList_nil ?_
  refine then_n ?_
  refine wp_seq ?_
  refine wp_seq ?_
  -- region 1
  refine reg_lit ?_
  refine L1 (mv (v := .pointer _) rfl) ?_
  refine L1 (nilP rfl) ?_
  refine L1 (fd90_0 rfl) ?_
  refine L1 (ld22 rfl (hF.cellv (v := .slice _ _ _) (by decide) rfl)) ?_
  refine L1 (cp und22 rfl) ?_
  refine L1 (mv (v := .int _ _) rfl) ?_
  refine L1 (bi rfl rfl (bn_lss (v := false) (decide_eq_false (by omega)))) ?_
  refine wpList_nil ?_
  refine then_n ?_
  refine cond_f rfl ?_
  refine wp_skip ?_
  refine then_n ?_
  refine wp_seq ?_
  -- region 3
  refine reg_lit ?_
  refine L1 (mv (v := .pointer _) rfl) ?_
  refine L1 (mv (v := .pointer _) rfl) ?_
  refine L1 (nilP rfl) ?_
  refine L1 (fd90_0 rfl) ?_
  refine L1 (ld22 rfl (hF.cellv (v := .slice _ _ _) (by decide) rfl)) ?_
  refine L1 (mv (v := .int _ _) rfl) ?_
  refine L1 (sl_h und22 sz5 rfl rfl (h := 32768) rfl (by omega)) ?_
  refine L1 (nilP rfl) ?_
  refine L1 (fd90_0 rfl) ?_
  refine Lst22 (v := .slice _ _ _) rfl rfl rfl hF (by decide) ?_
  intro w1 hF kp1
  have hH := hH.kp kp1 (by simp; exact fun e => hFH e.symm)
  have hD := hD.kp kp1 (by simp; exact hDF)
  have kp := kp.trans (kp1.mono (by simp))
  clear kp1
  refine wpList_nil ?_
  refine then_n ?_
  refine wp_seq ?_
  refine wp_seq ?_
  -- region 4
  refine reg_lit ?_
  refine L1 (mv (v := .slice _ _ _) rfl) ?_
  refine L1 (ln und22 rfl) ?_
  refine L1 (mv (v := .pointer _) rfl) ?_
  refine L1 (nilP rfl) ?_
  refine L1 (fd90_0 rfl) ?_
  refine L1 (ld22 rfl (hF.cellv (v := .slice _ _ _) (by decide) rfl)) ?_
  refine L1 (ln und22 rfl) ?_
  refine L1 (bi rfl rfl (bn_gtr (v := false) (decide_eq_false (by omega)))) ?_
  refine wpList_nil ?_
  refine then_n ?_
  refine cond_f rfl ?_
  refine wp_skip ?_
  refine then_n ?_
  refine wp_seq ?_
  -- region 6
  refine reg_lit ?_
  refine L1 (mv (v := .pointer _) rfl) ?_
  refine L1 (mv (v := .pointer _) rfl) ?_
  refine L1 (nilP rfl) ?_
  refine L1 (fd90_0 rfl) ?_
  refine L1 (ld22 rfl (hF.cellv (v := .slice _ _ _) (by decide) rfl)) ?_
  refine L1 (mv (v := .slice _ _ _) rfl) ?_
  refine Lcp rfl rfl hH hD (by omega) (by omega) (fun j hj => by rw [hdg _ (by omega)]; rfl) ?_
  rw [show min xs.length 32768 = 32768 by omega]
  intro w1 hH kp1
  have hF := hF.kp kp1 (by simp; exact hFH)
  have hD := hD.kp kp1 (by simp; exact hDH)
  have kp := kp.trans (kp1.mono (by simp))
  clear kp1
  refine L1 (nilP rfl) ?_
  refine L1 (fd90_1 rfl) ?_
  refine Lst3 (v := .int _ _) rfl rfl rfl hF (by decide) ?_
  intro w1 hF kp1
  have hH := hH.kp kp1 (by simp; exact fun e => hFH e.symm)
  have hD := hD.kp kp1 (by simp; exact hDF)
  have kp := kp.trans (kp1.mono (by simp))
  clear kp1
  refine wpList_nil ?_
  refine then_n ?_
  refine wp_seq ?_
  refine wp_seq ?_
  -- region 7 (its order is open)
  refine reg_still mixed (by kernel_rfl) ?_
  have hF := hF.drew
  have hH := hH.drew
  have kp := kp.drew
  have hD := hD.drew
  refine S1 (mv (v := .pointer _) rfl) ?_
  refine S1 (nilP rfl) ?_
  refine S1 (fd90_1 rfl) ?_
  refine S1 (ld3 rfl (hF.cellv (v := .int _ _) (by decide) rfl)) ?_
  refine S1 (mv (v := .pointer _) rfl) ?_
  refine S1 (nilP rfl) ?_
  refine S1 (fd90_0 rfl) ?_
  refine S1 (ld22 rfl (hF.cellv (v := .slice _ _ _) (by decide) rfl)) ?_
  refine S1 (ln und22 rfl) ?_
  refine S1 (bi rfl rfl (bn_eql (v := true) (decide_eq_true (by omega)))) ?_
  refine still_nil ?_
  refine then_n ?_
  refine cond_t rfl ?_
  refine wp_seq ?_
  -- region 8
  refine reg_lit ?_
  refine L1 (mv (v := .pointer _) rfl) ?_
  refine L1 (nilP rfl) ?_
  refine L1 (fd90_1 rfl) ?_
  refine Lst3 (v := .int _ _) rfl rfl rfl hF (by decide) ?_
  intro w1 hF kp1
  have hH := hH.kp kp1 (by simp; exact fun e => hFH e.symm)
  have hD := hD.kp kp1 (by simp; exact hDF)
  have kp := kp.trans (kp1.mono (by simp))
  clear kp1
  refine wpList_nil ?_
  refine then_n ?_
  -- region 9
  refine reg_lit ?_
  refine L1 (mv (v := .pointer _) rfl) ?_
  refine L1 (nilP rfl) ?_
  refine L1 (fd90_3 rfl) ?_
  refine Lst4 (v := .bool _) rfl rfl rfl hF (by decide) ?_
  intro w1 hF kp1
  have hH := hH.kp kp1 (by simp; exact fun e => hFH e.symm)
  have hD := hD.kp kp1 (by simp; exact hDF)
  have kp := kp.trans (kp1.mono (by simp))
  clear kp1
  refine wpList_nil ?_
  refine then_n ?_
  -- region 10
  refine reg_lit ?_
  refine L1 (mv (v := .pointer _) rfl) ?_
  refine L1 (mv (v := .pointer _) rfl) ?_
  refine L1 (nilP rfl) ?_
  refine L1 (fd90_1 rfl) ?_
  refine L1 (ld3 rfl (hF.cellv (v := .int _ _) (by decide) rfl)) ?_
  refine L1 (nilP rfl) ?_
  refine L1 (fd90_2 rfl) ?_
  refine Lst3 (v := .int _ _) rfl rfl rfl hF (by decide) ?_
  intro w1 hF kp1
  have hH := hH.kp kp1 (by simp; exact fun e => hFH e.symm)
  have hD := hD.kp kp1 (by simp; exact hDF)
  have kp := kp.trans (kp1.mono (by simp))
  clear kp1
  refine wpList_nil ?_
  refine end0 rfl ?_
  refine ⟨_, rfl, rfl, ?_, kp⟩
  refine initP_mk (hs := hs0) (dg := dg) (o := 0) (n := 32768) (by omega) (by omega) hF hH (by repeat (first | exact Off.refl _ _ | refine Off.upd ?_ (by decide) _)) rfl ?_ ?_ ?_ hb0 hx hdg
  · rfl
  · rfl
  · show Value.bool true = _
    rw [decide_eq_true (by omega)]
theorem init_r_great (w : World) (F : Nat) (g : Nat → Value) (hF : Bk w F 1054 95 g) (H : Nat) (hs0 : Nat → Value) (hFH : F ≠ H) (hH : Bk w H 32768 5 hs0) (hb0 : ∀ k, k < 32768 → ∃ c : Nat, c < 256 ∧ hs0 k = .int .u8 c) (h37 : g 1037 = .slice (some ⟨H, 0, none⟩) 32768 32768) (xs : List Nat) (Db dc dn : Nat) (dg : Nat → Value) (hD : Bk w Db dn 5 dg) (hDF : Db ≠ F) (hDH : Db ≠ H) (hdn : xs.length ≤ dn) (hdc : xs.length ≤ dc) (hx : ∀ x ∈ xs, x < 256) (hdg : ∀ k, k < xs.length → dg k = .int .u8 (xs.getD k 0)) (h47 : xs.length ≤ 140737488355328) (hlen : 32768 < xs.length) :
    Ret 36 [.pointer (some ⟨F, 1037, none⟩), .int .i64 32768, .slice (some ⟨Db, 0, none⟩) xs.length dc] w fun v w' => v = .tuple #[] ∧ InitP F H w' g xs ∧ Kp [F, H] w w' := by
  have kp := Kp.refl [F, H] w
  have hFlt := hF.lt
  have hDlt := hD.lt
  obtain ⟨oo, hoo⟩ : ∃ oo, xs.length = oo + 32768 := ⟨xs.length - 32768, by omega⟩
  have hlc : oo < dc := by omega
  have hle : oo ≤ xs.length := by omega
  refine calls_fr (N := 84) Tryd.func36 rfl rfl (by simp) rfl ?_
  refine wp_seq ?_
  -- region 0
  refine reg_lit ?_
  refine L1 (mv (v := .pointer _) rfl) ?_
  refine L1 (mv (v := .pointer _) rfl) ?_
  refine L1 (nilP rfl) ?_
  refine L1 (fd90_0 rfl) ?_
  refine L1 (ld22 rfl (hF.cellv (by decide) h37)) ?_
  refine L1 (bd90 rfl) ?_
  refine L1 (nilP rfl) ?_
  refine Lst90 rfl rfl ⟨rfl, rfl, rfl, rfl⟩ hF (by decide) ?_
  intro w1 hF kp1
  have hH := hH.kp kp1 (by simp; exact fun e => hFH e.symm)
  have hD := hD.kp kp1 (by simp; exact hDF)
  have kp := kp.trans (kp1.mono (by simp))
  clear kp1
  refine wpList_nil ?_
  refine then_n ?_
  refine wp_seq ?_
  refine wp_seq ?_
  -- region 1
  refine reg_lit ?_
  refine L1 (mv (v := .pointer _) rfl) ?_
  refine L1 (nilP rfl) ?_
  refine L1 (fd90_0 rfl) ?_
  refine L1 (ld22 rfl (hF.cellv (v := .slice _ _ _) (by decide) rfl)) ?_
  refine L1 (cp und22 rfl) ?_
  refine L1 (mv (v := .int _ _) rfl) ?_
  refine L1 (bi rfl rfl (bn_lss (v := false) (decide_eq_false (by omega)))) ?_
  refine wpList_nil ?_
  refine then_n ?_
  refine cond_f rfl ?_
  refine wp_skip ?_
  refine then_n ?_
  refine wp_seq ?_
  -- region 3
  refine reg_lit ?_
  refine L1 (mv (v := .pointer _) rfl) ?_
  refine L1 (mv (v := .pointer _) rfl) ?_
  refine L1 (nilP rfl) ?_
  refine L1 (fd90_0 rfl) ?_
  refine L1 (ld22 rfl (hF.cellv (v := .slice _ _ _) (by decide) rfl)) ?_
  refine L1 (mv (v := .int _ _) rfl) ?_
  refine L1 (sl_h und22 sz5 rfl rfl (h := 32768) rfl (by omega)) ?_
  refine L1 (nilP rfl) ?_
  refine L1 (fd90_0 rfl) ?_
  refine Lst22 (v := .slice _ _ _) rfl rfl rfl hF (by decide) ?_
  intro w1 hF kp1
  have hH := hH.kp kp1 (by simp; exact fun e => hFH e.symm)
  have hD := hD.kp kp1 (by simp; exact hDF)
  have kp := kp.trans (kp1.mono (by simp))
  clear kp1
  refine wpList_nil ?_
  refine then_n ?_
  refine wp_seq ?_
  refine wp_seq ?_
  -- region 4
  refine reg_lit ?_
  refine L1 (mv (v := .slice _ _ _) rfl) ?_
  refine L1 (ln und22 rfl) ?_
  refine L1 (mv (v := .pointer _) rfl) ?_
  refine L1 (nilP rfl) ?_
  refine L1 (fd90_0 rfl) ?_
  refine L1 (ld22 rfl (hF.cellv (v := .slice _ _ _) (by decide) rfl)) ?_
  refine L1 (ln und22 rfl) ?_
  refine L1 (bi rfl rfl (bn_gtr (v := true) (decide_eq_true (by omega)))) ?_
  refine wpList_nil ?_
  refine then_n ?_
  refine cond_t rfl ?_
  -- region 5
  refine reg_lit ?_
  refine L1 (mv (v := .slice _ _ _) rfl) ?_
  refine L1 (mv (v := .slice _ _ _) rfl) ?_
  refine L1 (ln und22 rfl) ?_
  refine L1 (mv (v := .pointer _) rfl) ?_
  refine L1 (nilP rfl) ?_
  refine L1 (fd90_0 rfl) ?_
  refine L1 (ld22 rfl (hF.cellv (v := .slice _ _ _) (by decide) rfl)) ?_
  refine L1 (ln und22 rfl) ?_
  refine L1 (bi rfl rfl (bn_sub (c := ((oo : Nat) : Int)) (by omega) (by omega) (by omega))) ?_
  refine L1 (slb_l und22 sz5 rfl rfl (l := oo) rfl hle hlc) ?_
  refine L1 (asg (v := .slice _ _ _) rfl) ?_
  refine wpList_nil ?_
  refine then_n ?_
  refine wp_seq ?_
  -- region 6
  refine reg_lit ?_
  refine L1 (mv (v := .pointer _) rfl) ?_
  refine L1 (mv (v := .pointer _) rfl) ?_
  refine L1 (nilP rfl) ?_
  refine L1 (fd90_0 rfl) ?_
  refine L1 (ld22 rfl (hF.cellv (v := .slice _ _ _) (by decide) rfl)) ?_
  refine L1 (mv (v := .slice _ _ _) rfl) ?_
  refine Lcp rfl rfl hH hD (by omega) (by omega) (fun j hj => by rw [hdg _ (by omega)]; rfl) ?_
  rw [show min (xs.length - oo) 32768 = 32768 by omega]
  intro w1 hH kp1
  have hF := hF.kp kp1 (by simp; exact hFH)
  have hD := hD.kp kp1 (by simp; exact hDH)
  have kp := kp.trans (kp1.mono (by simp))
  clear kp1
  refine L1 (nilP rfl) ?_
  refine L1 (fd90_1 rfl) ?_
  refine Lst3 (v := .int _ _) rfl rfl rfl hF (by decide) ?_
  intro w1 hF kp1
  have hH := hH.kp kp1 (by simp; exact fun e => hFH e.symm)
  have hD := hD.kp kp1 (by simp; exact hDF)
  have kp := kp.trans (kp1.mono (by simp))
  clear kp1
  refine wpList_nil ?_
  refine then_n ?_
  refine wp_seq ?_
  refine wp_seq ?_
  -- region 7 (its order is open)
  refine reg_still mixed (by kernel_rfl) ?_
  have hF := hF.drew
  have hH := hH.drew
  have kp := kp.drew
  have hD := hD.drew
  refine S1 (mv (v := .pointer _) rfl) ?_
  refine S1 (nilP rfl) ?_
  refine S1 (fd90_1 rfl) ?_
  refine S1 (ld3 rfl (hF.cellv (v := .int _ _) (by decide) rfl)) ?_
  refine S1 (mv (v := .pointer _) rfl) ?_
  refine S1 (nilP rfl) ?_
  refine S1 (fd90_0 rfl) ?_
  refine S1 (ld22 rfl (hF.cellv (v := .slice _ _ _) (by decide) rfl)) ?_
  refine S1 (ln und22 rfl) ?_
  refine S1 (bi rfl rfl (bn_eql (v := true) (decide_eq_true (by omega)))) ?_
  refine still_nil ?_
  refine then_n ?_
  refine cond_t rfl ?_
  refine wp_seq ?_
  -- region 8
  refine reg_lit ?_
  refine L1 (mv (v := .pointer _) rfl) ?_
  refine L1 (nilP rfl) ?_
  refine L1 (fd90_1 rfl) ?_
  refine Lst3 (v := .int _ _) rfl rfl rfl hF (by decide) ?_
  intro w1 hF kp1
  have hH := hH.kp kp1 (by simp; exact fun e => hFH e.symm)
  have hD := hD.kp kp1 (by simp; exact hDF)
  have kp := kp.trans (kp1.mono (by simp))
  clear kp1
  refine wpList_nil ?_
  refine then_n ?_
  -- region 9
  refine reg_lit ?_
  refine L1 (mv (v := .pointer _) rfl) ?_
  refine L1 (nilP rfl) ?_
  refine L1 (fd90_3 rfl) ?_
  refine Lst4 (v := .bool _) rfl rfl rfl hF (by decide) ?_
  intro w1 hF kp1
  have hH := hH.kp kp1 (by simp; exact fun e => hFH e.symm)
  have hD := hD.kp kp1 (by simp; exact hDF)
  have kp := kp.trans (kp1.mono (by simp))
  clear kp1
  refine wpList_nil ?_
  refine then_n ?_
  -- region 10
  refine reg_lit ?_
  refine L1 (mv (v := .pointer _) rfl) ?_
  refine L1 (mv (v := .pointer _) rfl) ?_
  refine L1 (nilP rfl) ?_
  refine L1 (fd90_1 rfl) ?_
  refine L1 (ld3 rfl (hF.cellv (v := .int _ _) (by decide) rfl)) ?_
  refine L1 (nilP rfl) ?_
  refine L1 (fd90_2 rfl) ?_
  refine Lst3 (v := .int _ _) rfl rfl rfl hF (by decide) ?_
  intro w1 hF kp1
  have hH := hH.kp kp1 (by simp; exact fun e => hFH e.symm)
  have hD := hD.kp kp1 (by simp; exact hDF)
  have kp := kp.trans (kp1.mono (by simp))
  clear kp1
  refine wpList_nil ?_
  refine end0 rfl ?_
  refine ⟨_, rfl, rfl, ?_, kp⟩
  refine initP_mk (hs := hs0) (dg := dg) (o := oo) (n := 32768) (by omega) (by omega) hF (by simpa using hH) (by repeat (first | exact Off.refl _ _ | refine Off.upd ?_ (by decide) _)) rfl ?_ ?_ ?_ hb0 hx hdg
  · rfl
  · rfl
  · show Value.bool true = _
    rw [decide_eq_true (by omega)]
end Go.Proofs.YtejeloeaklpinaaDoor

/- A reader laid anew: NewReader, NewReaderDict. Its walks are printed by gen/g_new2.py. -/
namespace Go.Proofs.YtejeloeaklpinaaDoor
attribute [local irreducible] wpList wpStill wpMix Code.wp Calls fr
theorem init_n (w : World) (F : Nat) (g : Nat → Value) (hF : Bk w F 1054 95 g) (h37 : g 1037 = .slice none 0 0) (dv : Value) (xs : List Nat) (hS : Sl w dv xs) (hx : ∀ x ∈ xs, x < 256) (h47 : xs.length ≤ 140737488355328) (hDF : ∀ k, dv.ownBlock = some k → k ≠ F) :
    Ret 36 [.pointer (some ⟨F, 1037, none⟩), .int .i64 32768, dv] w fun v w' => v = .tuple #[] ∧ ∃ H, w.heap.size ≤ H ∧ InitP F H w' g xs ∧ Kp [F] w w' := by
  by_cases h0 : xs = []
  · subst h0
    obtain ⟨a, c, rfl⟩ := hS.val
    exact init_n_none w F g hF h37 a c
  · rcases hS with ⟨_, h⟩ | ⟨b, cap, dg, rfl, hD, hxc, hcm, hdg⟩
    · exact absurd h h0
    · have hbF : b ≠ F := hDF b rfl
      rcases Nat.lt_trichotomy xs.length 32768 with h | h | h
      · exact init_n_small w F g hF h37 xs b cap cap dg hD hbF hxc hxc hx hdg h47 h
      · exact init_n_exact w F g hF h37 xs b cap cap dg hD hbF hxc hxc hx hdg h47 h
      · exact init_n_great w F g hF h37 xs b cap cap dg hD hbF hxc hxc hx hdg h47 h
theorem init_r (w : World) (F : Nat) (g : Nat → Value) (hF : Bk w F 1054 95 g) (H : Nat) (hs0 : Nat → Value) (hFH : F ≠ H) (hH : Bk w H 32768 5 hs0) (hb0 : ∀ k, k < 32768 → ∃ c : Nat, c < 256 ∧ hs0 k = .int .u8 c) (h37 : g 1037 = .slice (some ⟨H, 0, none⟩) 32768 32768)
    (dv : Value) (xs : List Nat) (hS : Sl w dv xs) (hx : ∀ x ∈ xs, x < 256) (h47 : xs.length ≤ 140737488355328) (hDF : ∀ k, dv.ownBlock = some k → k ≠ F ∧ k ≠ H) :
    Ret 36 [.pointer (some ⟨F, 1037, none⟩), .int .i64 32768, dv] w fun v w' => v = .tuple #[] ∧ InitP F H w' g xs ∧ Kp [F, H] w w' := by
  by_cases h0 : xs = []
  · subst h0
    obtain ⟨a, c, rfl⟩ := hS.val
    exact init_r_none w F g hF H hs0 hFH hH hb0 h37 a c
  · rcases hS with ⟨_, h⟩ | ⟨b, cap, dg, rfl, hD, hxc, hcm, hdg⟩
    · exact absurd h h0
    · obtain ⟨hbF, hbH⟩ := hDF b rfl
      rcases Nat.lt_trichotomy xs.length 32768 with h | h | h
      · exact init_r_small w F g hF H hs0 hFH hH hb0 h37 xs b cap cap dg hD hbF hbH hxc hxc hx hdg h47 h
      · exact init_r_exact w F g hF H hs0 hFH hH hb0 h37 xs b cap cap dg hD hbF hbH hxc hxc hx hdg h47 h
      · exact init_r_great w F g hF H hs0 hFH hH hb0 h37 xs b cap cap dg hD hbF hbH hxc hxc hx hdg h47 h
/-- The reader's cells ahead of init. -/
def gI (R bt cb : Nat) : Nat → Value := upd (upd (upd (upd (upd g95 1 (.pointer none)) 0 (.iface 43 (.pointer (some ⟨R, 0, none⟩)))) 1035 (.pointer (some ⟨bt, 0, none⟩))) 1036 (.pointer (some ⟨cb, 0, none⟩))) 1045 (fnv 35)

theorem nr_raw (w : World) (R : Nat) :
    Ret 24 [.iface 43 (.pointer (some ⟨R, 0, none⟩))] w fun v w' => ∃ F H bt cb, v = .iface 99 (.pointer (some ⟨F, 0, none⟩)) ∧ w.heap.size ≤ F ∧ F < bt ∧ bt < cb ∧ cb < H ∧ InitP F H w' (gI R bt cb) [] ∧ Bk w' bt 316 97 (fun _ => .int .i64 0) ∧ Bk w' cb 19 98 (fun _ => .int .i64 0) ∧ Kp [] w w' := by
  have kp := Kp.refl [] w
  refine calls_fr (N := 14) Tryd.func24 rfl rfl (by simp) rfl ?_
  refine wp_seq ?_
  -- region 0
  refine reg_lit ?_
  refine L1 (asg (v := .nilIface) rfl) ?_
  refine wpList_nil ?_
  refine then_n ?_
  refine wp_seq ?_
  -- region 1
  refine reg_lit ?_
  refine Lal95 ?_
  intro F w1 heF hF kp1 hszF
  skip
  have hszk := kp.size
  have kp := kp.trans kp1
  clear kp1
  refine wpList_nil ?_
  refine then_n ?_
  refine wp_seq ?_
  -- region 2
  refine reg_lit ?_
  refine L1 (mv (v := .iface _ _) rfl) ?_
  refine LC (cl2 has34 rfl rfl rfl) (makeReader_c _ F R g95 hF) ?_
  rintro v w1 ⟨rfl, hF, kp1⟩
  skip
  have hsz1 := kp1.size
  have kp := kp.transNew kp1 (by simp; omega)
  clear kp1
  refine wpList_nil ?_
  refine then_n ?_
  refine wp_seq ?_
  -- region 3
  refine reg_lit ?_
  refine Lal97 ?_
  intro bt w1 hebt hbt kp1 hszbt
  have hF := hF.kp kp1 (by simp)
  skip
  have hszk := kp.size
  have kp := kp.trans kp1
  clear kp1
  refine L1 (fa95_7 rfl) ?_
  refine Lst87 (v := .pointer _) rfl rfl rfl hF (by decide) ?_
  intro w1 hF kp1
  have hbt := hbt.kp kp1 (by simp; omega)
  skip
  have hsz1 := kp1.size
  have kp := kp.transNew kp1 (by simp; omega)
  clear kp1
  refine wpList_nil ?_
  refine then_n ?_
  refine wp_seq ?_
  -- region 4
  refine reg_lit ?_
  refine Lal98 ?_
  intro cb w1 hecb hcb kp1 hszcb
  have hF := hF.kp kp1 (by simp)
  have hbt := hbt.kp kp1 (by simp)
  skip
  have hszk := kp.size
  have kp := kp.trans kp1
  clear kp1
  refine L1 (fa95_8 rfl) ?_
  refine Lst88 (v := .pointer _) rfl rfl rfl hF (by decide) ?_
  intro w1 hF kp1
  have hbt := hbt.kp kp1 (by simp; omega)
  have hcb := hcb.kp kp1 (by simp; omega)
  skip
  have hsz1 := kp1.size
  have kp := kp.transNew kp1 (by simp; omega)
  clear kp1
  refine wpList_nil ?_
  refine then_n ?_
  refine wp_seq ?_
  -- region 5
  refine reg_lit ?_
  refine L1 (fa95_11 rfl) ?_
  refine Lst92 (v := fnv 35) rfl rfl rfl hF (by decide) ?_
  intro w1 hF kp1
  have hbt := hbt.kp kp1 (by simp; omega)
  have hcb := hcb.kp kp1 (by simp; omega)
  skip
  have hsz1 := kp1.size
  have kp := kp.transNew kp1 (by simp; omega)
  clear kp1
  refine wpList_nil ?_
  refine then_n ?_
  refine wp_seq ?_
  -- region 6
  refine reg_lit ?_
  refine L1 (fa95_9 rfl) ?_
  refine LC (cl3 has36 rfl rfl rfl rfl) (init_n _ F (gI R bt cb) hF rfl (.slice none 0 0) [] (Sl.nil _) (by simp) (by simp) (by intro k hk; cases hk)) ?_
  rintro v w1 ⟨rfl, H, hHs, hI, kp1⟩
  have hbt := hbt.kp kp1 (by simp; omega)
  have hcb := hcb.kp kp1 (by simp; omega)
  have hltc := hcb.lt
  have hsz1 := kp1.size
  have kp := kp.transNew kp1 (by simp; omega)
  refine wpList_nil ?_
  refine then_n ?_
  refine wp_seq ?_
  -- region 7
  refine reg_lit ?_
  refine L1 (mkI99 rfl) ?_
  refine L1 (asg (v := .iface _ _) rfl) ?_
  refine wpList_nil ?_
  refine then_n ?_
  refine wp_ret ?_
  refine ret1 rfl rfl ?_
  exact ⟨_, rfl, F, H, bt, cb, rfl, by omega, by omega, by omega, by omega, hI, hbt, hcb, kp⟩
theorem nrd_raw (w : World) (R : Nat) (dv : Value) (xs : List Nat) (hS : Sl w dv xs) (hx : ∀ x ∈ xs, x < 256) (h47 : xs.length ≤ 140737488355328) :
    Ret 26 [.iface 43 (.pointer (some ⟨R, 0, none⟩)), dv] w fun v w' => ∃ F H bt cb, v = .iface 99 (.pointer (some ⟨F, 0, none⟩)) ∧ w.heap.size ≤ F ∧ F < bt ∧ bt < cb ∧ cb < H ∧ InitP F H w' (gI R bt cb) xs ∧ Bk w' bt 316 97 (fun _ => .int .i64 0) ∧ Bk w' cb 19 98 (fun _ => .int .i64 0) ∧ Kp [] w w' := by
  have kp := Kp.refl [] w
  have hS0 := hS
  refine calls_fr (N := 17) Tryd.func26 rfl rfl (by simp) rfl ?_
  refine wp_seq ?_
  -- region 0
  refine reg_lit ?_
  refine L1 (asg (v := .nilIface) rfl) ?_
  refine wpList_nil ?_
  refine then_n ?_
  refine wp_seq ?_
  -- region 1
  refine reg_lit ?_
  refine Lal95 ?_
  intro F w1 heF hF kp1 hszF
  have hS := hS.kp kp1 (by simp)
  have hszk := kp.size
  have kp := kp.trans kp1
  clear kp1
  refine wpList_nil ?_
  refine then_n ?_
  refine wp_seq ?_
  -- region 2
  refine reg_lit ?_
  refine L1 (mv (v := .iface _ _) rfl) ?_
  refine LC (cl2 has34 rfl rfl rfl) (makeReader_c _ F R g95 hF) ?_
  rintro v w1 ⟨rfl, hF, kp1⟩
  have hS := hS.kp kp1 (by intro k hk; simp; have := hS0.lt hk; omega)
  have hsz1 := kp1.size
  have kp := kp.transNew kp1 (by simp; omega)
  clear kp1
  refine wpList_nil ?_
  refine then_n ?_
  refine wp_seq ?_
  -- region 3
  refine reg_lit ?_
  refine Lal97 ?_
  intro bt w1 hebt hbt kp1 hszbt
  have hF := hF.kp kp1 (by simp)
  have hS := hS.kp kp1 (by simp)
  have hszk := kp.size
  have kp := kp.trans kp1
  clear kp1
  refine L1 (fa95_7 rfl) ?_
  refine Lst87 (v := .pointer _) rfl rfl rfl hF (by decide) ?_
  intro w1 hF kp1
  have hbt := hbt.kp kp1 (by simp; omega)
  have hS := hS.kp kp1 (by intro k hk; simp; have := hS0.lt hk; omega)
  have hsz1 := kp1.size
  have kp := kp.transNew kp1 (by simp; omega)
  clear kp1
  refine wpList_nil ?_
  refine then_n ?_
  refine wp_seq ?_
  -- region 4
  refine reg_lit ?_
  refine Lal98 ?_
  intro cb w1 hecb hcb kp1 hszcb
  have hF := hF.kp kp1 (by simp)
  have hbt := hbt.kp kp1 (by simp)
  have hS := hS.kp kp1 (by simp)
  have hszk := kp.size
  have kp := kp.trans kp1
  clear kp1
  refine L1 (fa95_8 rfl) ?_
  refine Lst88 (v := .pointer _) rfl rfl rfl hF (by decide) ?_
  intro w1 hF kp1
  have hbt := hbt.kp kp1 (by simp; omega)
  have hcb := hcb.kp kp1 (by simp; omega)
  have hS := hS.kp kp1 (by intro k hk; simp; have := hS0.lt hk; omega)
  have hsz1 := kp1.size
  have kp := kp.transNew kp1 (by simp; omega)
  clear kp1
  refine wpList_nil ?_
  refine then_n ?_
  refine wp_seq ?_
  -- region 5
  refine reg_lit ?_
  refine L1 (fa95_11 rfl) ?_
  refine Lst92 (v := fnv 35) rfl rfl rfl hF (by decide) ?_
  intro w1 hF kp1
  have hbt := hbt.kp kp1 (by simp; omega)
  have hcb := hcb.kp kp1 (by simp; omega)
  have hS := hS.kp kp1 (by intro k hk; simp; have := hS0.lt hk; omega)
  have hsz1 := kp1.size
  have kp := kp.transNew kp1 (by simp; omega)
  clear kp1
  refine wpList_nil ?_
  refine then_n ?_
  refine wp_seq ?_
  -- region 6
  refine reg_lit ?_
  refine L1 (fa95_9 rfl) ?_
  refine L1 (mv (v := dv) rfl) ?_
  refine LC (cl3 has36 rfl rfl rfl rfl) (init_n _ F (gI R bt cb) hF rfl dv xs hS hx h47 (fun k hk => by have := hS0.lt hk; omega)) ?_
  rintro v w1 ⟨rfl, H, hHs, hI, kp1⟩
  have hbt := hbt.kp kp1 (by simp; omega)
  have hcb := hcb.kp kp1 (by simp; omega)
  have hltc := hcb.lt
  have hsz1 := kp1.size
  have kp := kp.transNew kp1 (by simp; omega)
  refine wpList_nil ?_
  refine then_n ?_
  refine wp_seq ?_
  -- region 7
  refine reg_lit ?_
  refine L1 (mkI99 rfl) ?_
  refine L1 (asg (v := .iface _ _) rfl) ?_
  refine wpList_nil ?_
  refine then_n ?_
  refine wp_ret ?_
  refine ret1 rfl rfl ?_
  exact ⟨_, rfl, F, H, bt, cb, rfl, by omega, by omega, by omega, by omega, hI, hbt, hcb, kp⟩
theorem len_c (E : Env) (w : World) (pos : Nat) (hE : E.Ok) (hrd : Rd E w pos) : Ret 18 [.pointer (some ⟨E.R, 0, none⟩)] w fun v w' => v = .int .i64 ((E.N - pos : Nat) : Int) ∧ Kp [] w w' := by
  have hN := hE.N47
  obtain ⟨v, z, r, hR, r0, r1, r2, hle, hd⟩ := hrd
  obtain ⟨sa, sc, rfl⟩ := hd.len
  have kp := Kp.refl [] w
  refine calls_fr (N := 23) Tryd.func18 rfl rfl (by simp) rfl ?_
  refine wp_seq ?_
  -- region 0
  refine reg_lit ?_
  refine L1 (asg (v := .int _ _) rfl) ?_
  refine wpList_nil ?_
  refine then_n ?_
  refine wp_seq ?_
  refine wp_seq ?_
  -- region 1 (its order is open)
  refine reg_still mixed (by kernel_rfl) ?_
  have hR := hR.drew
  have kp := kp.drew
  refine S1 (mv (v := .pointer _) rfl) ?_
  refine S1 (nilP rfl) ?_
  refine S1 (fa70_1 rfl) ?_
  refine S1 (ld2 rfl (hR.cellv (by decide) r1)) ?_
  refine S1 (mv (v := .pointer _) rfl) ?_
  refine S1 (nilP rfl) ?_
  refine S1 (fa70_0 rfl) ?_
  refine S1 (ld22 rfl (hR.cellv (by decide) r0)) ?_
  refine S1 (ln und22 rfl) ?_
  refine S1 (bi rfl rfl (bn_geq (v := decide (E.N ≤ pos)) (decide_eq_decide.2 (by omega)))) ?_
  refine still_nil ?_
  refine then_n ?_
  refine cond_d (p := E.N ≤ pos) rfl (fun hge => ?_) (fun hge => ?_)
  · -- yes
    refine wp_seq ?_
    -- region 2
    refine reg_lit ?_
    refine L1 (asg (v := .int _ _) rfl) ?_
    refine wpList_nil ?_
    refine then_n ?_
    refine wp_ret ?_
    refine then_r ?_
    refine ret1 rfl rfl ?_
    exact ⟨_, rfl, congrArg (fun n : Nat => Value.int .i64 (n : Int)) (show 0 = E.N - pos by omega), kp⟩
  · -- no
    refine wp_skip ?_
    refine then_n ?_
    refine wp_seq ?_
    -- region 3 (its order is open)
    refine reg_still mixed (by kernel_rfl) ?_
    have hR := hR.drew
    have kp := kp.drew
    refine S1 (mv (v := .pointer _) rfl) ?_
    refine S1 (nilP rfl) ?_
    refine S1 (fa70_0 rfl) ?_
    refine S1 (ld22 rfl (hR.cellv (by decide) r0)) ?_
    refine S1 (ln und22 rfl) ?_
    refine S1 (mv (v := .pointer _) rfl) ?_
    refine S1 (nilP rfl) ?_
    refine S1 (fa70_1 rfl) ?_
    refine S1 (ld2 rfl (hR.cellv (by decide) r1)) ?_
    refine S1 (bi rfl rfl (bn_sub (c := ((E.N - pos : Nat) : Int)) (by omega) (by omega) (by omega))) ?_
    refine S1 (asg (v := .int _ _) rfl) ?_
    refine still_nil ?_
    refine then_n ?_
    refine wp_ret ?_
    refine ret1 rfl rfl ?_
    exact ⟨_, rfl, rfl, kp⟩
end Go.Proofs.YtejeloeaklpinaaDoor

/- A reader laid anew stands for the machine's start; the buffer and the grown slice put in its place. -/
namespace Go.Proofs.YtejeloeaklpinaaDoor
/-- The machine's start behind a dictionary. -/
def lastW (xs : List Nat) : List Nat := xs.drop (xs.length - 32768)
def A0 (xs : List Nat) : A := ⟨0, 0, lastW xs, false, .next, 0, (lastW xs).length, (lastW xs).length⟩
theorem lastW_length (xs : List Nat) : (lastW xs).length = min xs.length 32768 := by unfold lastW; rw [List.length_drop]; omega
theorem lastW_getD (xs : List Nat) (i : Nat) : (lastW xs).getD i 0 = xs.getD (xs.length - min xs.length 32768 + i) 0 := by
  unfold lastW
  rw [List.getD_eq_getElem?_getD, List.getElem?_drop, ← List.getD_eq_getElem?_getD, show xs.length - 32768 = xs.length - min xs.length 32768 by omega]
attribute [irreducible] lastW
theorem hz_g95 (R bt cb : Nat) (g' : Nat → Value) (o : Off [1037, 1038, 1039, 1040] (gI R bt cb) g') : HZ g' 5 ∧ HZ g' 520 := by
  have e : ∀ j, 5 ≤ j → j < 1035 → g' j = g95 j := by
    intro j h1 h2
    rw [o j (by simp; omega)]
    unfold gI
    rw [upd_ne _ _ _ _ (by omega), upd_ne _ _ _ _ (by omega), upd_ne _ _ _ _ (by omega), upd_ne _ _ _ _ (by omega), upd_ne _ _ _ _ (by omega)]
  constructor
  · refine .inr ⟨(e _ (by omega) (by omega)).trans rfl, fun k hk => (e _ (by omega) (by omega)).trans ?_, (e _ (by omega) (by omega)).trans rfl, (e _ (by omega) (by omega)).trans rfl⟩
    unfold g95
    rw [if_neg (by omega), if_neg (by omega), if_neg (by omega), if_neg (by omega), if_neg (by omega), if_neg (by omega), if_neg (by omega), if_neg (by omega)]
  · refine .inr ⟨(e _ (by omega) (by omega)).trans rfl, fun k hk => (e _ (by omega) (by omega)).trans ?_, (e _ (by omega) (by omega)).trans rfl, (e _ (by omega) (by omega)).trans rfl⟩
    unfold g95
    rw [if_neg (by omega), if_neg (by omega), if_neg (by omega), if_neg (by omega), if_neg (by omega), if_neg (by omega), if_neg (by omega), if_neg (by omega)]
/-- What init has left, as the window's facts. -/
theorem initP_win {E : Env} {w : World} {g g' hs : Nat → Value} {xs : List Nat} (hx : ∀ x ∈ xs, x < 256) (h37 : g' 1037 = .slice (some ⟨E.H, 0, none⟩) 32768 32768)
    (h38 : g' 1038 = .int .i64 ((min xs.length 32768 % 32768 : Nat) : Int)) (h39 : g' 1039 = .int .i64 ((min xs.length 32768 % 32768 : Nat) : Int)) (h40 : g' 1040 = .bool (decide (32768 ≤ xs.length)))
    (hb : ∀ k, k < 32768 → ∃ c : Nat, c < 256 ∧ hs k = .int .u8 c) (hl : ∀ j, j < min xs.length 32768 → hs j = .int .u8 (xs.getD (xs.length - min xs.length 32768 + j) 0)) :
    Win (lastW xs) hs ∧ Dw E g' (lastW xs).length (lastW xs).length ((lastW xs).length % 32768) := by
  have hlen := lastW_length xs
  refine ⟨⟨hb, fun i hi _ => ?_, fun i hi => ?_⟩, ?_⟩
  · rw [hlen] at hi
    rw [Nat.mod_eq_of_lt (by omega), lastW_getD]
    exact hl i hi
  · rw [hlen] at hi
    rw [lastW_getD, List.getD_eq_getElem?_getD, List.getElem?_eq_getElem (show xs.length - min xs.length 32768 + i < xs.length by omega)]
    exact hx _ (List.getElem_mem _)
  · rw [hlen]
    by_cases h : 32768 ≤ xs.length
    · have e : min xs.length 32768 = 32768 := by omega
      rw [e] at h38 h39 ⊢
      rw [Nat.mod_self] at h38 h39 ⊢
      exact ⟨1, 0, by omega, by omega, by omega, by omega, h37, h38, h39, h40.trans (congrArg Value.bool ((decide_eq_true h).trans (decide_eq_true (Nat.lt_succ_self 0)).symm))⟩
    · have e : min xs.length 32768 % 32768 = min xs.length 32768 := Nat.mod_eq_of_lt (by omega)
      rw [e] at h38 h39 ⊢
      exact ⟨0, min xs.length 32768, by omega, by omega, by omega, by omega, h37, h38, h39, h40.trans (congrArg Value.bool ((decide_eq_false h).trans (decide_eq_false (Nat.lt_irrefl 0)).symm))⟩
theorem rep_new (E : Env) (w : World) (xs : List Nat) (bs cs : Nat → Value) (hx : ∀ x ∈ xs, x < 256) (hI : InitP E.F E.H w (gI E.R E.bt E.cb) xs) (hbt : Bk w E.bt 316 97 bs) (hcb : Bk w E.cb 19 98 cs) (hrd : Rd E w 0) (hgl : Gl E w) (hbu : E.buf < w.heap.size ∧ E.own < w.heap.size) : Rep E w (A0 xs) := by
  obtain ⟨g', hs, hF, hH, ho, h37, h38, h39, h40, hb, hl⟩ := hI
  obtain ⟨hV, hD⟩ := initP_win (E := E) (w := w) (g := g') hx h37 h38 h39 h40 hb hl
  have hS : Stc E g' := ⟨(ho 0 (by decide)).trans rfl, (ho 1035 (by decide)).trans rfl, (ho 1036 (by decide)).trans rfl, h37, (ho 1 (by decide)).trans rfl⟩
  have hZ := hz_g95 _ _ _ _ ho
  have hO : (A0 xs).out = lastW xs := rfl
  refine ⟨g', hs, bs, cs, ⟨⟨hF, hH, hbt, hcb, hrd, hgl, hbu⟩, hS, hV, hD, ?_, hZ⟩, .inl ⟨rfl, (ho _ (by decide)).trans rfl⟩, fun _ => ⟨⟨?_, (ho _ (by decide)).trans rfl, (ho _ (by decide)).trans rfl, ?_⟩, (ho _ (by decide)).trans rfl, trivial⟩⟩
  · have e0 : (A0 xs).fl - (A0 xs).e = 0 := Nat.sub_self _
    refine ⟨Nat.le_refl _, none, 0, ((ho _ (by decide)).trans rfl).trans (congrArg (fun n => Value.slice none n 0) e0.symm), by rw [e0]; exact Nat.le_refl _, fun h => absurd h (Nat.lt_irrefl _)⟩
  · exact Bt.zero (pos := 0) ⟨0, (ho _ (by decide)).trans rfl⟩ ((ho _ (by decide)).trans rfl) ((ho _ (by decide)).trans rfl)
  · exact ⟨.inl ((ho _ (by decide)).trans rfl), (ho _ (by decide)).trans rfl⟩

/-- Only the buffer and the grown slice are others. -/
structure SameE (E E' : Env) : Prop where
  B : E'.B = E.B
  aE : E'.aE = E.aE
  aU : E'.aU = E.aU
  F : E'.F = E.F
  R : E'.R = E.R
  S : E'.S = E.S
  H : E'.H = E.H
  bt : E'.bt = E.bt
  cb : E'.cb = E.cb
  N : E'.N = E.N
  d : E'.d = E.d
def Env.re (E : Env) (b o : Nat) : Env := { E with buf := b, own := o }
theorem SameE.re (E : Env) (b o : Nat) : SameE E (E.re b o) := ⟨rfl, rfl, rfl, rfl, rfl, rfl, rfl, rfl, rfl, rfl, rfl⟩
theorem Env.Ok.re {E : Env} (h : E.Ok) (b o : Nat) : (E.re b o).Ok :=
  ⟨h.bF, h.bR, h.bH, h.bbt, h.bcb, h.FR, h.FS, h.FH, h.Fb, h.Fc, h.RS, h.RH, h.Rb, h.Rc, h.SH, h.Sb, h.Sc, h.Hb, h.Hc, h.bc, h.d8, h.N47⟩
theorem Gl.re {E : Env} {w : World} (h : Gl E w) (b o : Nat) : Gl (E.re b o) w :=
  ⟨h.B6, h.le, h.eof, h.ueof, h.ne, h.bE, h.bU, h.hE, h.hU, h.ord⟩
/-- A block that is new, or one of the two. -/
def Fit (E : Env) (w : World) (b : Nat) : Prop := w.heap.size ≤ b ∨ b = E.buf ∨ b = E.own
theorem nX {E : Env} {w : World} {b o x : Nat} (hx : x ∉ E.X) (hlt : x < w.heap.size) (hb : Fit E w b) (ho : Fit E w o) : x ∉ (E.re b o).X := by
  simp only [Env.X, Env.re, List.mem_cons, List.not_mem_nil, or_false, not_or] at hx ⊢
  unfold Fit at hb ho
  obtain ⟨h1, h2, h3, h4, h5, h6, h7⟩ := hx
  refine ⟨h1, h2, h3, h4, h5, ?_, ?_⟩
  · rintro rfl; rcases hb with h | h | h
    · omega
    · exact h6 h
    · exact h7 h
  · rintro rfl; rcases ho with h | h | h
    · omega
    · exact h6 h
    · exact h7 h
theorem HTab.re {E : Env} {w w' : World} {gx : Nat → Value} {o : Nat} {c : Cd} {b1 o1 : Nat} (h : HTab E w gx o c) (k : Kp [] w w') (hb : Fit E w b1) (ho : Fit E w o1) : HTab (E.re b1 o1) w' gx o c := by
  obtain ⟨h0, la, ll, lc, mask, h1, h2, h3, h4⟩ := h
  refine ⟨h0, la, ll, lc, mask, h1, h2, h3, fun x => ?_⟩
  obtain ⟨h5, ch, h6, h7, h8⟩ := h4 x
  refine ⟨h5, ch, h6, h7, ?_⟩
  rcases h8 with h8 | ⟨h8, h9, lb, lo, ib, io, il, ic, h10, h11, h12, h13, h14, h15⟩
  · exact .inl h8
  · exact .inr ⟨h8, h9, lb, lo, ib, io, il, ic, h10, nX h11 (World.block_lt_of_cell? w _ h13) hb ho, nX h12 (World.block_lt_of_cell? w _ h15) hb ho, k.cell h13 (by simp), h14, k.cell h15 (by simp)⟩
theorem HMode.re {E : Env} {w w' : World} {g : Nat → Value} {hl : Cd} {hd : Option Cd} {b1 o1 : Nat} (h : HMode E w g hl hd) (k : Kp [] w w') (hb : Fit E w b1) (ho : Fit E w o1) : HMode (E.re b1 o1) w' g hl hd := by
  cases hd with
  | none =>
    obtain ⟨h1, h2, X, gx, h3, h4, h5, h6⟩ := h
    exact ⟨h1, h2, X, gx, h3, nX h4 h5.lt hb ho, h5.kp k (by simp), h6.re k hb ho⟩
  | some hd =>
    obtain ⟨h1, h2, h3, h4, h5, h6⟩ := h
    exact ⟨h1, h2, h3, h4, h5.re k hb ho, h6.re k hb ho⟩
theorem Rep.re {E : Env} {w w' : World} {a : A} {b1 o1 : Nat} (h : Rep E w a) (k : Kp [] w w') (hb : Fit E w b1) (ho : Fit E w o1) (hb' : b1 < w'.heap.size) (ho' : o1 < w'.heap.size) : Rep (E.re b1 o1) w' a := by
  obtain ⟨g, hs, bs, cs, hC, he, hl⟩ := h
  have hW := hC.W.new k
  refine ⟨g, hs, bs, cs, ⟨⟨hW.F, hW.H, hW.bt, hW.cb, hW.rd, hW.gl.re b1 o1, ⟨hb', ho'⟩⟩, ⟨hC.S.r, hC.S.bt, hC.S.cb, hC.S.hi, hC.S.rb⟩, hC.V, by obtain ⟨q, rd, q1, q2, q3, q4, q5⟩ := hC.D; exact ⟨q, rd, q1, q2, q3, q4, q5.hist, q5.wr, q5.rd, q5.full⟩, hC.T, hC.Z⟩, he, fun h0 => ?_⟩
  obtain ⟨h1, h2, h3⟩ := hl h0
  refine ⟨⟨⟨h1.B.ro, h1.B.b, h1.B.nb, h1.B.le, h1.B.l32⟩, h1.fin, h1.err, ?_⟩, h2, h3⟩
  have hm := h1.md
  cases hmd : a.md with
  | next => rw [hmd] at hm; exact hm
  | data n => rw [hmd] at hm; exact hm
  | huff hl hd c =>
    rw [hmd] at hm
    cases c with
    | none => exact ⟨hm.1.re k hb ho, hm.2⟩
    | some x => exact ⟨hm.1.re k hb ho, hm.2⟩
theorem Rep.setown {E : Env} {w w' : World} {a : A} (h : Rep E w a) (hO : E.OkO) (k : Kp [E.own] w w') : Rep E w' a := by
  obtain ⟨g, hs, bs, cs, hC, he, hl⟩ := h
  refine ⟨g, hs, bs, cs, ⟨hC.W.setown hO k, hC.S, hC.V, hC.D, hC.T, hC.Z⟩, he, fun h0 => ?_⟩
  obtain ⟨h1, h2, h3⟩ := hl h0
  exact ⟨h1.keep (k.mono (by simp [Env.X])) (Off.refl [] g) (by simp) (by simp) ⟨rfl, rfl, rfl, rfl, rfl⟩, h2, h3⟩
theorem Rep.gl {E : Env} {w : World} {a : A} (h : Rep E w a) : Gl E w := by
  obtain ⟨g, hs, bs, cs, hC, _⟩ := h; exact hC.W.gl
theorem Rep.rd {E : Env} {w : World} {a : A} (h : Rep E w a) : Rd E w a.pos := by
  obtain ⟨g, hs, bs, cs, hC, _⟩ := h; exact hC.W.rd
/-- The code of an error. -/
def code (er : Nat) : Nat := if er = 1 then 0 else if er = 2 then 2 else 1
theorem codeOf_c (E : Env) (w : World) (hG : Gl E w) (er : Nat) (v : Value) (h : ErrV E er v) (h0 : er ≠ 0) : Ret 25 [v] w fun v' w' => v' = .int .i64 ((code er : Nat) : Int) ∧ w' = w := by
  rcases h with ⟨h, _⟩ | ⟨rfl, rfl⟩ | ⟨rfl, rfl⟩ | ⟨rfl, n, rfl⟩
  · exact absurd h h0
  · exact codeOf_eof E w hG
  · exact codeOf_ueof E w hG
  · exact codeOf_cor E w hG n
/-- How great the buffer of round i is. -/
def szAt (szs : List Int) (i : Nat) : Nat := if szs.length = 0 then 512 else if 1 ≤ szs.getD (i % szs.length) 0 then (szs.getD (i % szs.length) 0).toNat else 512
/-- What is read till the end, the error, or too much: from round i on, behind acc. -/
inductive Dr (S : Src) (szs : List Int) : Nat → A → List Nat → List Nat → Nat → A → Prop where
  | stop {i : Nat} {a : A} {acc : List Nat} : 10000 ≤ i → Dr S szs i a acc acc 3 a
  | over {i k er : Nat} {a a' : A} {acc : List Nat} : i < 10000 → Reads S (szAt szs i) a k er a' → 100000 < acc.length + k → Dr S szs i a acc (acc ++ (a'.out.drop (a'.e - k)).take k) 3 a'
  | fin {i k er : Nat} {a a' : A} {acc : List Nat} : i < 10000 → Reads S (szAt szs i) a k er a' → acc.length + k ≤ 100000 → er ≠ 0 → Dr S szs i a acc (acc ++ (a'.out.drop (a'.e - k)).take k) (code er) a'
  | next {i k : Nat} {a a' b : A} {acc r : List Nat} {c : Nat} : i < 10000 → Reads S (szAt szs i) a k 0 a' → acc.length + k ≤ 100000 → Dr S szs (i + 1) a' (acc ++ (a'.out.drop (a'.e - k)).take k) r c b → Dr S szs i a acc r c b
end Go.Proofs.YtejeloeaklpinaaDoor
