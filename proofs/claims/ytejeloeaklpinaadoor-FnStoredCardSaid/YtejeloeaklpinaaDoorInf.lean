/- Inflate: a stream read by a reader laid anew. Its walks are printed by gen/g_inf.py. -/
import Derived.Test.YtejeloeaklpinaaDoorDrain
namespace Go.Proofs.YtejeloeaklpinaaDoor
attribute [local irreducible] wpList wpStill wpMix Code.wp Calls fr
/-- The source of a list of bytes. -/
def srcOf (data : List Nat) : Src := ⟨data.length, dnum (fun k => data.getD k 0) data.length⟩
/-- What Inflate comes to: what is read, the code, how many bytes are left. -/
def InfR (data dict : List Nat) (szs : List Int) (r : List Nat) (c left : Nat) : Prop := ∃ a, Dr (srcOf data) szs 0 (A0 dict) [] r c a ∧ left = data.length - a.pos
/-- Bytes, and not too many. -/
def Bytes (xs : List Nat) : Prop := (∀ x ∈ xs, x < 256) ∧ xs.length ≤ 140737488355328
/-- What is asked of the codes by this stream. -/
def HCof (data dict : List Nat) : Prop := ∀ a, Far (srcOf data) (A0 dict) a → needs (srcOf data) a → HC

theorem reader_c (w : World) (R : Nat) (dv : Value) (dict : List Nat) (hA : Ag w dv dict) (hB : Bytes dict) :
    Ret 17 [.pointer (some ⟨R, 0, none⟩), dv] w fun v w' => ∃ F H bt cb, v = .iface 99 (.pointer (some ⟨F, 0, none⟩)) ∧ w.heap.size ≤ F ∧ F < bt ∧ bt < cb ∧ cb < H ∧ InitP F H w' (gI R bt cb) dict ∧ Bk w' bt 316 97 (fun _ => .int .i64 0) ∧ Bk w' cb 19 98 (fun _ => .int .i64 0) ∧ Kp [] w w' := by
  have hA0 := hA
  obtain ⟨da, dc, rfl, hcells⟩ := hA
  refine calls_fr (N := 16) Tryd.func17 rfl rfl (by simp) rfl ?_
  refine wp_seq ?_
  -- region 0
  refine reg_lit ?_
  refine L1 (asg (v := .nilIface) rfl) ?_
  refine wpList_nil ?_
  refine then_n ?_
  refine wp_seq ?_
  refine wp_seq ?_
  -- region 1
  refine reg_lit ?_
  refine L1 (mv (v := .slice _ _ _) rfl) ?_
  refine L1 (ln und22 rfl) ?_
  refine L1 (bi rfl rfl (bn_eql (v := decide (dict.length = 0)) (decide_eq_decide.2 (by omega)))) ?_
  refine wpList_nil ?_
  refine then_n ?_
  refine cond_d (p := dict.length = 0) rfl (fun h0 => ?_) (fun h0 => ?_)
  · -- yes
    refine wp_seq ?_
    -- region 2
    refine reg_lit ?_
    refine L1 (mv (v := .pointer _) rfl) ?_
    refine L1 (mkI43 rfl) ?_
    refine LC (cl1 has24 rfl rfl) (nr_raw _ R) ?_
    rintro v w1 ⟨F, H, bt, cb, rfl, hrest⟩
    refine L1 (asg (v := .iface _ _) rfl) ?_
    refine wpList_nil ?_
    refine then_n ?_
    refine wp_ret ?_
    refine then_r ?_
    refine ret1 rfl rfl ?_
    obtain rfl : dict = [] := List.eq_nil_of_length_eq_zero h0
    exact ⟨_, rfl, F, H, bt, cb, rfl, hrest⟩
  · -- no
    refine wp_skip ?_
    refine then_n ?_
    refine wp_seq ?_
    -- region 3
    refine reg_lit ?_
    refine L1 (mv (v := .pointer _) rfl) ?_
    refine L1 (mkI43 rfl) ?_
    refine L1 (mv (v := .slice _ _ _) rfl) ?_
    refine LC (cl1 has15 rfl rfl) (copied_c _ _ dict hA0 hB.2) ?_
    rintro v w1 ⟨hSl, kp1, _⟩
    refine LC (cl2 has26 rfl rfl rfl) (nrd_raw _ R v dict hSl hB.1 hB.2) ?_
    rintro v2 w2 ⟨F, H, bt, cb, rfl, hF, h1, h2, h3, h4, h5, h6, kp2⟩
    refine L1 (asg (v := .iface _ _) rfl) ?_
    refine wpList_nil ?_
    refine then_n ?_
    refine wp_ret ?_
    refine ret1 rfl rfl ?_
    have hsz := kp1.size
    exact ⟨_, rfl, F, H, bt, cb, rfl, by omega, h1, h2, h3, h4, h5, h6, kp1.trans kp2⟩
/-- The environment of a reader over a source that was laid ahead of it. -/
def mkE (B : Nat) (aE aU : Addr) (F R S H bt cb : Nat) (data : List Nat) : Env := ⟨B, aE, aU, F, R, S, H, bt, cb, F, F, data.length, fun k => data.getD k 0⟩
def ownOf (v : Value) : Nat := match v.ownBlock with
  | some b => b
  | none => 0
theorem getD_lt {xs : List Nat} (h : ∀ x ∈ xs, x < 256) (k : Nat) : xs.getD k 0 < 256 := by
  by_cases hk : k < xs.length
  · rw [List.getD_eq_getElem?_getD, List.getElem?_eq_getElem hk]; exact h _ (List.getElem_mem hk)
  · rw [List.getD_eq_getElem?_getD, List.getElem?_eq_none (by omega)]; decide
theorem mkE_ok {E0 : Env} {w : World} (hG : Gl E0 w) {F R H bt cb : Nat} {data : List Nat} (hD : Bytes data) {v : Value} (hv : Sl w v data) (hvB : ∀ k, v.ownBlock = some k → E0.B ≤ k) (hvR : ∀ k, v.ownBlock = some k → k < R) (hR : R < w.heap.size) (hRB : E0.B ≤ R) (h1 : w.heap.size ≤ F) (h2 : F < bt) (h3 : bt < cb) (h4 : cb < H) :
    (mkE E0.B E0.aE E0.aU F R (ownOf v) H bt cb data).Ok := by
  have hS : ownOf v < R := by
    unfold ownOf; split
    · rename_i b hb; exact hvR b hb
    · have := hG.B6; omega
  refine ⟨?_, hRB, ?_, ?_, ?_, ?_, ?_, ?_, ?_, ?_, ?_, ?_, ?_, ?_, ?_, ?_, ?_, ?_, ?_, ?_, fun k => getD_lt hD.1 k, hD.2⟩ <;> simp only [mkE] <;> omega
theorem mkE_rd {E0 : Env} {w : World} {F R H bt cb : Nat} {data : List Nat} {v : Value} {rg : Nat → Value} (hv : Sl w v data) (hR : Bk w R 3 70 rg) (h0 : rg 0 = v) (h1 : rg 1 = .int .i64 0) (h2 : rg 2 = .int .i64 (-1)) :
    Rd (mkE E0.B E0.aE E0.aU F R (ownOf v) H bt cb data) w 0 := by
  refine ⟨v, -1, rg, hR, h0, h1, h2, Nat.zero_le _, ?_⟩
  rcases hv with ⟨rfl, rfl⟩ | ⟨b, cap, g, rfl, hb, hc, hm, hg⟩
  · exact .inl ⟨rfl, rfl⟩
  · exact .inr ⟨cap, cap, g, rfl, hb, ⟨hc, hc⟩, hg⟩
theorem mkE_gl {E0 : Env} {w : World} (h : Gl E0 w) {F R S H bt cb : Nat} {data : List Nat} : Gl (mkE E0.B E0.aE E0.aU F R S H bt cb data) w :=
  ⟨h.B6, h.le, h.eof, h.ueof, h.ne, h.bE, h.bU, h.hE, h.hU, h.ord⟩
theorem inflate_c (E0 : Env) (w : World) (hG : Gl E0 w) (dv xv : Value) (data dict : List Nat) (hA : Ag w dv data) (hD : Bytes data) (hX : Ag w xv dict) (hXb : Bytes dict) (sa : Option Addr) (sc : Nat) (szs : List Int) (hszs : ∀ z ∈ szs, z ≤ 100000)
    (hsz : ∀ j, j < szs.length → ∃ ad, sa = some ad ∧ ad.spot = none ∧ w.cell? ⟨ad.block, ad.off + j, none⟩ = some (.int .i64 (szs.getD j 0))) (hH : HCof data dict) :
    Ret 9 [dv, xv, .slice sa szs.length sc] w fun v w' => ∃ r c left ov, v = .tuple #[ov, .int .i64 ((c : Nat) : Int), .int .i64 ((left : Nat) : Int)] ∧ Sl w' ov r ∧ InfR data dict szs r c left ∧ Kp [] w w' ∧ ∀ k, ov.ownBlock = some k → w.heap.size ≤ k := by
  have kp0 := Kp.refl [] w
  refine calls_fr (N := 27) Tryd.func9 rfl rfl (by simp) rfl ?_
  refine wp_seq ?_
  -- region 0
  refine reg_lit ?_
  refine L1 (asg (v := .slice _ _ _) rfl) ?_
  refine L1 (asg (v := .int _ _) rfl) ?_
  refine L1 (asg (v := .int _ _) rfl) ?_
  refine wpList_nil ?_
  refine then_n ?_
  refine wp_seq ?_
  -- region 1
  refine reg_lit ?_
  refine L1 (mv (v := dv) rfl) ?_
  refine LC (cl1 has15 rfl rfl) (copied_c _ _ data hA hD.2) ?_
  rintro v1 w1 ⟨hSl, kp1, hown1⟩
  obtain ⟨va, vc, rfl⟩ := hSl.val
  have hB1 := hG.le
  have hG1 := hG.kp kp1 (by simp)
  have hX1 := hX.kp kp1
  refine LC (cl1 has14 rfl rfl) (newReader_c _ va data.length vc) ?_
  rintro v w2 ⟨rfl, hR, kp2, hsz2⟩
  have hSl2 := hSl.kp kp2 (by simp)
  have hG2 := hG1.kp kp2 (by simp)
  have hX2 := hX1.kp kp2
  have hs1 := kp1.size
  obtain ⟨R, hRe⟩ : ∃ R, R = w1.heap.size := ⟨_, rfl⟩
  rw [← hRe] at hR hsz2 ⊢
  refine L1 (asg (v := .pointer _) rfl) ?_
  refine wpList_nil ?_
  refine then_n ?_
  refine wp_seq ?_
  -- region 2
  refine reg_lit ?_
  refine L1 (mv (v := .pointer _) rfl) ?_
  refine L1 (mv (v := xv) rfl) ?_
  refine LC (cl2 has17 rfl rfl rfl) (reader_c _ R _ dict hX2 hXb) ?_
  rintro v w3 ⟨F, H, bt, cb, rfl, hF, hFb, hbc, hcH, hI, hbt, hcb, kp3⟩
  have hSl3 := hSl2.kp kp3 (by simp)
  have hG3 := hG2.kp kp3 (by simp)
  have hR3 := hR.kp kp3 (by simp)
  have hE : (mkE E0.B E0.aE E0.aU F R (ownOf (.slice va data.length vc)) H bt cb data).Ok := mkE_ok hG2 hD hSl2 (fun k hk => by have := hown1 k hk; omega) (fun k hk => by have := hSl.lt hk; omega) (by omega) (by omega) hF hFb hbc hcH
  have hFlt : F < w3.heap.size := by obtain ⟨g, hs, hbF, _⟩ := hI; exact hbF.lt
  have hRep := rep_new (mkE E0.B E0.aE E0.aU F R (ownOf (.slice va data.length vc)) H bt cb data) w3 dict _ _ hXb.1 hI hbt hcb (mkE_rd (E0 := E0) hSl3 hR3 rfl rfl rfl) (mkE_gl hG3) ⟨hFlt, hFlt⟩
  have hs2 := kp2.size
  have hs3 := kp3.size
  have hSlt : ownOf (.slice va data.length vc) < w3.heap.size := by
    unfold ownOf
    split
    · rename_i b hb; have := hSl.lt hb; omega
    · omega
  have kpA : Kp [] w w3 := (kp1.trans kp2).trans kp3
  refine L1 (mv (v := .slice _ _ _) rfl) ?_
  refine LC (cl2 has16 rfl rfl rfl) (drained_c (mkE E0.B E0.aE E0.aU F R (ownOf (.slice va data.length vc)) H bt cb data) w3 (A0 dict) hE hSlt hRep (fun h => absurd h (Nat.lt_irrefl _)) sa sc szs hszs ?_ hH) ?_
  · intro j hj
    obtain ⟨ad, h1, h2, h3⟩ := hsz j hj
    refine ⟨ad, h1, h2, ?_, kpA.cell h3 (by simp)⟩
    have hlt := World.block_lt_of_cell? w _ h3
    simp only at hlt
    simp only [mkE, Env.L, List.mem_cons, List.not_mem_nil, or_false]
    omega
  rintro v w4 ⟨r, c, a', b, o, ov, rfl, hSl4, hR4, hP4, hfar, hdr, hown4, kp4⟩
  refine L1 (mv (v := .tuple _) rfl) ?_
  refine L1 (ext2_0 rfl) ?_
  refine L1 (ext2_1 rfl) ?_
  refine L1 (asg (v := ov) rfl) ?_
  refine L1 (asg (v := .int _ _) rfl) ?_
  refine wpList_nil ?_
  refine then_n ?_
  refine wp_seq ?_
  -- region 3
  refine reg_lit ?_
  refine L1 (mv (v := ov) rfl) ?_
  refine L1 (mv (v := .int _ _) rfl) ?_
  refine L1 (mv (v := .pointer _) rfl) ?_
  refine LC (cl1 has18 rfl rfl) (len_c ((mkE E0.B E0.aE E0.aU F R (ownOf (.slice va data.length vc)) H bt cb data).re b o) _ a'.pos (hE.re b o) hR4.rd) ?_
  rintro v w5 ⟨rfl, kp5⟩
  refine L1 (asg (v := ov) rfl) ?_
  refine L1 (asg (v := .int _ _) rfl) ?_
  refine L1 (asg (v := .int _ _) rfl) ?_
  refine wpList_nil ?_
  refine then_n ?_
  refine wp_ret ?_
  refine ret3 rfl rfl rfl rfl ?_
  refine ⟨_, rfl, r, c, data.length - a'.pos, ov, rfl, hSl4.kp kp5 (by simp), ⟨a', hdr, rfl⟩, ?_, fun k hk => by have := (hown4 k hk).2.2; omega⟩
  refine Kp.transNew (kpA.transNew kp4 ?_) kp5 (by simp)
  intro i hi hlt
  simp only [mkE, Env.L, List.mem_cons, List.not_mem_nil, or_false] at hi
  omega
end Go.Proofs.YtejeloeaklpinaaDoor
