/- Bytes read from the source into a block: Read, ReadAtLeast, ReadFull. Its walks are printed by gen/g_io.py. -/
import Derived.Test.YtejeloeaklpinaaDoorOps4
namespace Go.Proofs.YtejeloeaklpinaaDoor
attribute [local irreducible] wpList wpStill wpMix Code.wp Calls fr
/-- A block behind k bytes of the source, from place pos on, laid at o. -/
def cpd (E : Env) (gb : Nat → Value) (o pos k : Nat) : Nat → Value := fun j => if o ≤ j ∧ j < o + k then .int .u8 (E.d (pos + (j - o))) else gb j

theorem rd_ok (E : Env) (w : World) (pos : Nat) (hE : E.Ok) (hrd : Rd E w pos) (hp : pos < E.N) (b o m c n : Nat) (t : TypeId) (gb : Nat → Value) (hb : Bk w b n t gb) (hbR : b ≠ E.R) (hbS : b ≠ E.S) (hm : o + m ≤ n) :
    Ret 81 [.pointer (some ⟨E.R, 0, none⟩), .slice (some ⟨b, o, none⟩) m c] w fun v w' => v = .tuple #[.int .i64 ((min (E.N - pos) m : Nat) : Int), .nilIface] ∧ Rd E w' (pos + min (E.N - pos) m) ∧ Bk w' b n t (cpd E gb o pos (min (E.N - pos) m)) ∧ Kp [E.R, b] w w' := by
  have kp := Kp.refl [E.R, b] w
  obtain ⟨v, z, r, hR, r0, r1, r2, hle, hd⟩ := hrd
  have hN := hE.N47
  rcases hd with ⟨h1, h2⟩ | ⟨c0, n0, g0, rfl, hS, hn, hg⟩
  · omega
  have hcc : pos < c0 := by omega
  have hmin : min (E.N - pos) m ≤ E.N - pos := Nat.min_le_left _ _
  have hmin2 : min (E.N - pos) m ≤ m := Nat.min_le_right _ _
  refine calls_fr (N := 39) Tryd.func81 rfl rfl (by simp) rfl ?_
  refine wp_seq ?_
  -- region 0
  refine reg_lit ?_
  refine L1 (asg (v := .int _ _) rfl) ?_
  refine L1 (asg (v := .nilIface) rfl) ?_
  refine wpList_nil ?_
  refine then_n ?_
  refine wp_seq ?_
  refine wp_seq ?_
  -- region 1 (its order is open)
  refine reg_still mixed (by kernel_rfl) ?_
  have hR := hR.drew
  have hS := hS.drew
  have hb := hb.drew
  have kp := kp.drew
  refine S1 (mv (v := .pointer _) rfl) ?_
  refine S1 (nilP rfl) ?_
  refine S1 (fa70_1 rfl) ?_
  refine S1 (ld2 rfl (hR.cellv (by decide) r1)) ?_
  refine S1 (mv (v := .pointer _) rfl) ?_
  refine S1 (nilP rfl) ?_
  refine S1 (fa70_0 rfl) ?_
  refine S1 (ld22 rfl (hR.cellv (by decide) r0)) ?_
  refine S1 (ln und22 rfl) ?_
  refine S1 (bi rfl rfl (bn_geq (v := false) (decide_eq_false (by omega)))) ?_
  refine still_nil ?_
  refine then_n ?_
  refine cond_f rfl ?_
  refine wp_skip ?_
  refine then_n ?_
  refine wp_seq ?_
  -- region 3
  refine reg_lit ?_
  refine L1 (mv (v := .pointer _) rfl) ?_
  refine L1 (nilP rfl) ?_
  refine L1 (fa70_2 rfl) ?_
  refine Lst3 (v := .int _ _) rfl rfl rfl hR (by decide) ?_
  intro w1 hR kp1
  have hS := hS.kp kp1 (nSR hE)
  have hb := hb.kp kp1 (by simp; exact hbR)
  have kp := kp.trans (kp1.mono (by simp))
  clear kp1
  refine wpList_nil ?_
  refine then_n ?_
  refine wp_seq ?_
  -- region 4 (its order is open)
  refine reg_tail 10 mixed (by kernel_rfl) ?_
  have hR := hR.drew
  have hS := hS.drew
  have hb := hb.drew
  have kp := kp.drew
  refine S1 (mv (v := .slice _ _ _) rfl) ?_
  refine S1 (mv (v := .pointer _) rfl) ?_
  refine S1 (nilP rfl) ?_
  refine S1 (fa70_0 rfl) ?_
  refine S1 (ld22 rfl (hR.cellv (by decide) r0)) ?_
  refine S1 (mv (v := .pointer _) rfl) ?_
  refine S1 (nilP rfl) ?_
  refine S1 (fa70_1 rfl) ?_
  refine S1 (ld2 rfl (hR.cellv (by decide) r1)) ?_
  refine S1 (slb_l und22 sz5 rfl rfl rfl (by omega) hcc) ?_
  refine still_nil ?_
  refine Lcp rfl rfl hb hS (by omega) (by omega) (fun j hj => by rw [hg _ (by omega)]; rfl) ?_
  intro w1 hb kp1
  have hR := hR.kp kp1 (by simp; exact fun e => hbR e.symm)
  have hS := hS.kp kp1 (by simp; exact fun e => hbS e.symm)
  have kp := kp.trans (kp1.mono (by simp))
  clear kp1
  refine L1 (asg (v := .int _ _) rfl) ?_
  refine wpList_nil ?_
  refine then_n ?_
  refine wp_seq ?_
  -- region 5
  refine reg_lit ?_
  refine L1 (mv (v := .pointer _) rfl) ?_
  refine L1 (nilP rfl) ?_
  refine L1 (fa70_1 rfl) ?_
  refine L1 (ld2 rfl (hR.cellv (by decide) r1)) ?_
  refine L1 (mv (v := .int _ _) rfl) ?_
  refine L1 (bi rfl rfl (bn_add (c := ((pos + min (E.N - pos) m : Nat) : Int)) (by omega) (by omega) (by omega))) ?_
  refine L1 (nilP rfl) ?_
  refine L1 (fa70_1 rfl) ?_
  refine Lst2 (v := .int _ _) rfl rfl rfl hR (by decide) ?_
  intro w1 hR kp1
  have hS := hS.kp kp1 (nSR hE)
  have hb := hb.kp kp1 (by simp; exact hbR)
  have kp := kp.trans (kp1.mono (by simp))
  clear kp1
  refine wpList_nil ?_
  refine then_n ?_
  refine wp_ret ?_
  refine ret2 rfl rfl rfl ?_
  refine ⟨_, rfl, rfl, ⟨_, _, _, hR, r0, rfl, rfl, by omega, .inr ⟨_, n0, g0, rfl, hS, hn, hg⟩⟩, hb.congr fun k hk => ?_, kp⟩
  unfold cpg cpd
  split
  · rw [Nat.zero_add, hg _ (by omega)]
  · rfl
theorem rd_eof (E : Env) (w : World) (pos : Nat) (hE : E.Ok) (hG : Gl E w) (hrd : Rd E w pos) (hp : pos = E.N) (s : Value) :
    Ret 81 [.pointer (some ⟨E.R, 0, none⟩), s] w fun v w' => v = .tuple #[.int .i64 0, EOFv E] ∧ Rd E w' pos ∧ Kp [] w w' := by
  have hN := hE.N47
  have hk := Kp.refl [] w
  have hrd0 := hrd
  obtain ⟨v, z, r, hR, r0, r1, r2, hle, hd⟩ := hrd
  obtain ⟨sa, sc, rfl⟩ := hd.len
  refine calls_fr (N := 39) Tryd.func81 rfl rfl (by simp) rfl ?_
  refine wp_seq ?_
  -- region 0
  refine reg_lit ?_
  refine L1 (asg (v := .int _ _) rfl) ?_
  refine L1 (asg (v := .nilIface) rfl) ?_
  refine wpList_nil ?_
  refine then_n ?_
  refine wp_seq ?_
  refine wp_seq ?_
  -- region 1 (its order is open)
  refine reg_still mixed (by kernel_rfl) ?_
  have hR := hR.drew
  have hd := hd.drew
  have hG := hG.drew
  have hk := hk.drewN 1
  refine S1 (mv (v := .pointer _) rfl) ?_
  refine S1 (nilP rfl) ?_
  refine S1 (fa70_1 rfl) ?_
  refine S1 (ld2 rfl (hR.cellv (by decide) r1)) ?_
  refine S1 (mv (v := .pointer _) rfl) ?_
  refine S1 (nilP rfl) ?_
  refine S1 (fa70_0 rfl) ?_
  refine S1 (ld22 rfl (hR.cellv (by decide) r0)) ?_
  refine S1 (ln und22 rfl) ?_
  refine S1 (bi rfl rfl (bn_geq (v := true) (decide_eq_true (by omega)))) ?_
  refine still_nil ?_
  refine then_n ?_
  refine cond_t rfl ?_
  refine wp_seq ?_
  -- region 2 (its order is open)
  refine reg_still mixed (by kernel_rfl) ?_
  have hR := hR.drew
  have hd := hd.drew
  have hG := hG.drew
  have hk := hk.drewN 1
  refine S1 (ld62 (v := .iface _ _) rfl hG.eof) ?_
  refine S1 (asg (v := .int _ _) rfl) ?_
  refine S1 (asg (v := .iface _ _) rfl) ?_
  refine still_nil ?_
  refine then_n ?_
  refine wp_ret ?_
  refine then_r ?_
  refine ret2 rfl rfl rfl ?_
  exact ⟨_, rfl, rfl, ⟨_, _, _, hR, r0, r1, r2, hle, hd⟩, hk⟩
theorem ral_ok (E : Env) (w : World) (pos : Nat) (hE : E.Ok) (hG : Gl E w) (hrd : Rd E w pos) (b o m c n : Nat) (t : TypeId) (gb : Nat → Value) (hb : Bk w b n t gb) (hbR : b ≠ E.R) (hbS : b ≠ E.S) (hbB : E.B ≤ b) (hm : o + m ≤ n) (hmc : m ≤ c) (hm0 : 0 < m) (hn : n < 1000000) (hp : pos + m ≤ E.N) :
    Ret 61 [.iface 43 (.pointer (some ⟨E.R, 0, none⟩)), .slice (some ⟨b, o, none⟩) m c, .int .i64 m] w fun v w' => v = .tuple #[.int .i64 m, .nilIface] ∧ Rd E w' (pos + m) ∧ Bk w' b n t (cpd E gb o pos m) ∧ Kp [E.R, b] w w' := by
  have hN := hE.N47
  have kp := Kp.refl [E.R, b] w
  have hL : ∀ x, x ∈ [E.R, b] → E.B ≤ x := by simp; exact ⟨hE.bR, hbB⟩
  have hle : pos ≤ E.N := by obtain ⟨_, _, _, _, _, _, _, h, _⟩ := hrd; exact h
  refine calls_fr (N := 46) Tryd.func61 rfl rfl (by simp) rfl ?_
  refine wp_seq ?_
  -- region 0
  refine reg_lit ?_
  refine L1 (asg (v := .int _ _) rfl) ?_
  refine L1 (asg (v := .nilIface) rfl) ?_
  refine wpList_nil ?_
  refine then_n ?_
  refine wp_seq ?_
  refine wp_seq ?_
  -- region 1
  refine reg_lit ?_
  refine L1 (mv (v := .slice _ _ _) rfl) ?_
  refine L1 (ln und22 rfl) ?_
  refine L1 (mv (v := .int _ _) rfl) ?_
  refine L1 (bi rfl rfl (bn_lss (v := false) (decide_eq_false (by omega)))) ?_
  refine wpList_nil ?_
  refine then_n ?_
  refine cond_f rfl ?_
  refine wp_skip ?_
  refine then_n ?_
  refine wp_seq ?_
  refine wp_block ?_
  refine loop_fr (fun k f w' => f 0 = .iface 43 (.pointer (some ⟨E.R, 0, none⟩)) ∧ f 1 = .slice (some ⟨b, o, none⟩) m c ∧ f 2 = .int .i64 (m : Int) ∧ Gl E w' ∧ Kp [E.R, b] w w' ∧ ((k = 2 ∧ f 6 = .int .i64 ((0 : Nat) : Int) ∧ f 7 = .nilIface ∧ Rd E w' pos ∧ Bk w' b n t gb) ∨ (k = 1 ∧ f 6 = .int .i64 ((min (E.N - pos) m : Nat) : Int) ∧ f 7 = .nilIface ∧ Rd E w' (pos + min (E.N - pos) m) ∧ Bk w' b n t (cpd E gb o pos (min (E.N - pos) m))) ∨ (k = 0 ∧ min (E.N - pos) m < m ∧ f 6 = .int .i64 ((min (E.N - pos) m : Nat) : Int) ∧ f 7 = EOFv E ∧ Rd E w' (pos + min (E.N - pos) m) ∧ Bk w' b n t (cpd E gb o pos (min (E.N - pos) m))))) 2 ⟨rfl, rfl, rfl, hG, kp, .inl ⟨rfl, rfl, rfl, hrd, hb⟩⟩ ?_
  clear hG kp hrd hb
  intro k f w1 HJ
  obtain ⟨s0, s1, s2, hG, kp, HJ⟩ := HJ
  have hmin : min (E.N - pos) m ≤ E.N - pos := Nat.min_le_left _ _
  have hmin2 : min (E.N - pos) m ≤ m := Nat.min_le_right _ _
  rcases HJ with ⟨rfl, s6, s7, hrd, hb⟩ | ⟨rfl, s6, s7, hrd, hb⟩ | ⟨rfl, hkm, s6, s7, hrd, hb⟩
  · skip
    refine slots (fc s0 (fc s1 (fc s2 (fc s6 (fc s7 fnil))))) ?_
    refine wp_seq ?_
    refine wp_seq ?_
    -- region 3
    refine reg_lit ?_
    refine L1 (mv (v := .int _ _) rfl) ?_
    refine L1 (mv (v := .int _ _) rfl) ?_
    refine L1 (bi rfl rfl (bn_lss (v := true) (decide_eq_true (by omega)))) ?_
    refine L1 (mv (v := .bool _) rfl) ?_
    refine L1g (t := 17) (b := true) rfl (by decide) rfl (mv (v := .nilIface) rfl) ?_
    refine L1g (t := 17) (b := true) rfl (by decide) rfl (ee_nil rfl rfl) ?_
    refine L1 (pk_t rfl rfl) ?_
    refine wpList_nil ?_
    refine then_n ?_
    refine cond_t rfl ?_
    refine wp_skip ?_
    refine then_n ?_
    refine wp_block ?_
    refine wp_seq ?_
    -- region 4
    refine reg_lit ?_
    refine L1 (asg (v := .int _ _) rfl) ?_
    refine wpList_nil ?_
    refine then_n ?_
    refine wp_seq ?_
    -- region 5 (its order is open)
    refine reg_mix [false, false, false, false, false, false, false, true, false, false, false, false, false] (fun _ => True) mixed (by kernel_rfl) ?_ ?_
    · exact trivial
    have hG := hG.drew
    have hrd := hrd.drew
    have hb := hb.drew
    have kp := kp.drew
    refine T1 (fun w hC => mv (v := .iface _ _) rfl) ?_
    refine T1 (fun w hC => mv (v := .slice _ _ _) rfl) ?_
    refine T1 (fun w hC => mv (v := .int _ _) rfl) ?_
    refine T1 (fun w hC => slb_l und22 sz5 rfl rfl rfl (by omega) (by omega)) ?_
    refine T1 (fun w hC => mkM rfl) ?_
    refine T1 (fun w hC => nilM43 rfl) ?_
    refine T1 (fun w hC => mv (v := .iface _ _) rfl) ?_
    refine EC (inv1 has81 rfl (meth_rd _) rfl) (rd_ok E _ _ hE hrd (by omega) b _ _ _ n t _ hb hbR hbS (by omega)) ?_
    rintro v w2 ⟨rfl, hrd, hb, kp1⟩
    refine ⟨trivial, ?_⟩
    have hG := hG.kp kp1 hL
    have kp := kp.trans kp1
    refine T1 (fun w hC => mv (v := .tuple _) rfl) ?_
    refine T1 (fun w hC => ext2_0 rfl) ?_
    refine T1 (fun w hC => ext2_1 rfl) ?_
    refine T1 (fun w hC => asg (v := .int _ _) rfl) ?_
    refine T1 (fun w hC => asg (v := .nilIface) rfl) ?_
    refine mix_nil ?_
    refine then_n ?_
    -- region 6
    refine reg_lit ?_
    refine L1 (mv (v := .int _ _) rfl) ?_
    refine L1 (mv (v := .int _ _) rfl) ?_
    refine L1 (bi rfl rfl (bn_add (c := ((min (E.N - pos) m : Nat) : Int)) (by omega) (by omega) (by omega))) ?_
    refine L1 (asg (v := .int _ _) rfl) ?_
    refine wpList_nil ?_
    refine inb_n ?_
    refine then_n ?_
    refine ⟨1, _, by omega, rfl, rfl, rfl, rfl, hG, kp, .inr (.inl ⟨rfl, rfl, rfl, hrd, hb.congr fun j _ => ?_⟩)⟩
    simp only [Nat.add_zero, Nat.sub_zero]
  · skip
    refine slots (fc s0 (fc s1 (fc s2 (fc s6 (fc s7 fnil))))) ?_
    refine wp_seq ?_
    refine wp_seq ?_
    -- region 3
    refine reg_lit ?_
    refine L1 (mv (v := .int _ _) rfl) ?_
    refine L1 (mv (v := .int _ _) rfl) ?_
    refine L1 (bi rfl rfl (bn_lss (v := false) (decide_eq_false (by omega)))) ?_
    refine L1 (mv (v := .bool _) rfl) ?_
    refine Lskip (t := 17) (b := true) rfl (by decide) rfl ?_
    refine Lskip (t := 17) (b := true) rfl (by decide) rfl ?_
    refine L1 (pk_f rfl rfl) ?_
    refine wpList_nil ?_
    refine then_n ?_
    refine cond_f rfl ?_
    refine wp_exit ?_
    refine then_e ?_
    refine then_e ?_
    refine inb_same ?_
    refine then_n ?_
    refine wp_seq ?_
    refine wp_seq ?_
    -- region 7
    refine reg_lit ?_
    refine L1 (mv (v := .int _ _) rfl) ?_
    refine L1 (mv (v := .int _ _) rfl) ?_
    refine L1 (bi rfl rfl (bn_geq (v := true) (decide_eq_true (by omega)))) ?_
    refine wpList_nil ?_
    refine then_n ?_
    refine cond_t rfl ?_
    -- region 8
    refine reg_lit ?_
    refine L1 (asg (v := .nilIface) rfl) ?_
    refine wpList_nil ?_
    refine then_n ?_
    refine wp_ret ?_
    have ek : min (E.N - pos) m = m := by omega
    rw [ek] at hrd hb
    refine ret2 rfl rfl rfl ?_
    exact ⟨_, rfl, congrArg (fun x : Nat => Value.tuple #[.int .i64 (x : Int), .nilIface]) ek, hrd, hb, kp⟩
  · skip
    omega
theorem ral_short (E : Env) (w : World) (pos : Nat) (hE : E.Ok) (hG : Gl E w) (hrd : Rd E w pos) (b o m c n : Nat) (t : TypeId) (gb : Nat → Value) (hb : Bk w b n t gb) (hbR : b ≠ E.R) (hbS : b ≠ E.S) (hbB : E.B ≤ b) (hm : o + m ≤ n) (hmc : m ≤ c) (hm0 : 0 < m) (hn : n < 1000000) (hp : E.N < pos + m) :
    Ret 61 [.iface 43 (.pointer (some ⟨E.R, 0, none⟩)), .slice (some ⟨b, o, none⟩) m c, .int .i64 m] w fun v w' => v = .tuple #[.int .i64 ((E.N - pos : Nat) : Int), if E.N - pos = 0 then EOFv E else UEOFv E] ∧ Rd E w' E.N ∧ Bk w' b n t (cpd E gb o pos (E.N - pos)) ∧ Kp [E.R, b] w w' := by
  have hN := hE.N47
  have kp := Kp.refl [E.R, b] w
  have hL : ∀ x, x ∈ [E.R, b] → E.B ≤ x := by simp; exact ⟨hE.bR, hbB⟩
  have hle : pos ≤ E.N := by obtain ⟨_, _, _, _, _, _, _, h, _⟩ := hrd; exact h
  refine calls_fr (N := 46) Tryd.func61 rfl rfl (by simp) rfl ?_
  refine wp_seq ?_
  -- region 0
  refine reg_lit ?_
  refine L1 (asg (v := .int _ _) rfl) ?_
  refine L1 (asg (v := .nilIface) rfl) ?_
  refine wpList_nil ?_
  refine then_n ?_
  refine wp_seq ?_
  refine wp_seq ?_
  -- region 1
  refine reg_lit ?_
  refine L1 (mv (v := .slice _ _ _) rfl) ?_
  refine L1 (ln und22 rfl) ?_
  refine L1 (mv (v := .int _ _) rfl) ?_
  refine L1 (bi rfl rfl (bn_lss (v := false) (decide_eq_false (by omega)))) ?_
  refine wpList_nil ?_
  refine then_n ?_
  refine cond_f rfl ?_
  refine wp_skip ?_
  refine then_n ?_
  refine wp_seq ?_
  refine wp_block ?_
  refine loop_fr (fun k f w' => f 0 = .iface 43 (.pointer (some ⟨E.R, 0, none⟩)) ∧ f 1 = .slice (some ⟨b, o, none⟩) m c ∧ f 2 = .int .i64 (m : Int) ∧ Gl E w' ∧ Kp [E.R, b] w w' ∧ ((k = 2 ∧ f 6 = .int .i64 ((0 : Nat) : Int) ∧ f 7 = .nilIface ∧ Rd E w' pos ∧ Bk w' b n t gb) ∨ (k = 1 ∧ f 6 = .int .i64 ((min (E.N - pos) m : Nat) : Int) ∧ f 7 = .nilIface ∧ Rd E w' (pos + min (E.N - pos) m) ∧ Bk w' b n t (cpd E gb o pos (min (E.N - pos) m))) ∨ (k = 0 ∧ min (E.N - pos) m < m ∧ f 6 = .int .i64 ((min (E.N - pos) m : Nat) : Int) ∧ f 7 = EOFv E ∧ Rd E w' (pos + min (E.N - pos) m) ∧ Bk w' b n t (cpd E gb o pos (min (E.N - pos) m))))) 2 ⟨rfl, rfl, rfl, hG, kp, .inl ⟨rfl, rfl, rfl, hrd, hb⟩⟩ ?_
  clear hG kp hrd hb
  intro k f w1 HJ
  obtain ⟨s0, s1, s2, hG, kp, HJ⟩ := HJ
  have hmin : min (E.N - pos) m ≤ E.N - pos := Nat.min_le_left _ _
  have hmin2 : min (E.N - pos) m ≤ m := Nat.min_le_right _ _
  rcases HJ with ⟨rfl, s6, s7, hrd, hb⟩ | ⟨rfl, s6, s7, hrd, hb⟩ | ⟨rfl, hkm, s6, s7, hrd, hb⟩
  · skip
    by_cases hpe : E.N - pos = 0
    · skip
      refine slots (fc s0 (fc s1 (fc s2 (fc s6 (fc s7 fnil))))) ?_
      refine wp_seq ?_
      refine wp_seq ?_
      -- region 3
      refine reg_lit ?_
      refine L1 (mv (v := .int _ _) rfl) ?_
      refine L1 (mv (v := .int _ _) rfl) ?_
      refine L1 (bi rfl rfl (bn_lss (v := true) (decide_eq_true (by omega)))) ?_
      refine L1 (mv (v := .bool _) rfl) ?_
      refine L1g (t := 17) (b := true) rfl (by decide) rfl (mv (v := .nilIface) rfl) ?_
      refine L1g (t := 17) (b := true) rfl (by decide) rfl (ee_nil rfl rfl) ?_
      refine L1 (pk_t rfl rfl) ?_
      refine wpList_nil ?_
      refine then_n ?_
      refine cond_t rfl ?_
      refine wp_skip ?_
      refine then_n ?_
      refine wp_block ?_
      refine wp_seq ?_
      -- region 4
      refine reg_lit ?_
      refine L1 (asg (v := .int _ _) rfl) ?_
      refine wpList_nil ?_
      refine then_n ?_
      refine wp_seq ?_
      -- region 5 (its order is open)
      refine reg_mix [false, false, false, false, false, false, false, true, false, false, false, false, false] (fun _ => True) mixed (by kernel_rfl) ?_ ?_
      · exact trivial
      have hG := hG.drew
      have hrd := hrd.drew
      have hb := hb.drew
      have kp := kp.drew
      refine T1 (fun w hC => mv (v := .iface _ _) rfl) ?_
      refine T1 (fun w hC => mv (v := .slice _ _ _) rfl) ?_
      refine T1 (fun w hC => mv (v := .int _ _) rfl) ?_
      refine T1 (fun w hC => slb_l und22 sz5 rfl rfl rfl (by omega) (by omega)) ?_
      refine T1 (fun w hC => mkM rfl) ?_
      refine T1 (fun w hC => nilM43 rfl) ?_
      refine T1 (fun w hC => mv (v := .iface _ _) rfl) ?_
      refine EC (inv1 has81 rfl (meth_rd _) rfl) (rd_eof E _ _ hE hG hrd (by omega) _) ?_
      rintro v w2 ⟨rfl, hrd, kp1⟩
      refine ⟨trivial, ?_⟩
      have hG := hG.kp kp1 (by simp)
      have hb := hb.kp kp1 (by simp)
      have kp := kp.trans (kp1.mono (by simp))
      refine T1 (fun w hC => mv (v := .tuple _) rfl) ?_
      refine T1 (fun w hC => ext2_0 rfl) ?_
      refine T1 (fun w hC => ext2_1 rfl) ?_
      refine T1 (fun w hC => asg (v := .int _ _) rfl) ?_
      refine T1 (fun w hC => asg (v := .iface _ _) rfl) ?_
      refine mix_nil ?_
      refine then_n ?_
      -- region 6
      refine reg_lit ?_
      refine L1 (mv (v := .int _ _) rfl) ?_
      refine L1 (mv (v := .int _ _) rfl) ?_
      refine L1 (bi rfl rfl (bn_add (c := ((min (E.N - pos) m : Nat) : Int)) (by omega) (by omega) (by omega))) ?_
      refine L1 (asg (v := .int _ _) rfl) ?_
      refine wpList_nil ?_
      refine inb_n ?_
      refine then_n ?_
      have e0 : min (E.N - pos) m = 0 := by omega
      refine ⟨0, _, by omega, rfl, rfl, rfl, rfl, hG, kp, .inr (.inr ⟨rfl, by omega, rfl, rfl, by rw [e0]; exact hrd, hb.congr fun j _ => ?_⟩)⟩
      rw [e0]
      unfold cpd
      rw [if_neg (by omega)]
    · skip
      refine slots (fc s0 (fc s1 (fc s2 (fc s6 (fc s7 fnil))))) ?_
      refine wp_seq ?_
      refine wp_seq ?_
      -- region 3
      refine reg_lit ?_
      refine L1 (mv (v := .int _ _) rfl) ?_
      refine L1 (mv (v := .int _ _) rfl) ?_
      refine L1 (bi rfl rfl (bn_lss (v := true) (decide_eq_true (by omega)))) ?_
      refine L1 (mv (v := .bool _) rfl) ?_
      refine L1g (t := 17) (b := true) rfl (by decide) rfl (mv (v := .nilIface) rfl) ?_
      refine L1g (t := 17) (b := true) rfl (by decide) rfl (ee_nil rfl rfl) ?_
      refine L1 (pk_t rfl rfl) ?_
      refine wpList_nil ?_
      refine then_n ?_
      refine cond_t rfl ?_
      refine wp_skip ?_
      refine then_n ?_
      refine wp_block ?_
      refine wp_seq ?_
      -- region 4
      refine reg_lit ?_
      refine L1 (asg (v := .int _ _) rfl) ?_
      refine wpList_nil ?_
      refine then_n ?_
      refine wp_seq ?_
      -- region 5 (its order is open)
      refine reg_mix [false, false, false, false, false, false, false, true, false, false, false, false, false] (fun _ => True) mixed (by kernel_rfl) ?_ ?_
      · exact trivial
      have hG := hG.drew
      have hrd := hrd.drew
      have hb := hb.drew
      have kp := kp.drew
      refine T1 (fun w hC => mv (v := .iface _ _) rfl) ?_
      refine T1 (fun w hC => mv (v := .slice _ _ _) rfl) ?_
      refine T1 (fun w hC => mv (v := .int _ _) rfl) ?_
      refine T1 (fun w hC => slb_l und22 sz5 rfl rfl rfl (by omega) (by omega)) ?_
      refine T1 (fun w hC => mkM rfl) ?_
      refine T1 (fun w hC => nilM43 rfl) ?_
      refine T1 (fun w hC => mv (v := .iface _ _) rfl) ?_
      refine EC (inv1 has81 rfl (meth_rd _) rfl) (rd_ok E _ _ hE hrd (by omega) b _ _ _ n t _ hb hbR hbS (by omega)) ?_
      rintro v w2 ⟨rfl, hrd, hb, kp1⟩
      refine ⟨trivial, ?_⟩
      have hG := hG.kp kp1 hL
      have kp := kp.trans kp1
      refine T1 (fun w hC => mv (v := .tuple _) rfl) ?_
      refine T1 (fun w hC => ext2_0 rfl) ?_
      refine T1 (fun w hC => ext2_1 rfl) ?_
      refine T1 (fun w hC => asg (v := .int _ _) rfl) ?_
      refine T1 (fun w hC => asg (v := .nilIface) rfl) ?_
      refine mix_nil ?_
      refine then_n ?_
      -- region 6
      refine reg_lit ?_
      refine L1 (mv (v := .int _ _) rfl) ?_
      refine L1 (mv (v := .int _ _) rfl) ?_
      refine L1 (bi rfl rfl (bn_add (c := ((min (E.N - pos) m : Nat) : Int)) (by omega) (by omega) (by omega))) ?_
      refine L1 (asg (v := .int _ _) rfl) ?_
      refine wpList_nil ?_
      refine inb_n ?_
      refine then_n ?_
      refine ⟨1, _, by omega, rfl, rfl, rfl, rfl, hG, kp, .inr (.inl ⟨rfl, rfl, rfl, hrd, hb.congr fun j _ => ?_⟩)⟩
      simp only [Nat.add_zero, Nat.sub_zero]
  · skip
    refine slots (fc s0 (fc s1 (fc s2 (fc s6 (fc s7 fnil))))) ?_
    refine wp_seq ?_
    refine wp_seq ?_
    -- region 3
    refine reg_lit ?_
    refine L1 (mv (v := .int _ _) rfl) ?_
    refine L1 (mv (v := .int _ _) rfl) ?_
    refine L1 (bi rfl rfl (bn_lss (v := true) (decide_eq_true (by omega)))) ?_
    refine L1 (mv (v := .bool _) rfl) ?_
    refine L1g (t := 17) (b := true) rfl (by decide) rfl (mv (v := .nilIface) rfl) ?_
    refine L1g (t := 17) (b := true) rfl (by decide) rfl (ee_nil rfl rfl) ?_
    refine L1 (pk_t rfl rfl) ?_
    refine wpList_nil ?_
    refine then_n ?_
    refine cond_t rfl ?_
    refine wp_skip ?_
    refine then_n ?_
    refine wp_block ?_
    refine wp_seq ?_
    -- region 4
    refine reg_lit ?_
    refine L1 (asg (v := .int _ _) rfl) ?_
    refine wpList_nil ?_
    refine then_n ?_
    refine wp_seq ?_
    -- region 5 (its order is open)
    refine reg_mix [false, false, false, false, false, false, false, true, false, false, false, false, false] (fun _ => True) mixed (by kernel_rfl) ?_ ?_
    · exact trivial
    have hG := hG.drew
    have hrd := hrd.drew
    have hb := hb.drew
    have kp := kp.drew
    refine T1 (fun w hC => mv (v := .iface _ _) rfl) ?_
    refine T1 (fun w hC => mv (v := .slice _ _ _) rfl) ?_
    refine T1 (fun w hC => mv (v := .int _ _) rfl) ?_
    refine T1 (fun w hC => slb_l und22 sz5 rfl rfl rfl (by omega) (by omega)) ?_
    refine T1 (fun w hC => mkM rfl) ?_
    refine T1 (fun w hC => nilM43 rfl) ?_
    refine T1 (fun w hC => mv (v := .iface _ _) rfl) ?_
    refine EC (inv1 has81 rfl (meth_rd _) rfl) (rd_eof E _ _ hE hG hrd (by omega) _) ?_
    rintro v w2 ⟨rfl, hrd, kp1⟩
    refine ⟨trivial, ?_⟩
    have hG := hG.kp kp1 (by simp)
    have hb := hb.kp kp1 (by simp)
    have kp := kp.trans (kp1.mono (by simp))
    refine T1 (fun w hC => mv (v := .tuple _) rfl) ?_
    refine T1 (fun w hC => ext2_0 rfl) ?_
    refine T1 (fun w hC => ext2_1 rfl) ?_
    refine T1 (fun w hC => asg (v := .int _ _) rfl) ?_
    refine T1 (fun w hC => asg (v := .iface _ _) rfl) ?_
    refine mix_nil ?_
    refine then_n ?_
    -- region 6
    refine reg_lit ?_
    refine L1 (mv (v := .int _ _) rfl) ?_
    refine L1 (mv (v := .int _ _) rfl) ?_
    refine L1 (bi rfl rfl (bn_add (c := ((min (E.N - pos) m : Nat) : Int)) (by omega) (by omega) (by omega))) ?_
    refine L1 (asg (v := .int _ _) rfl) ?_
    refine wpList_nil ?_
    refine inb_n ?_
    refine then_n ?_
    refine ⟨0, _, by omega, rfl, rfl, rfl, rfl, hG, kp, .inr (.inr ⟨rfl, by omega, rfl, rfl, hrd, hb⟩)⟩
  · skip
    refine slots (fc s0 (fc s1 (fc s2 (fc s6 (fc s7 fnil))))) ?_
    by_cases hk0 : min (E.N - pos) m = 0
    · skip
      refine wp_seq ?_
      refine wp_seq ?_
      -- region 3
      refine reg_lit ?_
      refine L1 (mv (v := .int _ _) rfl) ?_
      refine L1 (mv (v := .int _ _) rfl) ?_
      refine L1 (bi rfl rfl (bn_lss (v := true) (decide_eq_true (by omega)))) ?_
      refine L1 (mv (v := .bool _) rfl) ?_
      refine L1g (t := 17) (b := true) rfl (by decide) rfl (mv (v := .iface _ _) rfl) ?_
      refine L1g (t := 17) (b := true) rfl (by decide) rfl (ee_held rfl rfl) ?_
      refine L1 (pk_t rfl rfl) ?_
      refine wpList_nil ?_
      refine then_n ?_
      refine cond_f rfl ?_
      refine wp_exit ?_
      refine then_e ?_
      refine then_e ?_
      refine inb_same ?_
      refine then_n ?_
      refine wp_seq ?_
      refine wp_seq ?_
      -- region 7
      refine reg_lit ?_
      refine L1 (mv (v := .int _ _) rfl) ?_
      refine L1 (mv (v := .int _ _) rfl) ?_
      refine L1 (bi rfl rfl (bn_geq (v := false) (decide_eq_false (by omega)))) ?_
      refine wpList_nil ?_
      refine then_n ?_
      refine cond_f rfl ?_
      refine wp_seq ?_
      -- region 9
      refine reg_lit ?_
      refine L1 (mv (v := .int _ _) rfl) ?_
      refine L1 (bi rfl rfl (bn_gtr (v := false) (decide_eq_false (by omega)))) ?_
      refine L1 (mv (v := .bool _) rfl) ?_
      refine Lskip (t := 40) (b := true) rfl (by decide) rfl ?_
      refine Lskip (t := 40) (b := true) rfl (by decide) rfl ?_
      refine Lskip (t := 40) (b := true) rfl (by decide) rfl ?_
      refine L1 (pk_f rfl rfl) ?_
      refine wpList_nil ?_
      refine then_n ?_
      refine cond_f rfl ?_
      refine wp_skip ?_
      refine then_n ?_
      refine wp_ret ?_
      refine ret2 rfl rfl rfl ?_
      rw [show min (E.N - pos) m = E.N - pos by omega] at hrd hb ⊢
      exact ⟨_, rfl, by rw [if_pos (by omega)]; rfl, by rwa [show pos + (E.N - pos) = E.N by omega] at hrd, hb, kp⟩
    · skip
      refine wp_seq ?_
      refine wp_seq ?_
      -- region 3
      refine reg_lit ?_
      refine L1 (mv (v := .int _ _) rfl) ?_
      refine L1 (mv (v := .int _ _) rfl) ?_
      refine L1 (bi rfl rfl (bn_lss (v := true) (decide_eq_true (by omega)))) ?_
      refine L1 (mv (v := .bool _) rfl) ?_
      refine L1g (t := 17) (b := true) rfl (by decide) rfl (mv (v := .iface _ _) rfl) ?_
      refine L1g (t := 17) (b := true) rfl (by decide) rfl (ee_held rfl rfl) ?_
      refine L1 (pk_t rfl rfl) ?_
      refine wpList_nil ?_
      refine then_n ?_
      refine cond_f rfl ?_
      refine wp_exit ?_
      refine then_e ?_
      refine then_e ?_
      refine inb_same ?_
      refine then_n ?_
      refine wp_seq ?_
      refine wp_seq ?_
      -- region 7
      refine reg_lit ?_
      refine L1 (mv (v := .int _ _) rfl) ?_
      refine L1 (mv (v := .int _ _) rfl) ?_
      refine L1 (bi rfl rfl (bn_geq (v := false) (decide_eq_false (by omega)))) ?_
      refine wpList_nil ?_
      refine then_n ?_
      refine cond_f rfl ?_
      refine wp_seq ?_
      -- region 9
      refine reg_lit ?_
      refine L1 (mv (v := .int _ _) rfl) ?_
      refine L1 (bi rfl rfl (bn_gtr (v := true) (decide_eq_true (by omega)))) ?_
      refine L1 (mv (v := .bool _) rfl) ?_
      refine L1g (t := 40) (b := true) rfl (by decide) rfl (mv (v := .iface _ _) rfl) ?_
      refine L1g (t := 40) (b := true) rfl (by decide) rfl (ld62 (v := .iface _ _) rfl hG.eof) ?_
      refine L1g (t := 40) (b := true) rfl (by decide) rfl (ee_run rfl rfl (eq_same _)) ?_
      refine L1 (pk_t rfl rfl) ?_
      refine wpList_nil ?_
      refine then_n ?_
      refine cond_t rfl ?_
      -- region 10
      refine reg_lit ?_
      refine L1 (ld62 (v := .iface _ _) rfl hG.ueof) ?_
      refine L1 (asg (v := .iface _ _) rfl) ?_
      refine wpList_nil ?_
      refine then_n ?_
      refine wp_ret ?_
      refine ret2 rfl rfl rfl ?_
      rw [show min (E.N - pos) m = E.N - pos by omega] at hrd hb ⊢
      exact ⟨_, rfl, by rw [if_neg (by omega)]; rfl, by rwa [show pos + (E.N - pos) = E.N by omega] at hrd, hb, kp⟩
theorem rdf_ok (E : Env) (w : World) (pos : Nat) (hE : E.Ok) (hG : Gl E w) (hrd : Rd E w pos) (b o m c n : Nat) (t : TypeId) (gb : Nat → Value) (hb : Bk w b n t gb) (hbR : b ≠ E.R) (hbS : b ≠ E.S) (hbB : E.B ≤ b) (hm : o + m ≤ n) (hmc : m ≤ c) (hm0 : 0 < m) (hn : n < 1000000) (hp : pos + m ≤ E.N) :
    Ret 49 [.iface 43 (.pointer (some ⟨E.R, 0, none⟩)), .slice (some ⟨b, o, none⟩) m c] w fun v w' => v = .tuple #[.int .i64 m, .nilIface] ∧ Rd E w' (pos + m) ∧ Bk w' b n t (cpd E gb o pos m) ∧ Kp [E.R, b] w w' := by
  refine calls_fr (N := 13) Tryd.func49 rfl rfl (by simp) rfl ?_
  refine wp_seq ?_
  -- region 0
  refine reg_lit ?_
  refine L1 (asg (v := .int _ _) rfl) ?_
  refine L1 (asg (v := .nilIface) rfl) ?_
  refine wpList_nil ?_
  refine then_n ?_
  refine wp_seq ?_
  -- region 1
  refine reg_lit ?_
  refine L1 (mv (v := .iface _ _) rfl) ?_
  refine L1 (mv (v := .slice _ _ _) rfl) ?_
  refine L1 (mv (v := .slice _ _ _) rfl) ?_
  refine L1 (ln und22 rfl) ?_
  refine LC (cl3 has61 rfl rfl rfl rfl) (ral_ok E w pos hE hG hrd b o m c n t gb hb hbR hbS hbB hm hmc hm0 hn hp) ?_
  rintro v w1 ⟨rfl, hr⟩
  refine L1 (ext2_0 rfl) ?_
  refine L1 (ext2_1 rfl) ?_
  refine L1 (asg (v := .int _ _) rfl) ?_
  refine L1 (asg rfl) ?_
  refine wpList_nil ?_
  refine then_n ?_
  refine wp_ret ?_
  refine ret2 rfl rfl rfl ?_
  exact ⟨_, rfl, rfl, hr⟩
theorem rdf_short (E : Env) (w : World) (pos : Nat) (hE : E.Ok) (hG : Gl E w) (hrd : Rd E w pos) (b o m c n : Nat) (t : TypeId) (gb : Nat → Value) (hb : Bk w b n t gb) (hbR : b ≠ E.R) (hbS : b ≠ E.S) (hbB : E.B ≤ b) (hm : o + m ≤ n) (hmc : m ≤ c) (hm0 : 0 < m) (hn : n < 1000000) (hp : E.N < pos + m) :
    Ret 49 [.iface 43 (.pointer (some ⟨E.R, 0, none⟩)), .slice (some ⟨b, o, none⟩) m c] w fun v w' => v = .tuple #[.int .i64 ((E.N - pos : Nat) : Int), if E.N - pos = 0 then EOFv E else UEOFv E] ∧ Rd E w' E.N ∧ Bk w' b n t (cpd E gb o pos (E.N - pos)) ∧ Kp [E.R, b] w w' := by
  refine calls_fr (N := 13) Tryd.func49 rfl rfl (by simp) rfl ?_
  refine wp_seq ?_
  -- region 0
  refine reg_lit ?_
  refine L1 (asg (v := .int _ _) rfl) ?_
  refine L1 (asg (v := .nilIface) rfl) ?_
  refine wpList_nil ?_
  refine then_n ?_
  refine wp_seq ?_
  -- region 1
  refine reg_lit ?_
  refine L1 (mv (v := .iface _ _) rfl) ?_
  refine L1 (mv (v := .slice _ _ _) rfl) ?_
  refine L1 (mv (v := .slice _ _ _) rfl) ?_
  refine L1 (ln und22 rfl) ?_
  refine LC (cl3 has61 rfl rfl rfl rfl) (ral_short E w pos hE hG hrd b o m c n t gb hb hbR hbS hbB hm hmc hm0 hn hp) ?_
  rintro v w1 ⟨rfl, hr⟩
  refine L1 (ext2_0 rfl) ?_
  refine L1 (ext2_1 rfl) ?_
  refine L1 (asg (v := .int _ _) rfl) ?_
  refine L1 (asg rfl) ?_
  refine wpList_nil ?_
  refine then_n ?_
  refine wp_ret ?_
  refine ret2 rfl rfl rfl ?_
  exact ⟨_, rfl, rfl, hr⟩
theorem ral_zero (w : World) (r : Value) (a : Option Addr) (c : Nat) :
    Ret 61 [r, .slice a 0 c, .int .i64 ((0 : Nat) : Int)] w fun v w' => v = .tuple #[.int .i64 ((0 : Nat) : Int), .nilIface] ∧ w' = w := by
  refine calls_fr (N := 46) Tryd.func61 rfl rfl (by simp) rfl ?_
  refine wp_seq ?_
  -- region 0
  refine reg_lit ?_
  refine L1 (asg (v := .int _ _) rfl) ?_
  refine L1 (asg (v := .nilIface) rfl) ?_
  refine wpList_nil ?_
  refine then_n ?_
  refine wp_seq ?_
  refine wp_seq ?_
  -- region 1
  refine reg_lit ?_
  refine L1 (mv (v := .slice _ _ _) rfl) ?_
  refine L1 (ln und22 rfl) ?_
  refine L1 (mv (v := .int _ _) rfl) ?_
  refine L1 (bi rfl rfl (bn_lss (v := false) (decide_eq_false (by omega)))) ?_
  refine wpList_nil ?_
  refine then_n ?_
  refine cond_f rfl ?_
  refine wp_skip ?_
  refine then_n ?_
  refine wp_seq ?_
  refine wp_block ?_
  refine loop_fr (fun k f w' => w' = w ∧ f 2 = .int .i64 ((0 : Nat) : Int) ∧ f 6 = .int .i64 ((0 : Nat) : Int)) 0 ⟨rfl, rfl, rfl⟩ ?_
  rintro k f _ ⟨rfl, s2, s6⟩
  refine slots (fc s2 (fc s6 fnil)) ?_
  refine wp_seq ?_
  refine wp_seq ?_
  -- region 3
  refine reg_lit ?_
  refine L1 (mv (v := .int _ _) rfl) ?_
  refine L1 (mv (v := .int _ _) rfl) ?_
  refine L1 (bi rfl rfl (bn_lss (v := false) (decide_eq_false (by omega)))) ?_
  refine L1 (mv (v := .bool _) rfl) ?_
  refine Lskip (t := 17) (b := true) rfl (by decide) rfl ?_
  refine Lskip (t := 17) (b := true) rfl (by decide) rfl ?_
  refine L1 (pk_f rfl rfl) ?_
  refine wpList_nil ?_
  refine then_n ?_
  refine cond_f rfl ?_
  refine wp_exit ?_
  refine then_e ?_
  refine then_e ?_
  refine inb_same ?_
  refine then_n ?_
  refine wp_seq ?_
  refine wp_seq ?_
  -- region 7
  refine reg_lit ?_
  refine L1 (mv (v := .int _ _) rfl) ?_
  refine L1 (mv (v := .int _ _) rfl) ?_
  refine L1 (bi rfl rfl (bn_geq (v := true) (decide_eq_true (by omega)))) ?_
  refine wpList_nil ?_
  refine then_n ?_
  refine cond_t rfl ?_
  -- region 8
  refine reg_lit ?_
  refine L1 (asg (v := .nilIface) rfl) ?_
  refine wpList_nil ?_
  refine then_n ?_
  refine wp_ret ?_
  refine ret2 rfl rfl rfl ?_
  exact ⟨_, rfl, rfl, rfl⟩
theorem rdf_zero (w : World) (r : Value) (a : Option Addr) (c : Nat) :
    Ret 49 [r, .slice a 0 c] w fun v w' => v = .tuple #[.int .i64 ((0 : Nat) : Int), .nilIface] ∧ w' = w := by
  refine calls_fr (N := 13) Tryd.func49 rfl rfl (by simp) rfl ?_
  refine wp_seq ?_
  -- region 0
  refine reg_lit ?_
  refine L1 (asg (v := .int _ _) rfl) ?_
  refine L1 (asg (v := .nilIface) rfl) ?_
  refine wpList_nil ?_
  refine then_n ?_
  refine wp_seq ?_
  -- region 1
  refine reg_lit ?_
  refine L1 (mv (v := r) rfl) ?_
  refine L1 (mv (v := .slice _ _ _) rfl) ?_
  refine L1 (mv (v := .slice _ _ _) rfl) ?_
  refine L1 (ln und22 rfl) ?_
  refine LC (cl3 has61 rfl rfl rfl rfl) (ral_zero w r a c) ?_
  rintro v w1 ⟨rfl, hr⟩
  refine L1 (ext2_0 rfl) ?_
  refine L1 (ext2_1 rfl) ?_
  refine L1 (asg (v := .int _ _) rfl) ?_
  refine L1 (asg rfl) ?_
  refine wpList_nil ?_
  refine then_n ?_
  refine wp_ret ?_
  refine ret2 rfl rfl rfl ?_
  exact ⟨_, rfl, rfl, hr⟩
end Go.Proofs.YtejeloeaklpinaaDoor
