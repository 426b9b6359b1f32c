/- A block's head. Its walks are printed by gen/g_next.py. -/
import Derived.Test.YtejeloeaklpinaaDoorStored2
namespace Go.Proofs.YtejeloeaklpinaaDoor
attribute [local irreducible] wpList wpStill wpMix Code.wp Calls fr
theorem rdTo_of {p pos pos' n : Nat} (h1 : pos ≤ pos') (h2 : pos' = pos ∨ 8 * pos' < p + n + 8) (h3 : p + n ≤ 8 * pos') : pos' = rdTo p pos n := by
  unfold rdTo; omega
theorem Bt.adv {E : Env} {g g' : Nat → Value} {p pos : Nat} (h : Bt E g p pos) (k : Nat) (hk : p + k ≤ 8 * pos) (h2 : ∃ x, g' 2 = .int .i64 x) (h3 : g' 3 = .int .u32 ((bv E.D p (8 * pos - p) / 2 ^ k : Nat) : Int)) (h4 : g' 4 = .int .u64 ((8 * pos - p - k : Nat) : Int)) : Bt E g' (p + k) pos := by
  have h0 := h.le
  have h1 := h.l32
  refine ⟨h2, ?_, ?_, by omega, by omega⟩
  · rw [h3, bv_shift _ _ _ _ (by omega), show 8 * pos - p - k = 8 * pos - (p + k) by omega]
  · rw [h4, show 8 * pos - p - k = 8 * pos - (p + k) by omega]
theorem Wd.offs {E : Env} {w : World} {g g' hs bs cs : Nat → Value} {pos : Nat} {L : List Nat} (_ : Wd E w g' hs bs cs pos) (o : Off L g g') : Off L g g' := o
theorem Bt.advW {E : Env} {w : World} {g g' hs bs cs : Nat → Value} {p pos : Nat} (_ : Wd E w g' hs bs cs pos) (h : Bt E g p pos) (k : Nat) (hk : p + k ≤ 8 * pos) (h2 : ∃ x, g' 2 = .int .i64 x) (h3 : g' 3 = .int .u32 ((bv E.D p (8 * pos - p) / 2 ^ k : Nat) : Int)) (h4 : g' 4 = .int .u64 ((8 * pos - p - k : Nat) : Int)) : Bt E g' (p + k) pos := h.adv k hk h2 h3 h4
/-- A block with codes: what its step comes to. -/
def C44 : Prop := ∀ (E : Env) (w : World) (a : A) (hl : Cd) (hd : Option Cd) (c : Option (Nat × Nat)) (g hs bs cs : Nat → Value), E.Ok → Cr E w g hs bs cs a.pos a.out a.fl (a.out.length % 32768) a.e → Live E w g a → SSm g a.md → a.md = .huff hl hd c → a.e = a.fl → a.err = 0 →
  Ret 44 [fp E] w fun v w' => v = .tuple #[] ∧ (∃ b, Rep E w' b ∧ Runs E.S' a b) ∧ Kp E.L w w'
def C43 : Prop := ∀ w : World, Ret 43 [] w fun v w' => ∃ X gx, v = .pointer (some ⟨X, 0, none⟩) ∧ w.heap.size ≤ X ∧ Bk w' X 515 86 gx ∧ (∀ E, HTab E w' gx 0 (cdL fixL)) ∧ LkOk (cdL fixL) ∧ Kp [] w w'
def C45 : Prop := ∀ (E : Env) (w : World) (a : A) (g hs bs cs : Nat → Value), E.Ok → Cr E w g hs bs cs a.pos a.out a.fl (a.out.length % 32768) a.e → Live E w g a → a.md = .next → a.err = 0 →
  Ret 45 [fp E] w fun v w' => ∃ g' bs' cs' b, Kp E.L w w' ∧ Cr E w' g' hs bs' cs' b.pos a.out a.fl (a.out.length % 32768) a.e ∧ b.out = a.out ∧ b.fl = a.fl ∧ b.e = a.e ∧ b.fin = a.fin ∧
    ((ErrV E b.err v ∧ b.err ≠ 0 ∧ mDyn E.S' a = (b, true)) ∨
     (v = .nilIface ∧ b.err = 0 ∧ ∃ hl hd, mDyn E.S' a = (b, false) ∧ b.md = .huff hl (some hd) none ∧ LkOk hl ∧ LkOk hd ∧ HTab E w' g' 5 hl ∧ HTab E w' g' 520 hd ∧ Bt E g' b.p b.pos ∧ (∀ j, 1035 ≤ j → g' j = g j)))
/-- What is asked of the codes, where a block with codes comes. -/
def HC : Prop := C43 ∧ C44 ∧ C45

theorem Wd.lts {E : Env} {w : World} {g hs bs cs : Nat → Value} {pos : Nat} (h : Wd E w g hs bs cs pos) (b : Nat) (hb : b ∈ E.X) : b < w.heap.size := by
  simp only [Env.X, List.mem_cons, List.not_mem_nil, or_false] at hb
  rcases hb with rfl | rfl | rfl | rfl | rfl | rfl | rfl
  · exact h.F.lt
  · exact h.H.lt
  · obtain ⟨_, _, _, hR, _⟩ := h.rd; exact hR.lt
  · exact h.bt.lt
  · exact h.cb.lt
  · exact h.bu.1
  · exact h.bu.2
theorem nextBlock_w (E : Env) (w : World) (g hs bs cs : Nat → Value) (p pos : Nat) (hE : E.Ok) (hW : Wd E w g hs bs cs pos) (hS : Stc E g) (hB : Bt E g p pos) (he : g 1048 = .nilIface) (Q : World → Prop)
    (hsh : ∀ w' g', 8 * E.N < p + 3 → Wd E w' g' hs bs cs E.N → g' 1048 = UEOFv E → Off [2, 3, 4, 1048] g g' → Kp E.L w w' → Q w')
    (hbad : p + 3 ≤ 8 * E.N → bv E.D p 3 / 2 ≠ 0 ∧ bv E.D p 3 / 2 ≠ 1 ∧ bv E.D p 3 / 2 ≠ 2 → ∀ w' g' pos', pos' = rdTo p pos 3 → Wd E w' g' hs bs cs pos' → (∃ x, g' 1048 = .iface 107 (.int .i64 x)) → Off [2, 3, 4, 1047, 1048] g g' → Kp E.L w w' → Q w')
    (h0 : bv E.D p 3 / 2 = 0 → ∀ w' g' pos', pos' = rdTo p pos 3 → Wd E w' g' hs bs cs pos' → g' 1047 = .bool (decide (bv E.D p 3 % 2 = 1)) → g' 1048 = .nilIface → Bt E g' (p + 3) pos' → Off [2, 3, 4, 1047, 1048] g g' → Kp E.L w w' → Ret 42 [fp E] w' fun v w2 => v = .tuple #[] ∧ Q w2)
    (h1 : p + 3 ≤ 8 * E.N → bv E.D p 3 / 2 = 1 → C43 ∧ ∀ w' g' X gx pos', pos' = rdTo p pos 3 → Wd E w' g' hs bs cs pos' → g' 1047 = .bool (decide (bv E.D p 3 % 2 = 1)) → g' 1048 = .nilIface → g' 1050 = .pointer (some ⟨X, 0, none⟩) → g' 1051 = .pointer none → X ∉ E.X → Bk w' X 515 86 gx → HTab E w' gx 0 (cdL fixL) → LkOk (cdL fixL) →
      Bt E g' (p + 3) pos' → Off [2, 3, 4, 1047, 1048, 1050, 1051] g g' → Kp E.L w w' → Ret 44 [fp E] w' fun v w2 => v = .tuple #[] ∧ Q w2)
    (h2 : bv E.D p 3 / 2 = 2 → ∀ w' g' pos', pos' = rdTo p pos 3 → Wd E w' g' hs bs cs pos' → g' 1047 = .bool (decide (bv E.D p 3 % 2 = 1)) → g' 1048 = .nilIface → Bt E g' (p + 3) pos' → Off [2, 3, 4, 1047, 1048] g g' → Kp E.L w w' → Ret 45 [fp E] w' fun v w2 => ∃ g3 bs2 cs2 pos3, Wd E w2 g3 hs bs2 cs2 pos3 ∧ v.oneCell' = true ∧ Kp E.L w' w2 ∧
      (((∃ t x, v = .iface t x) ∧ ∀ w3 g4, Wd E w3 g4 hs bs2 cs2 pos3 → g4 1048 = v → Off [1048] g3 g4 → Kp E.L w2 w3 → Kp E.L w w3 → Q w3) ∨
       (v = .nilIface ∧ ∀ w3 g4, Wd E w3 g4 hs bs2 cs2 pos3 → g4 1048 = .nilIface → g4 1050 = .pointer (some ⟨E.F, 5, none⟩) → g4 1051 = .pointer (some ⟨E.F, 520, none⟩) → Off [1048, 1050, 1051] g3 g4 → Kp E.L w2 w3 → Kp E.L w w3 → Ret 44 [fp E] w3 fun v w4 => v = .tuple #[] ∧ Q w4))) :
    Ret 35 [fp E] w fun v w' => v = .tuple #[] ∧ Q w' := by
  have kp := Kp.refl E.L w
  have hN := hE.N47
  have hp0 := hB.le
  have hp1 := hB.l32
  refine calls_fr (N := 103) Tryd.func35 rfl rfl (by simp [fp]) rfl ?_
  refine wp_seq ?_
  refine wp_block ?_
  refine loop_fr (fun k f w' => f 0 = fp E ∧ ∃ g' pos', Wd E w' g' hs bs cs pos' ∧ Bt E g' p pos' ∧ Off [2, 3, 4, 1048] g g' ∧ g' 1048 = .nilIface ∧ Kp E.L w w' ∧ pos ≤ pos' ∧ (pos' = pos ∨ 8 * pos' < p + 3 + 8) ∧ k = E.N - pos') (E.N - pos) ⟨rfl, g, pos, hW, hB, Off.refl _ _, he, kp, Nat.le_refl _, .inl rfl, rfl⟩ ?_
  clear hW kp hp0 hp1
  intro k f w1 HJ
  obtain ⟨s0, g1, pos', hW, hB, ho, he, kp, hpp, hpq, rfl⟩ := HJ
  have hp0 := hB.le
  have hp1 := hB.l32
  have hS := hS.off ho (by decide)
  refine slots (fc s0 fnil) ?_
  refine wp_seq ?_
  refine wp_seq ?_
  -- region 0
  refine reg_lit ?_
  refine L1 (mv (v := .pointer _) rfl) ?_
  refine L1 (nilP rfl) ?_
  refine L1 (fa95_4 rfl) ?_
  refine L1 (ld38 rfl (hW.F.cellv (by decide) hB.nb)) ?_
  refine L1 (bi rfl rfl (bn_lss (v := decide (8 * pos' - p < 3)) (decide_eq_decide.2 (by omega)))) ?_
  refine wpList_nil ?_
  refine then_n ?_
  refine cond_d (p := 8 * pos' - p < 3) rfl (fun hlt => ?_) (fun hlt => ?_)
  · -- more bits are wanted
    by_cases hpn : pos' < E.N
    · -- eight bits more
      refine wp_skip ?_
      refine then_n ?_
      refine wp_block ?_
      refine wp_seq ?_
      -- region 1
      refine reg_lit ?_
      refine L1 (mv (v := .pointer _) rfl) ?_
      refine L1 (mv (v := .pointer _) rfl) ?_
      refine LC (cl1 has41 rfl rfl) (more_ok E _ g1 hs bs cs p pos' hE hW hS hB (by omega) hpn) ?_
      rintro v w1 ⟨rfl, g2, hW, hB, ho2, kp1⟩
      have kp := kp.trans kp1
      refine L1 (nilP rfl) ?_
      refine L1 (fa95_14 rfl) ?_
      refine Lst62 (v := .nilIface) rfl rfl rfl hW.F (by decide) ?_
      intro w1 hb1 kp1
      have hW := hW.setF hE hb1 kp1
      have kp := kp.F kp1
      clear hb1 kp1
      refine wpList_nil ?_
      refine then_n ?_
      refine wp_seq ?_
      -- region 2
      refine reg_lit ?_
      refine L1 (mv (v := .pointer _) rfl) ?_
      refine L1 (nilP rfl) ?_
      refine L1 (fa95_14 rfl) ?_
      refine L1 (ld62 rfl (hW.F.cellv (v := .nilIface) (by decide) rfl)) ?_
      refine L1 (en_nil rfl rfl) ?_
      refine wpList_nil ?_
      refine then_n ?_
      refine cond_f rfl ?_
      refine wp_skip ?_
      refine inb_n ?_
      refine then_n ?_
      have hle := hW.rd.le
      refine ⟨E.N - (pos' + 1), _, by omega, rfl, rfl, _, pos' + 1, hW, hB.off ((Off.refl [1048] g2).upd (by decide) _) (by decide), (ho.trans (ho2.mono (by decide))).upd (by decide) _, rfl, kp, by omega, .inr (by omega), rfl⟩
    · -- there are none
      refine wp_skip ?_
      refine then_n ?_
      refine wp_block ?_
      refine wp_seq ?_
      -- region 1
      refine reg_lit ?_
      refine L1 (mv (v := .pointer _) rfl) ?_
      refine L1 (mv (v := .pointer _) rfl) ?_
      refine LC (cl1 has41 rfl rfl) (more_short E _ g1 hs bs cs p pos' hE hW hS hB (by have := hW.rd.le; omega)) ?_
      rintro v w1 ⟨rfl, hW, kp1⟩
      have kp := kp.trans kp1
      refine L1 (nilP rfl) ?_
      refine L1 (fa95_14 rfl) ?_
      refine Lst62 (v := (UEOFv E)) rfl rfl rfl hW.F (by decide) ?_
      intro w1 hb1 kp1
      have hW := hW.setF hE hb1 kp1
      have kp := kp.F kp1
      clear hb1 kp1
      refine wpList_nil ?_
      refine then_n ?_
      refine wp_seq ?_
      -- region 2
      refine reg_lit ?_
      refine L1 (mv (v := .pointer _) rfl) ?_
      refine L1 (nilP rfl) ?_
      refine L1 (fa95_14 rfl) ?_
      refine L1 (ld62 (v := UEOFv E) rfl (hW.F.cellv (by decide) rfl)) ?_
      refine L1 (en_held (u := 131) rfl rfl) ?_
      refine wpList_nil ?_
      refine then_n ?_
      refine cond_t rfl ?_
      refine wp_ret ?_
      refine inb_r ?_
      refine then_r ?_
      refine inb_r ?_
      refine then_r ?_
      refine ret0 rfl ?_
      have e : pos' = E.N := by have := hW.rd.le; omega
      rw [e] at hW
      exact ⟨_, rfl, rfl, hsh _ _ (by omega) hW rfl (ho.upd (by decide) _) kp⟩
  · -- there are enough
    have hpos : pos' = rdTo p pos 3 := rdTo_of hpp hpq (by omega)
    have hbv := bv_lt E.D p (8 * pos' - p)
    have h32 : bv E.D p (8 * pos' - p) < 4294967296 := Nat.lt_of_lt_of_le hbv (Nat.pow_le_pow_right (n := 2) (by decide) (show 8 * pos' - p ≤ 32 by omega))
    obtain ⟨ro, hro⟩ := hB.ro
    have hb1 : bv E.D p (8 * pos' - p) % 2 ^ 1 = bv E.D p 3 % 2 := by rw [← bv_mod E.D p (8 * pos' - p) 3 (by omega)]; omega
    have hb2 : bv E.D p (8 * pos' - p) / 2 ^ 1 % 2 ^ 2 = bv E.D p 3 / 2 := by rw [← bv_mod E.D p (8 * pos' - p) 3 (by omega)]; omega
    refine wp_exit ?_
    refine then_e ?_
    refine then_e ?_
    refine inb_same ?_
    refine then_n ?_
    refine wp_seq ?_
    -- region 3
    refine reg_lit ?_
    refine L1 (mv (v := .pointer _) rfl) ?_
    refine L1 (mv (v := .pointer _) rfl) ?_
    refine L1 (nilP rfl) ?_
    refine L1 (fa95_3 rfl) ?_
    refine L1 (ld82 rfl (hW.F.cellv (by decide) hB.b)) ?_
    refine L1 (bi rfl rfl ((bn_mask32 (k := 1) rfl rfl h32 (by decide)).trans (congrArg (fun x : Nat => pure (Value.int .u32 (x : Int))) hb1))) ?_
    refine L1 (bi rfl rfl (bn_eql (v := decide (bv E.D p 3 % 2 = 1)) (decide_eq_decide.2 (by omega)))) ?_
    refine L1 (nilP rfl) ?_
    refine L1 (fa95_13 rfl) ?_
    refine Lst4 (v := .bool _) rfl rfl rfl hW.F (by decide) ?_
    intro w1 hb1 kp1
    have hW := hW.setF hE hb1 kp1
    have kp := kp.F kp1
    clear hb1 kp1
    refine wpList_nil ?_
    refine then_n ?_
    refine wp_seq ?_
    -- region 4
    refine reg_lit ?_
    refine L1 (mv (v := .pointer _) rfl) ?_
    refine L1 (nilP rfl) ?_
    refine L1 (fa95_3 rfl) ?_
    refine L1 (ld82 rfl (hW.F.cellv (by decide) hB.b)) ?_
    refine L1 (bi rfl rfl (bn_shr (n := 1) rfl rfl (by decide))) ?_
    refine L1 (nilP rfl) ?_
    refine L1 (fa95_3 rfl) ?_
    refine Lst82 (v := .int _ _) rfl rfl rfl hW.F (by decide) ?_
    intro w1 hb1 kp1
    have hW := hW.setF hE hb1 kp1
    have kp := kp.F kp1
    clear hb1 kp1
    refine wpList_nil ?_
    refine then_n ?_
    refine wp_seq ?_
    -- region 5
    refine reg_lit ?_
    refine L1 (mv (v := .pointer _) rfl) ?_
    refine L1 (nilP rfl) ?_
    refine L1 (fa95_3 rfl) ?_
    refine L1 (ld82 rfl (hW.F.cellv (v := .int _ _) (by decide) rfl)) ?_
    refine L1 (bi rfl rfl ((bn_mask32 (k := 2) rfl rfl (by omega) (by decide)).trans (congrArg (fun x : Nat => pure (Value.int .u32 (x : Int))) hb2))) ?_
    refine L1 (asg (v := .int _ _) rfl) ?_
    refine wpList_nil ?_
    refine then_n ?_
    refine wp_seq ?_
    -- region 6
    refine reg_lit ?_
    refine L1 (mv (v := .pointer _) rfl) ?_
    refine L1 (nilP rfl) ?_
    refine L1 (fa95_3 rfl) ?_
    refine L1 (ld82 rfl (hW.F.cellv (v := .int _ _) (by decide) rfl)) ?_
    refine L1 (bi rfl rfl (bn_shr (n := 2) rfl rfl (by decide))) ?_
    refine L1 (nilP rfl) ?_
    refine L1 (fa95_3 rfl) ?_
    refine Lst82 (v := .int _ _) rfl rfl rfl hW.F (by decide) ?_
    intro w1 hb1 kp1
    have hW := hW.setF hE hb1 kp1
    have kp := kp.F kp1
    clear hb1 kp1
    refine wpList_nil ?_
    refine then_n ?_
    refine wp_seq ?_
    -- region 7
    refine reg_lit ?_
    refine L1 (mv (v := .pointer _) rfl) ?_
    refine L1 (nilP rfl) ?_
    refine L1 (fa95_4 rfl) ?_
    refine L1 (ld38 rfl (hW.F.cellv (by decide) hB.nb)) ?_
    refine L1 (bi rfl rfl (bn_subu (c := ((8 * pos' - p - 3 : Nat) : Int)) (by omega) (by omega) (by omega))) ?_
    refine L1 (nilP rfl) ?_
    refine L1 (fa95_4 rfl) ?_
    refine Lst38 (v := .int _ _) rfl rfl rfl hW.F (by decide) ?_
    intro w1 hb1 kp1
    have hW := hW.setF hE hb1 kp1
    have kp := kp.F kp1
    clear hb1 kp1
    refine wpList_nil ?_
    have hB3 := Bt.advW hW hB 3 (by omega) ⟨_, hro⟩ (by show Value.int .u32 _ = Value.int .u32 _; rw [Nat.div_div_eq_div_mul]) rfl
    have ho7 := hW.offs (((((ho.mono (by decide)).upd (k := 1047) (by decide) _).upd (k := 3) (by decide) _).upd (k := 3) (by decide) _).upd (k := 4) (by decide) _ : Off [2, 3, 4, 1047, 1048] g _)
    have kp7 := kp
    have hW7 := hW
    have hle := hW.rd.le
    refine then_n ?_
    refine wp_seq ?_
    -- region 8
    refine reg_lit ?_
    refine L1 (mv (v := .int _ _) rfl) ?_
    refine wpList_nil ?_
    refine then_n ?_
    refine wp_block ?_
    refine wp_seq ?_
    -- region 10
    refine reg_lit ?_
    refine L1 (bi rfl rfl (bn_eql (v := decide (bv E.D p 3 / 2 = 0)) (decide_eq_decide.2 (by omega)))) ?_
    refine L1 (asg (v := .bool _) rfl) ?_
    refine wpList_nil ?_
    refine then_n ?_
    refine cond_d (p := bv E.D p 3 / 2 = 0) rfl (fun hk => ?_) (fun hk => ?_)
    · -- as it stands
      -- region 11
      refine reg_lit ?_
      refine L1 (mv (v := .pointer _) rfl) ?_
      refine LC (cl1 has42 rfl rfl) (h0 hk _ _ pos' hpos hW rfl he hB3 ho7 kp) ?_
      rintro v w2 ⟨rfl, hQ1⟩
      refine wpList_nil ?_
      refine inb_n ?_
      refine end0 rfl ?_
      exact ⟨_, rfl, rfl, hQ1⟩
    · -- another kind
      refine wp_seq ?_
      -- region 12
      refine reg_lit ?_
      refine L1 (bi rfl rfl (bn_eql (v := decide (bv E.D p 3 / 2 = 1)) (decide_eq_decide.2 (by omega)))) ?_
      refine L1 (asg (v := .bool _) rfl) ?_
      refine wpList_nil ?_
      refine then_n ?_
      refine cond_d (p := bv E.D p 3 / 2 = 1) rfl (fun hk1 => ?_) (fun hk1 => ?_)
      · -- the codes of the specification
        refine wp_seq ?_
        -- region 13
        refine reg_lit ?_
        refine L1 (mv (v := .pointer _) rfl) ?_
        refine LC (cl0 has43 rfl) ((h1 (by omega) hk1).1 _) ?_
        rintro v w2 ⟨X, gx, rfl, hX, hbX, hTX, hLX, kp1⟩
        have hW := hW.new kp1
        have kp := kp.trans (kp1.mono (by simp))
        have hXL : X ∉ E.X := fun hm => by
          have := hW7.lts X hm
          omega
        refine L1 (nilP rfl) ?_
        refine L1 (fa95_16 rfl) ?_
        have hTX := hTX E
        refine Lst93 (v := .pointer _) rfl rfl rfl hW.F (by decide) ?_
        intro w1 hb1 kp1
        have hW := hW.setF hE hb1 kp1
        have kp := kp.F kp1
        have hbX := hbX.kp kp1 (by simp; exact fun e => hXL (by simp [Env.X, e]))
        have hTX := hTX.keep (kp1.mono (by simp [Env.X])) (fun _ _ _ => rfl)
        refine wpList_nil ?_
        refine then_n ?_
        refine wp_seq ?_
        -- region 14
        refine reg_lit ?_
        refine L1 (mv (v := .pointer _) rfl) ?_
        refine L1 (nilP rfl) ?_
        refine L1 (fa95_17 rfl) ?_
        refine Lst93 (v := .pointer _) rfl rfl rfl hW.F (by decide) ?_
        intro w1 hb1 kp1
        have hW := hW.setF hE hb1 kp1
        have kp := kp.F kp1
        have hbX := hbX.kp kp1 (by simp; exact fun e => hXL (by simp [Env.X, e]))
        have hTX : HTab E _ gx 0 (cdL fixL) := (hTX).keep (kp1.mono (by simp [Env.X])) (fun _ _ _ => rfl)
        clear hb1 kp1
        refine wpList_nil ?_
        refine then_n ?_
        -- region 15
        refine reg_lit ?_
        refine L1 (mv (v := .pointer _) rfl) ?_
        refine LC (cl1 has44 rfl rfl) ((h1 (by omega) hk1).2 _ _ X gx pos' hpos hW rfl he rfl rfl hXL hbX hTX hLX (hB3.off (((Off.refl [1050, 1051] _).upd (k := 1050) (by decide) _).upd (k := 1051) (by decide) _) (by decide)) (((ho7.mono (by decide)).upd (k := 1050) (by decide) _).upd (k := 1051) (by decide) _) kp) ?_
        rintro v w2 ⟨rfl, hQ1⟩
        refine wpList_nil ?_
        refine inb_n ?_
        refine end0 rfl ?_
        exact ⟨_, rfl, rfl, hQ1⟩
      · -- another kind
        refine wp_seq ?_
        -- region 16
        refine reg_lit ?_
        refine L1 (bi rfl rfl (bn_eql (v := decide (bv E.D p 3 / 2 = 2)) (decide_eq_decide.2 (by omega)))) ?_
        refine L1 (asg (v := .bool _) rfl) ?_
        refine wpList_nil ?_
        refine then_n ?_
        refine cond_d (p := bv E.D p 3 / 2 = 2) rfl (fun hk2 => ?_) (fun hk2 => ?_)
        · -- codes of its own
          refine wp_seq ?_
          refine wp_seq ?_
          -- region 17
          refine reg_lit ?_
          refine L1 (mv (v := .pointer _) rfl) ?_
          refine L1 (mv (v := .pointer _) rfl) ?_
          refine LC (cl1 has45 rfl rfl) (h2 hk2 _ _ pos' hpos hW rfl he hB3 ho7 kp) ?_
          rintro v w2 ⟨g3, bs2, cs2, pos3, hW, hv1, kp1, hrest⟩
          have kp := kp.trans kp1
          refine L1 (nilP rfl) ?_
          refine L1 (fa95_14 rfl) ?_
          refine Lst62 (v := v) rfl rfl hv1 hW.F (by decide) ?_
          intro w1 hb1 kp1
          have hW := hW.setF hE hb1 kp1
          have kp := kp.F kp1
          clear hb1
          refine wpList_nil ?_
          refine then_n ?_
          rcases hrest with ⟨⟨tv, xv, rfl⟩, hQ1⟩ | ⟨rfl, hQ1⟩
          · -- refused, or too short
            refine wp_seq ?_
            -- region 18
            refine reg_lit ?_
            refine L1 (mv (v := .pointer _) rfl) ?_
            refine L1 (nilP rfl) ?_
            refine L1 (fa95_14 rfl) ?_
            refine L1 (ld62 rfl (hW.F.cellv (v := .iface _ _) (by decide) rfl)) ?_
            refine L1 (en_held rfl rfl) ?_
            refine wpList_nil ?_
            refine then_n ?_
            refine cond_t rfl ?_
            refine wp_exit ?_
            refine then_e ?_
            refine inb_same ?_
            refine end0 rfl ?_
            exact ⟨_, rfl, rfl, hQ1 _ _ hW rfl ((Off.refl [1048] g3).upd (by decide) _) (kp1.mono (by simp [Env.L])) kp⟩
          · -- the codes are there
            refine wp_seq ?_
            -- region 18
            refine reg_lit ?_
            refine L1 (mv (v := .pointer _) rfl) ?_
            refine L1 (nilP rfl) ?_
            refine L1 (fa95_14 rfl) ?_
            refine L1 (ld62 rfl (hW.F.cellv (v := .nilIface) (by decide) rfl)) ?_
            refine L1 (en_nil rfl rfl) ?_
            refine wpList_nil ?_
            refine then_n ?_
            refine cond_f rfl ?_
            refine wp_skip ?_
            refine then_n ?_
            refine wp_seq ?_
            -- region 19
            refine reg_lit ?_
            refine L1 (mv (v := .pointer _) rfl) ?_
            refine L1 (mv (v := .pointer _) rfl) ?_
            refine L1 (nilP rfl) ?_
            refine L1 (fa95_5 rfl) ?_
            refine L1 (nilP rfl) ?_
            refine L1 (fa95_16 rfl) ?_
            refine Lst93 (v := .pointer _) rfl rfl rfl hW.F (by decide) ?_
            intro w1 hb1 kp2
            have hW := hW.setF hE hb1 kp2
            have kp := kp.F kp2
            clear hb1
            refine wpList_nil ?_
            refine then_n ?_
            refine wp_seq ?_
            -- region 20
            refine reg_lit ?_
            refine L1 (mv (v := .pointer _) rfl) ?_
            refine L1 (mv (v := .pointer _) rfl) ?_
            refine L1 (nilP rfl) ?_
            refine L1 (fa95_6 rfl) ?_
            refine L1 (nilP rfl) ?_
            refine L1 (fa95_17 rfl) ?_
            refine Lst93 (v := .pointer _) rfl rfl rfl hW.F (by decide) ?_
            intro w1 hb1 kp3
            have hW := hW.setF hE hb1 kp3
            have kp := kp.F kp3
            clear hb1
            refine wpList_nil ?_
            refine then_n ?_
            -- region 21
            refine reg_lit ?_
            refine L1 (mv (v := .pointer _) rfl) ?_
            refine LC (cl1 has44 rfl rfl) (hQ1 _ _ hW rfl rfl rfl (((Off.refl [1048, 1050, 1051] g3).upd (k := 1048) (by decide) _).upd (k := 1050) (by decide) _ |>.upd (k := 1051) (by decide) _) ((kp1.mono (by simp [Env.L])).trans ((kp2.mono (by simp [Env.L])).trans (kp3.mono (by simp [Env.L])))) kp) ?_
            rintro v w2 ⟨rfl, hQ2⟩
            refine wpList_nil ?_
            refine inb_n ?_
            refine end0 rfl ?_
            exact ⟨_, rfl, rfl, hQ2⟩
        · -- the fourth kind
          -- region 9
          refine reg_lit ?_
          refine L1 (mv (v := .pointer _) rfl) ?_
          refine L1 (mv (v := .pointer _) rfl) ?_
          refine L1 (nilP rfl) ?_
          refine L1 (fa95_2 rfl) ?_
          refine L1 (ld2 rfl (hW.F.cellv (by decide) hro)) ?_
          refine L1 (mkI107 rfl) ?_
          refine L1 (nilP rfl) ?_
          refine L1 (fa95_14 rfl) ?_
          refine Lst62 (v := .iface _ _) rfl rfl rfl hW.F (by decide) ?_
          intro w1 hb1 kp1
          have hW := hW.setF hE hb1 kp1
          have kp := kp.F kp1
          clear hb1 kp1
          refine wpList_nil ?_
          refine inb_n ?_
          refine end0 rfl ?_
          exact ⟨_, rfl, rfl, hbad (by omega) ⟨hk, hk1, hk2⟩ _ _ pos' hpos hW ⟨_, rfl⟩ (ho7.upd (by decide) _) kp⟩
end Go.Proofs.YtejeloeaklpinaaDoor
