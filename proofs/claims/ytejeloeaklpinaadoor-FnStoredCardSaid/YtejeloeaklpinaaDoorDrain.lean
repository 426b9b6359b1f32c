/- drained: what is read till the end. Its walk is printed by gen/g_drain.py. -/
import Derived.Test.YtejeloeaklpinaaDoorNew3
namespace Go.Proofs.YtejeloeaklpinaaDoor
attribute [local irreducible] wpList wpStill wpMix Code.wp Calls fr
/-- The list of sizes that came in. -/
def AgI (w : World) (v : Value) (szs : List Int) : Prop := ∃ a c, v = .slice a szs.length c ∧ ∀ j, j < szs.length → ∃ ad, a = some ad ∧ ad.spot = none ∧ w.cell? ⟨ad.block, ad.off + j, none⟩ = some (.int .i64 (szs.getD j 0))
theorem AgI.kp {w w' : World} {v : Value} {szs : List Int} (h : AgI w v szs) (k : Kp [] w w') : AgI w' v szs := by
  obtain ⟨a, c, h1, h2⟩ := h
  refine ⟨a, c, h1, fun j hj => ?_⟩
  obtain ⟨ad, h3, h4, h5⟩ := h2 j hj
  exact ⟨ad, h3, h4, k.cell h5 (by simp)⟩
theorem szAt_le (szs : List Int) (hs : ∀ z ∈ szs, z ≤ 100000) (i : Nat) : szAt szs i ≤ 100000 := by
  unfold szAt
  split
  · omega
  · rename_i h0
    split
    · have hlt : i % szs.length < szs.length := Nat.mod_lt _ (by omega)
      have : szs.getD (i % szs.length) 0 ≤ 100000 := by
        rw [List.getD_eq_getElem?_getD, List.getElem?_eq_getElem hlt]
        exact hs _ (List.getElem_mem hlt)
      omega
    · omega
theorem gotB_ys {out : List Nat} {e k : Nat} {gb : Nat → Value} (he : e + k ≤ out.length) : ((out.drop e).take k).length = k ∧ ∀ j, j < k → gotB out e 0 k gb (0 + j) = .int .u8 (((out.drop e).take k).getD j 0) := by
  refine ⟨by rw [List.length_take, List.length_drop]; omega, fun j hj => ?_⟩
  unfold gotB
  rw [if_pos (by omega), List.getD_eq_getElem?_getD, List.getD_eq_getElem?_getD, List.getElem?_take, if_pos hj, List.getElem?_drop, Nat.zero_add, Nat.sub_zero]
theorem Reads.le {S : Src} {n : Nat} {a b : A} {k er : Nat} (h : Reads S n a k er b) : k ≤ n ∧ k ≤ b.e := by
  induction h with
  | give h => refine ⟨Nat.min_le_left _ _, ?_⟩; simp only; omega
  | done h1 h2 => omega
  | step _ _ _ _ ih => exact ih
theorem Steps.all {S : Src} {a b : A} {n k er : Nat} {P : A → Prop} (hs : ∀ c, Steps S a c → P c) (h : Reads S n a k er b) (hP : ∀ c d, P c → P d → True) : True := trivial
/-- The states that a reader may come to, by steps and by taking what is handed on. -/
inductive Far (S : Src) : A → A → Prop where
  | refl (a : A) : Far S a a
  | step {a b c : A} : a.e = a.fl → a.err = 0 → Runs S a b → Far S b.late c → Far S a c
  | take {a c : A} (k : Nat) : a.e + k ≤ a.fl → Far S { a with e := a.e + k } c → Far S a c
theorem Far.trans {S : Src} {a b c : A} (h : Far S a b) (k : Far S b c) : Far S a c := by
  induction h with
  | refl => exact k
  | step h1 h2 h3 _ ih => exact .step h1 h2 h3 (ih k)
  | take n h1 _ ih => exact .take n h1 (ih k)
theorem Steps.far {S : Src} {a b : A} (h : Steps S a b) : Far S a b := by
  induction h with
  | refl => exact .refl _
  | step h1 h2 h3 _ ih => exact .step h1 h2 h3 ih
theorem Reads.far {S : Src} {n : Nat} {a b : A} {k er : Nat} (h : Reads S n a k er b) : Far S a b := by
  induction h with
  | give h => exact .take _ (by omega) (.refl _)
  | done h1 h2 => exact .refl _
  | step h1 h2 h3 _ ih => exact .step h1 h2 h3 ih
theorem Rep.ltL {E : Env} {w : World} {a : A} (h : Rep E w a) : ∀ b, b ∈ E.L → b < w.heap.size := by
  obtain ⟨g, hs, bs, cs, hC, _⟩ := h
  intro b hb
  exact hC.W.lts b (by simp only [Env.L, Env.X, List.mem_cons, List.not_mem_nil, or_false] at hb ⊢; omega)
theorem okB_new {E : Env} {w : World} {a : A} {b0 o0 bf o : Nat} (h : Rep (E.re b0 o0) w a) (hS : E.S < w.heap.size) (hb : w.heap.size ≤ bf) : (E.re bf o).OkB := by
  have hl := h.ltL
  have hB := h.gl.le
  have h1 : E.F < w.heap.size := hl E.F (by simp [Env.L, Env.re])
  have h2 : E.H < w.heap.size := hl E.H (by simp [Env.L, Env.re])
  have h3 : E.R < w.heap.size := hl E.R (by simp [Env.L, Env.re])
  have h4 : E.bt < w.heap.size := hl E.bt (by simp [Env.L, Env.re])
  have h5 : E.cb < w.heap.size := hl E.cb (by simp [Env.L, Env.re])
  have h6 : E.B ≤ w.heap.size := hB
  refine ⟨?_, ?_, ?_, ?_, ?_, ?_, ?_⟩ <;> simp only [Env.re] <;> omega
theorem okO_new {E : Env} {w : World} {a : A} {b0 o0 b x : Nat} (h : Rep (E.re b0 o0) w a) (hS : E.S < w.heap.size) (hx : w.heap.size ≤ x) : (E.re b x).OkO := by
  have hl := h.ltL
  have hB := h.gl.le
  have h1 : E.F < w.heap.size := hl E.F (by simp [Env.L, Env.re])
  have h2 : E.H < w.heap.size := hl E.H (by simp [Env.L, Env.re])
  have h3 : E.R < w.heap.size := hl E.R (by simp [Env.L, Env.re])
  have h4 : E.bt < w.heap.size := hl E.bt (by simp [Env.L, Env.re])
  have h5 : E.cb < w.heap.size := hl E.cb (by simp [Env.L, Env.re])
  have h6 : E.B ≤ w.heap.size := hB
  refine ⟨?_, ?_, ?_, ?_, ?_, ?_, ?_⟩ <;> simp only [Env.re] <;> omega
theorem nown {E : Env} {b o : Nat} (h : (E.re b o).OkO) (hb : o ≠ b) (hm : o ∈ (E.re b o).buf :: (E.re b o).L) : False := by
  have h1 : o ≠ E.F := h.oF
  have h2 : o ≠ E.R := h.oR
  have h3 : o ≠ E.H := h.oH
  have h4 : o ≠ E.bt := h.ob
  have h5 : o ≠ E.cb := h.oc
  simp only [Env.re, Env.L, List.mem_cons, List.not_mem_nil, or_false] at hm
  omega
theorem HTab.reO {E : Env} {w w' : World} {gx : Nat → Value} {o : Nat} {c : Cd} {b1 o1 : Nat} (h : HTab E w gx o c) (k : Kp [E.own] w w') (hb : Fit E w b1) (ho : Fit E w o1) : HTab (E.re b1 o1) w' gx o c := by
  obtain ⟨h0, la, ll, lc, mask, h1, h2, h3, h4⟩ := h
  refine ⟨h0, la, ll, lc, mask, h1, h2, h3, fun x => ?_⟩
  obtain ⟨h5, ch, h6, h7, h8⟩ := h4 x
  refine ⟨h5, ch, h6, h7, ?_⟩
  rcases h8 with h8 | ⟨h8, h9, lb, lo, ib, io, il, ic, h10, h11, h12, h13, h14, h15⟩
  · exact .inl h8
  · refine .inr ⟨h8, h9, lb, lo, ib, io, il, ic, h10, nX h11 (World.block_lt_of_cell? w _ h13) hb ho, nX h12 (World.block_lt_of_cell? w _ h15) hb ho, k.cell h13 ?_, h14, k.cell h15 ?_⟩
    · intro hm; simp at hm; exact h11 (by simp [Env.X, hm])
    · intro hm; simp at hm; exact h12 (by simp [Env.X, hm])
theorem HMode.reO {E : Env} {w w' : World} {g : Nat → Value} {hl : Cd} {hd : Option Cd} {b1 o1 : Nat} (h : HMode E w g hl hd) (k : Kp [E.own] w w') (hb : Fit E w b1) (ho : Fit E w o1) : HMode (E.re b1 o1) w' g hl hd := by
  cases hd with
  | none =>
    obtain ⟨h1, h2, X, gx, h3, h4, h5, h6⟩ := h
    exact ⟨h1, h2, X, gx, h3, nX h4 h5.lt hb ho, h5.kp k (by intro hm; simp at hm; exact h4 (by simp [Env.X, hm])), h6.reO k hb ho⟩
  | some hd =>
    obtain ⟨h1, h2, h3, h4, h5, h6⟩ := h
    exact ⟨h1, h2, h3, h4, h5.reO k hb ho, h6.reO k hb ho⟩
theorem Rep.reO {E : Env} {w w' : World} {a : A} {b1 o1 : Nat} (h : Rep E w a) (hO : E.OkO) (k : Kp [E.own] w w') (hb : Fit E w b1) (ho : Fit E w o1) (hb' : b1 < w'.heap.size) (ho' : o1 < w'.heap.size) : Rep (E.re b1 o1) w' a := by
  obtain ⟨g, hs, bs, cs, hC, he, hl⟩ := h
  have hW := hC.W.setown hO k
  refine ⟨g, hs, bs, cs, ⟨⟨hW.F, hW.H, hW.bt, hW.cb, hW.rd, hW.gl.re b1 o1, ⟨hb', ho'⟩⟩, ⟨hC.S.r, hC.S.bt, hC.S.cb, hC.S.hi⟩, hC.V, by obtain ⟨q, rd, q1, q2, q3, q4, q5⟩ := hC.D; exact ⟨q, rd, q1, q2, q3, q4, q5.hist, q5.wr, q5.rd, q5.full⟩, hC.T, hC.Z⟩, he, fun h0 => ?_⟩
  obtain ⟨h1, h2, h3⟩ := hl h0
  refine ⟨⟨⟨h1.B.ro, h1.B.b, h1.B.nb, h1.B.le, h1.B.l32⟩, h1.fin, h1.err, ?_⟩, h2, h3⟩
  have hm := h1.md
  cases hmd : a.md with
  | next => rw [hmd] at hm; exact hm
  | data n => rw [hmd] at hm; exact hm
  | huff hl hd c =>
    rw [hmd] at hm
    cases c with
    | none => exact ⟨hm.1.reO k hb ho, hm.2⟩
    | some x => exact ⟨hm.1.reO k hb ho, hm.2⟩
theorem Rep.bus {E : Env} {w : World} {a : A} (h : Rep E w a) : E.buf < w.heap.size ∧ E.own < w.heap.size := by
  obtain ⟨g, hs, bs, cs, hC, _⟩ := h; exact hC.W.bu
theorem own_next {E : Env} {w0 w3 w4 : World} {a : A} {bf o2 : Nat} {ov ov2 : Value} {xs : List Nat} (hS : E.S < w3.heap.size) (hR3 : Rep (E.re bf o2) w3 a) (hR4 : Rep (E.re bf o2) w4 a) (kp3 : Kp (obk ov) w3 w4) (hSl : Sl w4 ov2 xs)
    (hown2 : ∀ x, ov.ownBlock = some x → x = o2 ∧ (E.re bf o2).OkO ∧ w0.heap.size ≤ x) (hown4 : ∀ k, ov2.ownBlock = some k → ov.ownBlock = some k ∨ w3.heap.size ≤ k) (h03 : w0.heap.size ≤ w3.heap.size) :
    ∃ o3, Rep (E.re bf o3) w4 a ∧ ∀ x, ov2.ownBlock = some x → x = o3 ∧ (E.re bf o3).OkO ∧ w0.heap.size ≤ x := by
  cases hno : ov2.ownBlock with
  | none => exact ⟨o2, hR4, fun x hx => by cases hx⟩
  | some x =>
    rcases hown4 x hno with h | h
    · obtain ⟨rfl, h2, h3⟩ := hown2 x h
      exact ⟨x, hR4, fun y hy => by cases hy; exact ⟨rfl, h2, h3⟩⟩
    · have hx := hSl.lt hno
      have hbu := hR3.bus
      have hbu4 := hR4.bus
      refine ⟨x, ?_, fun y hy => by cases hy; exact ⟨rfl, okO_new hR3 hS h, by omega⟩⟩
      cases hno2 : ov.ownBlock with
      | none => exact hR3.re (kp3.mono (by simp [obk, hno2])) (b1 := bf) (o1 := x) (.inr (.inl rfl)) (.inl h) hbu4.1 hx
      | some y =>
        obtain ⟨rfl, hO, _⟩ := hown2 y hno2
        exact hR3.reO hO (kp3.mono (by simp [obk, hno2]; rfl)) (b1 := bf) (o1 := x) (.inr (.inl rfl)) (.inl h) hbu4.1 hx
theorem obk_new {v : Value} {n : Nat} {L : List Nat} (h : ∀ x, v.ownBlock = some x → n ≤ x) : ∀ i, i ∈ obk v → i < n → i ∈ L := by
  intro i hi hlt
  unfold obk at hi
  split at hi
  · rename_i x hx
    have := h x hx
    simp at hi
    omega
  · simp at hi
theorem errNil {E : Env} {c : Nat} {v : Value} (h : ErrV E c v) (hc : c = 0) : v = .nilIface := by
  rcases h with ⟨_, h⟩ | ⟨h, _⟩ | ⟨h, _⟩ | ⟨h, _⟩
  · exact h
  · omega
  · omega
  · omega
theorem len24 {ρ : Operand → Value} {d : Option Nat} {x : Operand} {ty : TypeId} {pos : String} {af : Array Edge} {gd : Option (Nat × Bool)} {w : World} {a : Option Addr} {n c : Nat} (hx : ρ x = .slice a n c) :
    (execOp ρ ⟨d, .call ⟨.builtin .len, #[x], #[24]⟩, ty, pos, af, gd⟩).run Tryd.prog w = .ok (.value (.int .i64 n)) w := ln und24 hx

theorem drained_c (E : Env) (w : World) (a : A) (hE : E.Ok) (hSb : E.S < w.heap.size) (hR : Rep E w a) (hP : Pend a) (sa : Option Addr) (sc : Nat) (szs : List Int) (hszs : ∀ z ∈ szs, z ≤ 100000)
    (hsz : ∀ j, j < szs.length → ∃ ad, sa = some ad ∧ ad.spot = none ∧ ad.block ∉ E.L ∧ w.cell? ⟨ad.block, ad.off + j, none⟩ = some (.int .i64 (szs.getD j 0))) (hH : ∀ a', Far E.S' a a' → needs E.S' a' → HC) :
    Ret 16 [.iface 99 (.pointer (some ⟨E.F, 0, none⟩)), .slice sa szs.length sc] w fun v w' => ∃ r c a' b o ov, v = .tuple #[ov, .int .i64 ((c : Nat) : Int)] ∧ Sl w' ov r ∧ Rep (E.re b o) w' a' ∧ Pend a' ∧ Far E.S' a a' ∧ Dr E.S' szs 0 a [] r c a' ∧ (∀ x, ov.ownBlock = some x → x = o ∧ (E.re b o).OkO ∧ w.heap.size ≤ x) ∧ Kp E.L w w' := by
  have kp0 := Kp.refl [] w
  refine calls_fr (N := 59) Tryd.func16 rfl rfl (by simp) rfl ?_
  refine wp_seq ?_
  -- region 0
  refine reg_lit ?_
  refine L1 (asg (v := .slice _ _ _) rfl) ?_
  refine L1 (asg (v := .int _ _) rfl) ?_
  refine wpList_nil ?_
  refine then_n ?_
  refine wp_seq ?_
  -- region 1
  refine reg_lit ?_
  refine L1 (asg (v := .slice _ _ _) rfl) ?_
  refine wpList_nil ?_
  refine then_n ?_
  refine wp_seq ?_
  refine wp_seq ?_
  -- region 2
  refine reg_lit ?_
  refine L1 (asg (v := .int _ _) rfl) ?_
  refine wpList_nil ?_
  refine then_n ?_
  refine wp_block ?_
  refine loop_fr (fun k f w' => f 0 = .iface 99 (.pointer (some ⟨E.F, 0, none⟩)) ∧ f 1 = .slice sa szs.length sc ∧ ∃ (i : Nat) (acc : List Nat) (ov : Value) (a' : A) (b o : Nat), f 7 = .int .i64 (i : Int) ∧ f 6 = ov ∧ i ≤ 10000 ∧ k = 10000 - i ∧ Sl w' ov acc ∧ acc.length ≤ 100000 ∧ Rep (E.re b o) w' a' ∧ Pend a' ∧ Far E.S' a a' ∧ (∀ x, ov.ownBlock = some x → x = o ∧ (E.re b o).OkO ∧ w.heap.size ≤ x) ∧ Kp E.L w w' ∧ (∀ r c z, Dr E.S' szs i a' acc r c z → Dr E.S' szs 0 a [] r c z)) 10000 ⟨rfl, rfl, 0, [], .slice none 0 0, a, E.buf, E.own, rfl, rfl, by omega, rfl, Sl.nil w, by simp, hR, hP, .refl _, (fun x hx => by cases hx), kp0.mono (by simp), fun _ _ _ h => h⟩ ?_
  clear kp0
  intro k f w1 HJ
  obtain ⟨s0, s1, i, acc, ov, a1, b0, o0, s7, s6, hi, rfl, hSl, hacc, hR1, hP1, hfar, hown, kp, hdr⟩ := HJ
  refine slots (fc s0 (fc s1 (fc s6 (fc s7 fnil)))) ?_
  refine wp_seq ?_
  refine wp_seq ?_
  -- region 3
  refine reg_lit ?_
  refine L1 (mv (v := .int _ _) rfl) ?_
  refine L1 (bi rfl rfl (bn_lss (v := decide (i < 10000)) (decide_eq_decide.2 (by omega)))) ?_
  refine wpList_nil ?_
  refine then_n ?_
  refine cond_d (p := i < 10000) rfl (fun hlt => ?_) (fun hlt => ?_)
  · skip
    refine wp_skip ?_
    refine then_n ?_
    refine wp_seq ?_
    refine wp_block ?_
    refine wp_seq ?_
    -- region 5
    refine reg_lit ?_
    refine L1 (asg (v := .int _ _) rfl) ?_
    refine wpList_nil ?_
    refine then_n ?_
    refine seq_cut (N := 59) (fun f w' => w1 = w' ∧ f 0 = .iface 99 (.pointer (some ⟨E.F, 0, none⟩)) ∧ f 1 = .slice sa szs.length sc ∧ f 6 = ov ∧ f 7 = .int .i64 (i : Int) ∧ f 8 = .int .i64 ((szAt szs i : Nat) : Int)) ?_ ?_
    · skip
      by_cases hz : szs.length = 0
      · skip
        refine wp_seq ?_
        -- region 6
        refine reg_lit ?_
        refine L1 (mv (v := .slice _ _ _) rfl) ?_
        refine L1 (ln und24 rfl) ?_
        refine L1 (bi rfl rfl (bn_gtr (v := false) (decide_eq_false (by omega)))) ?_
        refine L1 (mv (v := .bool _) rfl) ?_
        refine Lskip (t := 19) (b := true) rfl (by decide) rfl ?_
        refine Lskip (t := 19) (b := true) rfl (by decide) rfl ?_
        refine Lskip (t := 19) (b := true) rfl (by decide) rfl ?_
        refine Lskip (t := 19) (b := true) rfl (by decide) rfl ?_
        refine Lskip (t := 19) (b := true) rfl (by decide) rfl ?_
        refine Lskip (t := 19) (b := true) rfl (by decide) rfl ?_
        refine Lskip (t := 19) (b := true) rfl (by decide) rfl ?_
        refine Lskip (t := 19) (b := true) rfl (by decide) rfl ?_
        refine L1 (pk_f rfl rfl) ?_
        refine wpList_nil ?_
        refine then_n ?_
        refine cond_f rfl ?_
        refine wp_skip ?_
        refine then_n ?_
        refine ⟨_, rfl, rfl, rfl, rfl, rfl, rfl, ?_⟩
        show Value.int .i64 512 = _
        unfold szAt
        rw [if_pos hz]
        rfl
      · skip
        have hmod : i % szs.length < szs.length := Nat.mod_lt _ (by omega)
        obtain ⟨sad, rfl, hsp, hspL, hcell0⟩ := hsz (i % szs.length) hmod
        obtain ⟨sb, so, ssp⟩ := sad
        simp only at hsp hcell0 hspL
        subst hsp
        have hcell := kp.cell hcell0 hspL
        refine wp_seq ?_
        -- region 6
        refine reg_lit ?_
        refine L1 (mv (v := .slice _ _ _) rfl) ?_
        refine L1 (ln und24 rfl) ?_
        refine L1 (bi rfl rfl (bn_gtr (v := true) (decide_eq_true (by omega)))) ?_
        refine L1 (mv (v := .bool _) rfl) ?_
        refine L1g (t := 19) (b := true) rfl (by decide) rfl (mv (v := .slice _ _ _) rfl) ?_
        refine L1g (t := 19) (b := true) rfl (by decide) rfl (mv (v := .int _ _) rfl) ?_
        refine L1g (t := 19) (b := true) rfl (by decide) rfl (mv (v := .slice _ _ _) rfl) ?_
        refine L1g (t := 19) (b := true) rfl (by decide) rfl (ln und24 rfl) ?_
        refine L1g (t := 19) (b := true) rfl (by decide) rfl (bi rfl rfl (bn_rem (x := i) (m := szs.length) rfl rfl (by omega))) ?_
        refine L1g (t := 19) (b := true) rfl (by decide) rfl (ix und24 sz3 rfl rfl rfl hmod) ?_
        refine L1g (t := 19) (b := true) rfl (by decide) rfl (ld3 (v := .int _ _) rfl hcell) ?_
        refine L1g (t := 19) (b := true) rfl (by decide) rfl (bi rfl rfl (bn_geq (v := decide (1 ≤ szs.getD (i % szs.length) 0)) rfl)) ?_
        refine L1 (pk_t rfl rfl) ?_
        refine wpList_nil ?_
        refine then_n ?_
        refine cond_d (p := 1 ≤ szs.getD (i % szs.length) 0) rfl (fun h1 => ?_) (fun h1 => ?_)
        · skip
          -- region 7
          refine reg_lit ?_
          refine L1 (mv (v := .slice _ _ _) rfl) ?_
          refine L1 (mv (v := .int _ _) rfl) ?_
          refine L1 (mv (v := .slice _ _ _) rfl) ?_
          refine L1 (ln und24 rfl) ?_
          refine L1 (bi rfl rfl (bn_rem (x := i) (m := szs.length) rfl rfl (by omega))) ?_
          refine L1 (ix und24 sz3 rfl rfl rfl hmod) ?_
          refine L1 (ld3 (v := .int _ _) rfl hcell) ?_
          refine L1 (asg (v := .int _ _) rfl) ?_
          refine wpList_nil ?_
          refine then_n ?_
          refine ⟨_, rfl, rfl, rfl, rfl, rfl, rfl, ?_⟩
          show Value.int .i64 (szs.getD (i % szs.length) 0) = _
          unfold szAt
          rw [if_neg hz, if_pos h1, Int.toNat_of_nonneg (by omega)]
        · skip
          refine wp_skip ?_
          refine then_n ?_
          refine ⟨_, rfl, rfl, rfl, rfl, rfl, rfl, ?_⟩
          show Value.int .i64 512 = _
          unfold szAt
          rw [if_neg hz, if_neg h1]
          rfl
    · skip
      rintro f _ ⟨rfl, s0, s1, s6, s7, s8⟩
      have hsl := szAt_le szs hszs i
      refine slots (fc s0 (fc s1 (fc s6 (fc s7 (fc s8 fnil))))) ?_
      have hSlt : ∀ x, ov.ownBlock = some x → x < w1.heap.size := fun x hx => hSl.lt hx
      refine wp_seq ?_
      -- region 8
      refine reg_lit ?_
      refine L1 (mv (v := .int _ _) rfl) ?_
      refine Lmk (n := szAt szs i) rfl rfl (by omega) ?_
      intro bf w2 hbf hb kp1 hsz2
      have hSl := hSl.kp kp1 (by simp)
      have hkp := kp
      have kp := kp.trans (kp1.mono (by simp))
      obtain ⟨o2, ho2, hown2, hOk2⟩ : ∃ o2, Fit (E.re b0 o0) w1 o2 ∧ (∀ x, ov.ownBlock = some x → x = o2 ∧ (E.re bf o2).OkO ∧ w.heap.size ≤ x) ∧ o2 < w2.heap.size := by
        by_cases hno : ov.ownBlock = none
        · exact ⟨bf, .inl (by omega), (fun x hx => by rw [hno] at hx; cases hx), by omega⟩
        · obtain ⟨x, hx⟩ := Option.ne_none_iff_exists'.1 hno
          obtain ⟨rfl, h2, h3⟩ := hown x hx
          have hxl := hSl.lt hx
          exact ⟨x, .inr (.inr rfl), (fun y hy => by rw [hx] at hy; cases hy; exact ⟨rfl, ⟨h2.bo, h2.oF, h2.oR, h2.oS, h2.oH, h2.ob, h2.oc⟩, h3⟩), hxl⟩
      have hR2 := hR1.re kp1 (b1 := bf) (o1 := o2) (.inl (by omega)) ho2 (by omega) hOk2
      have hw01 := hkp.size
      have hU : (E.re bf o2).OkB := okB_new (E := E) (o := o2) hR1 (by omega) (by omega)
      have hR2 : Rep (E.re bf o2) w2 a1 := hR2
      refine L1 (asg (v := .slice _ _ _) rfl) ?_
      refine wpList_nil ?_
      refine then_n ?_
      refine wp_seq ?_
      -- region 9
      refine reg_lit ?_
      refine L1 (mv (v := .iface _ _) rfl) ?_
      refine L1 (mv (v := .slice _ _ _) rfl) ?_
      refine LC (inv1 has90 rfl (meth_rd99 _) rfl) (read_c (E.re bf o2) w2 a1 (hE.re bf o2) hU hR2 0 (szAt szs i) (szAt szs i) (szAt szs i) 5 _ hb (by omega) hP1 (fun c hc hn => hH c (hfar.trans (Steps.far hc)) hn)) ?_
      rintro v w3 ⟨k, er, a2, ev2, rfl, hev, hreads, hR3, hP3, hb, kp2⟩
      have hk := hreads.le
      have hfl3 := hR3.late_fl
      have hefl3 := hR3.e_fl
      obtain ⟨hyl, hys⟩ := gotB_ys (out := a2.out) (e := a2.e - k) (k := k) (gb := fun _ => .int .u8 0) (by omega)
      have hSl := hSl.kp kp2 (by intro x hx hm; obtain ⟨rfl, hO, _⟩ := hown2 x hx; have hxl := hSlt x hx; exact nown hO (by omega) hm)
      have kp := kp.transNew kp2 (fun j hj hlt2 => (List.mem_cons.1 hj).elim (fun e => absurd hlt2 (by rw [e]; show ¬ bf < w.heap.size; omega)) id)
      have hsz3 := kp2.size
      refine L1 (mv (v := .tuple _) rfl) ?_
      refine L1 (ext2_0 rfl) ?_
      refine L1 (ext2_1 rfl) ?_
      refine L1 (asg (v := .int _ _) rfl) ?_
      refine L1 (asg (v := ev2) rfl) ?_
      refine wpList_nil ?_
      refine then_n ?_
      refine wp_seq ?_
      -- region 10
      refine reg_lit ?_
      refine L1 (mv (v := ov) rfl) ?_
      refine L1 (mv (v := .slice _ _ _) rfl) ?_
      refine L1 (mv (v := .int _ _) rfl) ?_
      refine L1 (sl_h und22 sz5 rfl rfl rfl (by omega)) ?_
      refine Lap (v := ov) rfl rfl hSl hb hyl (by omega) hys (by omega) ?_
      intro ov2 w4 hSl4 kp3 hown4
      have hR4 : Rep (E.re bf o2) w4 a2 := by
        cases hno : ov.ownBlock with
        | none => exact hR3.keep (kp3.mono (by simp [obk, hno]))
        | some x => obtain ⟨rfl, hO, _⟩ := hown2 x hno; exact hR3.setown hO (kp3.mono (by simp [obk, hno]; rfl))
      have kp := kp.transNew kp3 (obk_new (fun x hx => (hown2 x hx).2.2))
      have hlen4 : (acc ++ (a2.out.drop (a2.e - k)).take k).length = acc.length + k := by rw [List.length_append, hyl]
      obtain ⟨ova, ovc, hov2⟩ := hSl4.val
      rw [hlen4] at hov2
      refine L1 (asg (v := ov2) rfl) ?_
      refine wpList_nil ?_
      refine then_n ?_
      refine wp_seq ?_
      refine wp_seq ?_
      -- region 11
      refine reg_lit ?_
      refine L1 (mv (v := .slice ova (acc.length + k) ovc) hov2) ?_
      refine L1 (ln und22 rfl) ?_
      refine L1 (bi rfl rfl (bn_gtr (v := decide (100000 < acc.length + k)) (decide_eq_decide.2 (by omega)))) ?_
      refine wpList_nil ?_
      refine then_n ?_
      obtain ⟨o3, hR5, hown5⟩ := own_next (E := E) (w0 := w) (by omega) hR3 hR4 kp3 hSl4 hown2 hown4 (by omega)
      refine cond_d (p := 100000 < acc.length + k) rfl (fun hov => ?_) (fun hov => ?_)
      · skip
        refine wp_seq ?_
        -- region 12
        refine reg_lit ?_
        refine L1 (mv (v := ov2) rfl) ?_
        refine L1 (asg (v := ov2) rfl) ?_
        refine L1 (asg (v := .int _ _) rfl) ?_
        refine wpList_nil ?_
        refine then_n ?_
        refine wp_ret ?_
        refine then_r ?_
        refine inb_r ?_
        refine then_r ?_
        refine then_r ?_
        refine inb_r ?_
        refine then_r ?_
        refine ret2 rfl rfl rfl ?_
        exact ⟨_, rfl, _, 3, a2, bf, o3, ov2, rfl, hSl4, hR5, hP3, hfar.trans hreads.far, hdr _ _ _ (.over hlt hreads hov), hown5, kp⟩
      · skip
        refine wp_skip ?_
        refine then_n ?_
        by_cases her : er = 0
        · skip
          obtain rfl : ev2 = .nilIface := errNil hev her
          subst her
          refine wp_seq ?_
          -- region 13
          refine reg_lit ?_
          refine L1 (mv (v := .nilIface) rfl) ?_
          refine L1 (en_nil rfl rfl) ?_
          refine wpList_nil ?_
          refine then_n ?_
          refine cond_f rfl ?_
          refine wp_skip ?_
          refine inb_n ?_
          refine then_n ?_
          -- region 4
          refine reg_lit ?_
          refine L1 (mv (v := .int _ _) rfl) ?_
          refine L1 (bi rfl rfl (bn_add (c := ((i + 1 : Nat) : Int)) (by omega) (by omega) (by omega))) ?_
          refine L1 (asg (v := .int _ _) rfl) ?_
          refine wpList_nil ?_
          refine then_n ?_
          refine ⟨10000 - (i + 1), _, by omega, rfl, rfl, rfl, i + 1, _, ov2, a2, bf, o3, rfl, rfl, by omega, rfl, hSl4, by omega, hR5, hP3, hfar.trans hreads.far, hown5, kp, fun r c z h => hdr r c z (.next hlt hreads (by omega) h)⟩
        · skip
          obtain ⟨et, ex, hexq⟩ := errIface hev her
          refine wp_seq ?_
          -- region 13
          refine reg_lit ?_
          refine L1 (mv (v := .iface et ex) hexq) ?_
          refine L1 (en_held rfl rfl) ?_
          refine wpList_nil ?_
          refine then_n ?_
          refine cond_t rfl ?_
          refine wp_seq ?_
          -- region 14
          refine reg_lit ?_
          refine L1 (mv (v := ov2) rfl) ?_
          refine L1 (mv (v := ev2) rfl) ?_
          refine LC (cl1 has25 rfl rfl) (codeOf_c (E.re bf o3) _ hR5.gl er ev2 hev her) ?_
          rintro v w1 ⟨rfl, rfl⟩
          refine L1 (asg (v := ov2) rfl) ?_
          refine L1 (asg (v := .int _ _) rfl) ?_
          refine wpList_nil ?_
          refine then_n ?_
          refine wp_ret ?_
          refine inb_r ?_
          refine then_r ?_
          refine then_r ?_
          refine inb_r ?_
          refine then_r ?_
          refine ret2 rfl rfl rfl ?_
          exact ⟨_, rfl, _, code er, a2, bf, o3, ov2, rfl, hSl4, hR5, hP3, hfar.trans hreads.far, hdr _ _ _ (.fin hlt hreads (by omega) her), hown5, kp⟩
  · skip
    refine wp_exit ?_
    refine then_e ?_
    refine then_e ?_
    refine inb_same ?_
    refine then_n ?_
    refine wp_seq ?_
    -- region 15
    refine reg_lit ?_
    refine L1 (mv (v := ov) rfl) ?_
    refine L1 (asg (v := ov) rfl) ?_
    refine L1 (asg (v := .int _ _) rfl) ?_
    refine wpList_nil ?_
    refine then_n ?_
    refine wp_ret ?_
    refine ret2 rfl rfl rfl ?_
    exact ⟨_, rfl, acc, 3, a1, b0, o0, ov, rfl, hSl, hR1, hP1, hfar, hdr _ _ _ (.stop (by omega)), hown, kp⟩
end Go.Proofs.YtejeloeaklpinaaDoor
