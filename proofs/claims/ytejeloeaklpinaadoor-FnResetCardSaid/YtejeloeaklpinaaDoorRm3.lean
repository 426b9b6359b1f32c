/- Texts of this claim, merged by gen/merge.py: Drain, Inf, Close, Close2, Kind, StLaw, StWalk, Sv, Sym, Rev, Copy, Huff0, Ch. -/
import Derived.Test.YtejeloeaklpinaaDoorRm2
import Derived.Test.YtejeloeaklpinaaDoorCards
import Derived.Test.YtejeloeaklpinaaDoorTie
import Derived.ProofKit
import Derived.OpenShut
import Derived.ChangeVars
import Derived.Carry
import Derived.Deep.Slices
import Derived.Deep.DeepHandedRow
import Derived.Deep.DeepWitnessRowRef
import Derived.Stop.LaidErr
import Derived.Lib.LaidTab
import Derived.SizedLaws
import Derived.Laws.BytesString
import Derived.Scope
/- drained: what is read till the end. Its walk is printed by gen/g_drain.py. -/
namespace Go.Proofs.YtejeloeaklpinaaDoor
attribute [local irreducible] wpList wpStill wpMix Code.wp Calls fr
/-- The list of sizes that came in. -/
def AgI (w : World) (v : Value) (szs : List Int) : Prop := ∃ a c, v = .slice a szs.length c ∧ ∀ j, j < szs.length → ∃ ad, a = some ad ∧ ad.spot = none ∧ w.cell? ⟨ad.block, ad.off + j, none⟩ = some (.int .i64 (szs.getD j 0))
theorem AgI.kp {w w' : World} {v : Value} {szs : List Int} (h : AgI w v szs) (k : Kp [] w w') : AgI w' v szs := by
  obtain ⟨a, c, h1, h2⟩ := h
  refine ⟨a, c, h1, fun j hj => ?_⟩
  obtain ⟨ad, h3, h4, h5⟩ := h2 j hj
  exact ⟨ad, h3, h4, k.cell h5 (by simp)⟩
theorem szAt_le (szs : List Int) (hs : ∀ z ∈ szs, z ≤ 100000) (i : Nat) : szAt szs i ≤ 100000 := by
  unfold szAt
  split
  · omega
  · rename_i h0
    split
    · have hlt : i % szs.length < szs.length := Nat.mod_lt _ (by omega)
      have : szs.getD (i % szs.length) 0 ≤ 100000 := by
        rw [List.getD_eq_getElem?_getD, List.getElem?_eq_getElem hlt]
        exact hs _ (List.getElem_mem hlt)
      omega
    · omega
theorem gotB_ys {out : List Nat} {e k : Nat} {gb : Nat → Value} (he : e + k ≤ out.length) : ((out.drop e).take k).length = k ∧ ∀ j, j < k → gotB out e 0 k gb (0 + j) = .int .u8 (((out.drop e).take k).getD j 0) := by
  refine ⟨by rw [List.length_take, List.length_drop]; omega, fun j hj => ?_⟩
  unfold gotB
  rw [if_pos (by omega), List.getD_eq_getElem?_getD, List.getD_eq_getElem?_getD, List.getElem?_take, if_pos hj, List.getElem?_drop, Nat.zero_add, Nat.sub_zero]
theorem Reads.le {S : Src} {n : Nat} {a b : A} {k er : Nat} (h : Reads S n a k er b) : k ≤ n ∧ k ≤ b.e := by
  induction h with
  | give h => refine ⟨Nat.min_le_left _ _, ?_⟩; simp only; omega
  | done h1 h2 => omega
  | step _ _ _ _ ih => exact ih
theorem Steps.all {S : Src} {a b : A} {n k er : Nat} {P : A → Prop} (hs : ∀ c, Steps S a c → P c) (h : Reads S n a k er b) (hP : ∀ c d, P c → P d → True) : True := trivial
/-- The states that a reader may come to, by steps and by taking what is handed on. -/
inductive Far (S : Src) : A → A → Prop where
  | refl (a : A) : Far S a a
  | step {a b c : A} : a.e = a.fl → a.err = 0 → Runs S a b → Far S b.late c → Far S a c
  | take {a c : A} (k : Nat) : a.e + k ≤ a.fl → Far S { a with e := a.e + k } c → Far S a c
theorem Far.trans {S : Src} {a b c : A} (h : Far S a b) (k : Far S b c) : Far S a c := by
  induction h with
  | refl => exact k
  | step h1 h2 h3 _ ih => exact .step h1 h2 h3 (ih k)
  | take n h1 _ ih => exact .take n h1 (ih k)
theorem Steps.far {S : Src} {a b : A} (h : Steps S a b) : Far S a b := by
  induction h with
  | refl => exact .refl _
  | step h1 h2 h3 _ ih => exact .step h1 h2 h3 ih
theorem Reads.far {S : Src} {n : Nat} {a b : A} {k er : Nat} (h : Reads S n a k er b) : Far S a b := by
  induction h with
  | give h => exact .take _ (by omega) (.refl _)
  | done h1 h2 => exact .refl _
  | step h1 h2 h3 _ ih => exact .step h1 h2 h3 ih
theorem Rep.ltL {E : Env} {w : World} {a : A} (h : Rep E w a) : ∀ b, b ∈ E.L → b < w.heap.size := by
  obtain ⟨g, hs, bs, cs, hC, _⟩ := h
  intro b hb
  exact hC.W.lts b (by simp only [Env.L, Env.X, List.mem_cons, List.not_mem_nil, or_false] at hb ⊢; omega)
theorem okB_new {E : Env} {w : World} {a : A} {b0 o0 bf o : Nat} (h : Rep (E.re b0 o0) w a) (hS : E.S < w.heap.size) (hb : w.heap.size ≤ bf) : (E.re bf o).OkB := by
  have hl := h.ltL
  have hB := h.gl.le
  have h1 : E.F < w.heap.size := hl E.F (by simp [Env.L, Env.re])
  have h2 : E.H < w.heap.size := hl E.H (by simp [Env.L, Env.re])
  have h3 : E.R < w.heap.size := hl E.R (by simp [Env.L, Env.re])
  have h4 : E.bt < w.heap.size := hl E.bt (by simp [Env.L, Env.re])
  have h5 : E.cb < w.heap.size := hl E.cb (by simp [Env.L, Env.re])
  have h6 : E.B ≤ w.heap.size := hB
  refine ⟨?_, ?_, ?_, ?_, ?_, ?_, ?_⟩ <;> simp only [Env.re] <;> omega
theorem okO_new {E : Env} {w : World} {a : A} {b0 o0 b x : Nat} (h : Rep (E.re b0 o0) w a) (hS : E.S < w.heap.size) (hx : w.heap.size ≤ x) : (E.re b x).OkO := by
  have hl := h.ltL
  have hB := h.gl.le
  have h1 : E.F < w.heap.size := hl E.F (by simp [Env.L, Env.re])
  have h2 : E.H < w.heap.size := hl E.H (by simp [Env.L, Env.re])
  have h3 : E.R < w.heap.size := hl E.R (by simp [Env.L, Env.re])
  have h4 : E.bt < w.heap.size := hl E.bt (by simp [Env.L, Env.re])
  have h5 : E.cb < w.heap.size := hl E.cb (by simp [Env.L, Env.re])
  have h6 : E.B ≤ w.heap.size := hB
  refine ⟨?_, ?_, ?_, ?_, ?_, ?_, ?_⟩ <;> simp only [Env.re] <;> omega
theorem nown {E : Env} {b o : Nat} (h : (E.re b o).OkO) (hb : o ≠ b) (hm : o ∈ (E.re b o).buf :: (E.re b o).L) : False := by
  have h1 : o ≠ E.F := h.oF
  have h2 : o ≠ E.R := h.oR
  have h3 : o ≠ E.H := h.oH
  have h4 : o ≠ E.bt := h.ob
  have h5 : o ≠ E.cb := h.oc
  simp only [Env.re, Env.L, List.mem_cons, List.not_mem_nil, or_false] at hm
  omega
theorem HTab.reO {E : Env} {w w' : World} {gx : Nat → Value} {o : Nat} {c : Cd} {b1 o1 : Nat} (h : HTab E w gx o c) (k : Kp [E.own] w w') (hb : Fit E w b1) (ho : Fit E w o1) : HTab (E.re b1 o1) w' gx o c := by
  obtain ⟨h0, la, ll, lc, mask, h1, h2, h3, h4⟩ := h
  refine ⟨h0, la, ll, lc, mask, h1, h2, h3, fun x => ?_⟩
  obtain ⟨h5, ch, h6, h7, h8⟩ := h4 x
  refine ⟨h5, ch, h6, h7, ?_⟩
  rcases h8 with h8 | ⟨h8, h9, lb, lo, ib, io, il, ic, h10, h11, h12, h13, h14, h15⟩
  · exact .inl h8
  · refine .inr ⟨h8, h9, lb, lo, ib, io, il, ic, h10, nX h11 (World.block_lt_of_cell? w _ h13) hb ho, nX h12 (World.block_lt_of_cell? w _ h15) hb ho, k.cell h13 ?_, h14, k.cell h15 ?_⟩
    · intro hm; simp at hm; exact h11 (by simp [Env.X, hm])
    · intro hm; simp at hm; exact h12 (by simp [Env.X, hm])
theorem HMode.reO {E : Env} {w w' : World} {g : Nat → Value} {hl : Cd} {hd : Option Cd} {b1 o1 : Nat} (h : HMode E w g hl hd) (k : Kp [E.own] w w') (hb : Fit E w b1) (ho : Fit E w o1) : HMode (E.re b1 o1) w' g hl hd := by
  cases hd with
  | none =>
    obtain ⟨h1, h2, X, gx, h3, h4, h5, h6⟩ := h
    exact ⟨h1, h2, X, gx, h3, nX h4 h5.lt hb ho, h5.kp k (by intro hm; simp at hm; exact h4 (by simp [Env.X, hm])), h6.reO k hb ho⟩
  | some hd =>
    obtain ⟨h1, h2, h3, h4, h5, h6⟩ := h
    exact ⟨h1, h2, h3, h4, h5.reO k hb ho, h6.reO k hb ho⟩
theorem Rep.reO {E : Env} {w w' : World} {a : A} {b1 o1 : Nat} (h : Rep E w a) (hO : E.OkO) (k : Kp [E.own] w w') (hb : Fit E w b1) (ho : Fit E w o1) (hb' : b1 < w'.heap.size) (ho' : o1 < w'.heap.size) : Rep (E.re b1 o1) w' a := by
  obtain ⟨g, hs, bs, cs, hC, he, hl⟩ := h
  have hW := hC.W.setown hO k
  refine ⟨g, hs, bs, cs, ⟨⟨hW.F, hW.H, hW.bt, hW.cb, hW.rd, hW.gl.re b1 o1, ⟨hb', ho'⟩⟩, ⟨hC.S.r, hC.S.bt, hC.S.cb, hC.S.hi, hC.S.rb⟩, hC.V, by obtain ⟨q, rd, q1, q2, q3, q4, q5⟩ := hC.D; exact ⟨q, rd, q1, q2, q3, q4, q5.hist, q5.wr, q5.rd, q5.full⟩, hC.T, hC.Z⟩, he, fun h0 => ?_⟩
  obtain ⟨h1, h2, h3⟩ := hl h0
  refine ⟨⟨⟨h1.B.ro, h1.B.b, h1.B.nb, h1.B.le, h1.B.l32⟩, h1.fin, h1.err, ?_⟩, h2, h3⟩
  have hm := h1.md
  cases hmd : a.md with
  | next => rw [hmd] at hm; exact hm
  | data n => rw [hmd] at hm; exact hm
  | huff hl hd c =>
    rw [hmd] at hm
    cases c with
    | none => exact ⟨hm.1.reO k hb ho, hm.2⟩
    | some x => exact ⟨hm.1.reO k hb ho, hm.2⟩
theorem Rep.bus {E : Env} {w : World} {a : A} (h : Rep E w a) : E.buf < w.heap.size ∧ E.own < w.heap.size := by
  obtain ⟨g, hs, bs, cs, hC, _⟩ := h; exact hC.W.bu
theorem own_next {E : Env} {w0 w3 w4 : World} {a : A} {bf o2 : Nat} {ov ov2 : Value} {xs : List Nat} (hS : E.S < w3.heap.size) (hR3 : Rep (E.re bf o2) w3 a) (hR4 : Rep (E.re bf o2) w4 a) (kp3 : Kp (obk ov) w3 w4) (hSl : Sl w4 ov2 xs)
    (hown2 : ∀ x, ov.ownBlock = some x → x = o2 ∧ (E.re bf o2).OkO ∧ w0.heap.size ≤ x) (hown4 : ∀ k, ov2.ownBlock = some k → ov.ownBlock = some k ∨ w3.heap.size ≤ k) (h03 : w0.heap.size ≤ w3.heap.size) :
    ∃ o3, Rep (E.re bf o3) w4 a ∧ ∀ x, ov2.ownBlock = some x → x = o3 ∧ (E.re bf o3).OkO ∧ w0.heap.size ≤ x := by
  cases hno : ov2.ownBlock with
  | none => exact ⟨o2, hR4, fun x hx => by cases hx⟩
  | some x =>
    rcases hown4 x hno with h | h
    · obtain ⟨rfl, h2, h3⟩ := hown2 x h
      exact ⟨x, hR4, fun y hy => by cases hy; exact ⟨rfl, h2, h3⟩⟩
    · have hx := hSl.lt hno
      have hbu := hR3.bus
      have hbu4 := hR4.bus
      refine ⟨x, ?_, fun y hy => by cases hy; exact ⟨rfl, okO_new hR3 hS h, by omega⟩⟩
      cases hno2 : ov.ownBlock with
      | none => exact hR3.re (kp3.mono (by simp [obk, hno2])) (b1 := bf) (o1 := x) (.inr (.inl rfl)) (.inl h) hbu4.1 hx
      | some y =>
        obtain ⟨rfl, hO, _⟩ := hown2 y hno2
        exact hR3.reO hO (kp3.mono (by simp [obk, hno2]; rfl)) (b1 := bf) (o1 := x) (.inr (.inl rfl)) (.inl h) hbu4.1 hx
theorem obk_new {v : Value} {n : Nat} {L : List Nat} (h : ∀ x, v.ownBlock = some x → n ≤ x) : ∀ i, i ∈ obk v → i < n → i ∈ L := by
  intro i hi hlt
  unfold obk at hi
  split at hi
  · rename_i x hx
    have := h x hx
    simp at hi
    omega
  · simp at hi
theorem errNil {E : Env} {c : Nat} {v : Value} (h : ErrV E c v) (hc : c = 0) : v = .nilIface := by
  rcases h with ⟨_, h⟩ | ⟨h, _⟩ | ⟨h, _⟩ | ⟨h, _⟩
  · exact h
  · omega
  · omega
  · omega
theorem len24 {ρ : Operand → Value} {d : Option Nat} {x : Operand} {ty : TypeId} {pos : String} {af : Array Edge} {gd : Option (Nat × Bool)} {w : World} {a : Option Addr} {n c : Nat} (hx : ρ x = .slice a n c) :
    (execOp ρ ⟨d, .call ⟨.builtin .len, #[x], #[24]⟩, ty, pos, af, gd⟩).run Tryd.prog w = .ok (.value (.int .i64 n)) w := ln und24 hx

theorem drained_c (E : Env) (w : World) (a : A) (hE : E.Ok) (hSb : E.S < w.heap.size) (hR : Rep E w a) (hP : Pend a) (sa : Option Addr) (sc : Nat) (szs : List Int) (hszs : ∀ z ∈ szs, z ≤ 100000)
    (hsz : ∀ j, j < szs.length → ∃ ad, sa = some ad ∧ ad.spot = none ∧ ad.block ∉ E.L ∧ w.cell? ⟨ad.block, ad.off + j, none⟩ = some (.int .i64 (szs.getD j 0))) (hH : ∀ a', Far E.S' a a' → needs E.S' a' → HC) :
    Ret 16 [.iface 99 (.pointer (some ⟨E.F, 0, none⟩)), .slice sa szs.length sc] w fun v w' => ∃ r c a' b o ov, v = .tuple #[ov, .int .i64 ((c : Nat) : Int)] ∧ Sl w' ov r ∧ Rep (E.re b o) w' a' ∧ Pend a' ∧ Far E.S' a a' ∧ Dr E.S' szs 0 a [] r c a' ∧ (∀ x, ov.ownBlock = some x → x = o ∧ (E.re b o).OkO ∧ w.heap.size ≤ x) ∧ Kp E.L w w' := by
  have kp0 := Kp.refl [] w
  refine calls_fr (N := 59) Tryd.func16 rfl rfl (by simp) rfl ?_
  refine wp_seq ?_
  -- region 0
  refine reg_lit ?_
  refine L1 (asg (v := .slice _ _ _) rfl) ?_
  refine L1 (asg (v := .int _ _) rfl) ?_
  refine wpList_nil ?_
  refine then_n ?_
  refine wp_seq ?_
  -- region 1
  refine reg_lit ?_
  refine L1 (asg (v := .slice _ _ _) rfl) ?_
  refine wpList_nil ?_
  refine then_n ?_
  refine wp_seq ?_
  refine wp_seq ?_
  -- region 2
  refine reg_lit ?_
  refine L1 (asg (v := .int _ _) rfl) ?_
  refine wpList_nil ?_
  refine then_n ?_
  refine wp_block ?_
  refine loop_fr (fun k f w' => f 0 = .iface 99 (.pointer (some ⟨E.F, 0, none⟩)) ∧ f 1 = .slice sa szs.length sc ∧ ∃ (i : Nat) (acc : List Nat) (ov : Value) (a' : A) (b o : Nat), f 7 = .int .i64 (i : Int) ∧ f 6 = ov ∧ i ≤ 10000 ∧ k = 10000 - i ∧ Sl w' ov acc ∧ acc.length ≤ 100000 ∧ Rep (E.re b o) w' a' ∧ Pend a' ∧ Far E.S' a a' ∧ (∀ x, ov.ownBlock = some x → x = o ∧ (E.re b o).OkO ∧ w.heap.size ≤ x) ∧ Kp E.L w w' ∧ (∀ r c z, Dr E.S' szs i a' acc r c z → Dr E.S' szs 0 a [] r c z)) 10000 ⟨rfl, rfl, 0, [], .slice none 0 0, a, E.buf, E.own, rfl, rfl, by omega, rfl, Sl.nil w, by simp, hR, hP, .refl _, (fun x hx => by cases hx), kp0.mono (by simp), fun _ _ _ h => h⟩ ?_
  clear kp0
  intro k f w1 HJ
  obtain ⟨s0, s1, i, acc, ov, a1, b0, o0, s7, s6, hi, rfl, hSl, hacc, hR1, hP1, hfar, hown, kp, hdr⟩ := HJ
  refine slots (fc s0 (fc s1 (fc s6 (fc s7 fnil)))) ?_
  refine wp_seq ?_
  refine wp_seq ?_
  -- region 3
  refine reg_lit ?_
  refine L1 (mv (v := .int _ _) rfl) ?_
  refine L1 (bi rfl rfl (bn_lss (v := decide (i < 10000)) (decide_eq_decide.2 (by omega)))) ?_
  refine wpList_nil ?_
  refine then_n ?_
  refine cond_d (p := i < 10000) rfl (fun hlt => ?_) (fun hlt => ?_)
  · skip
    refine wp_skip ?_
    refine then_n ?_
    refine wp_seq ?_
    refine wp_block ?_
    refine wp_seq ?_
    -- region 5
    refine reg_lit ?_
    refine L1 (asg (v := .int _ _) rfl) ?_
    refine wpList_nil ?_
    refine then_n ?_
    refine seq_cut (N := 59) (fun f w' => w1 = w' ∧ f 0 = .iface 99 (.pointer (some ⟨E.F, 0, none⟩)) ∧ f 1 = .slice sa szs.length sc ∧ f 6 = ov ∧ f 7 = .int .i64 (i : Int) ∧ f 8 = .int .i64 ((szAt szs i : Nat) : Int)) ?_ ?_
    · skip
      by_cases hz : szs.length = 0
      · skip
        refine wp_seq ?_
        -- region 6
        refine reg_lit ?_
        refine L1 (mv (v := .slice _ _ _) rfl) ?_
        refine L1 (ln und24 rfl) ?_
        refine L1 (bi rfl rfl (bn_gtr (v := false) (decide_eq_false (by omega)))) ?_
        refine L1 (mv (v := .bool _) rfl) ?_
        refine Lskip (t := 19) (b := true) rfl (by decide) rfl ?_
        refine Lskip (t := 19) (b := true) rfl (by decide) rfl ?_
        refine Lskip (t := 19) (b := true) rfl (by decide) rfl ?_
        refine Lskip (t := 19) (b := true) rfl (by decide) rfl ?_
        refine Lskip (t := 19) (b := true) rfl (by decide) rfl ?_
        refine Lskip (t := 19) (b := true) rfl (by decide) rfl ?_
        refine Lskip (t := 19) (b := true) rfl (by decide) rfl ?_
        refine Lskip (t := 19) (b := true) rfl (by decide) rfl ?_
        refine L1 (pk_f rfl rfl) ?_
        refine wpList_nil ?_
        refine then_n ?_
        refine cond_f rfl ?_
        refine wp_skip ?_
        refine then_n ?_
        refine ⟨_, rfl, rfl, rfl, rfl, rfl, rfl, ?_⟩
        show Value.int .i64 512 = _
        unfold szAt
        rw [if_pos hz]
        rfl
      · skip
        have hmod : i % szs.length < szs.length := Nat.mod_lt _ (by omega)
        obtain ⟨sad, rfl, hsp, hspL, hcell0⟩ := hsz (i % szs.length) hmod
        obtain ⟨sb, so, ssp⟩ := sad
        simp only at hsp hcell0 hspL
        subst hsp
        have hcell := kp.cell hcell0 hspL
        refine wp_seq ?_
        -- region 6
        refine reg_lit ?_
        refine L1 (mv (v := .slice _ _ _) rfl) ?_
        refine L1 (ln und24 rfl) ?_
        refine L1 (bi rfl rfl (bn_gtr (v := true) (decide_eq_true (by omega)))) ?_
        refine L1 (mv (v := .bool _) rfl) ?_
        refine L1g (t := 19) (b := true) rfl (by decide) rfl (mv (v := .slice _ _ _) rfl) ?_
        refine L1g (t := 19) (b := true) rfl (by decide) rfl (mv (v := .int _ _) rfl) ?_
        refine L1g (t := 19) (b := true) rfl (by decide) rfl (mv (v := .slice _ _ _) rfl) ?_
        refine L1g (t := 19) (b := true) rfl (by decide) rfl (ln und24 rfl) ?_
        refine L1g (t := 19) (b := true) rfl (by decide) rfl (bi rfl rfl (bn_rem (x := i) (m := szs.length) rfl rfl (by omega))) ?_
        refine L1g (t := 19) (b := true) rfl (by decide) rfl (ix und24 sz3 rfl rfl rfl hmod) ?_
        refine L1g (t := 19) (b := true) rfl (by decide) rfl (ld3 (v := .int _ _) rfl hcell) ?_
        refine L1g (t := 19) (b := true) rfl (by decide) rfl (bi rfl rfl (bn_geq (v := decide (1 ≤ szs.getD (i % szs.length) 0)) rfl)) ?_
        refine L1 (pk_t rfl rfl) ?_
        refine wpList_nil ?_
        refine then_n ?_
        refine cond_d (p := 1 ≤ szs.getD (i % szs.length) 0) rfl (fun h1 => ?_) (fun h1 => ?_)
        · skip
          -- region 7
          refine reg_lit ?_
          refine L1 (mv (v := .slice _ _ _) rfl) ?_
          refine L1 (mv (v := .int _ _) rfl) ?_
          refine L1 (mv (v := .slice _ _ _) rfl) ?_
          refine L1 (ln und24 rfl) ?_
          refine L1 (bi rfl rfl (bn_rem (x := i) (m := szs.length) rfl rfl (by omega))) ?_
          refine L1 (ix und24 sz3 rfl rfl rfl hmod) ?_
          refine L1 (ld3 (v := .int _ _) rfl hcell) ?_
          refine L1 (asg (v := .int _ _) rfl) ?_
          refine wpList_nil ?_
          refine then_n ?_
          refine ⟨_, rfl, rfl, rfl, rfl, rfl, rfl, ?_⟩
          show Value.int .i64 (szs.getD (i % szs.length) 0) = _
          unfold szAt
          rw [if_neg hz, if_pos h1, Int.toNat_of_nonneg (by omega)]
        · skip
          refine wp_skip ?_
          refine then_n ?_
          refine ⟨_, rfl, rfl, rfl, rfl, rfl, rfl, ?_⟩
          show Value.int .i64 512 = _
          unfold szAt
          rw [if_neg hz, if_neg h1]
          rfl
    · skip
      rintro f _ ⟨rfl, s0, s1, s6, s7, s8⟩
      have hsl := szAt_le szs hszs i
      refine slots (fc s0 (fc s1 (fc s6 (fc s7 (fc s8 fnil))))) ?_
      have hSlt : ∀ x, ov.ownBlock = some x → x < w1.heap.size := fun x hx => hSl.lt hx
      refine wp_seq ?_
      -- region 8
      refine reg_lit ?_
      refine L1 (mv (v := .int _ _) rfl) ?_
      refine Lmk (n := szAt szs i) rfl rfl (by omega) ?_
      intro bf w2 hbf hb kp1 hsz2
      have hSl := hSl.kp kp1 (by simp)
      have hkp := kp
      have kp := kp.trans (kp1.mono (by simp))
      obtain ⟨o2, ho2, hown2, hOk2⟩ : ∃ o2, Fit (E.re b0 o0) w1 o2 ∧ (∀ x, ov.ownBlock = some x → x = o2 ∧ (E.re bf o2).OkO ∧ w.heap.size ≤ x) ∧ o2 < w2.heap.size := by
        by_cases hno : ov.ownBlock = none
        · exact ⟨bf, .inl (by omega), (fun x hx => by rw [hno] at hx; cases hx), by omega⟩
        · obtain ⟨x, hx⟩ := Option.ne_none_iff_exists'.1 hno
          obtain ⟨rfl, h2, h3⟩ := hown x hx
          have hxl := hSl.lt hx
          exact ⟨x, .inr (.inr rfl), (fun y hy => by rw [hx] at hy; cases hy; exact ⟨rfl, ⟨h2.bo, h2.oF, h2.oR, h2.oS, h2.oH, h2.ob, h2.oc⟩, h3⟩), hxl⟩
      have hR2 := hR1.re kp1 (b1 := bf) (o1 := o2) (.inl (by omega)) ho2 (by omega) hOk2
      have hw01 := hkp.size
      have hU : (E.re bf o2).OkB := okB_new (E := E) (o := o2) hR1 (by omega) (by omega)
      have hR2 : Rep (E.re bf o2) w2 a1 := hR2
      refine L1 (asg (v := .slice _ _ _) rfl) ?_
      refine wpList_nil ?_
      refine then_n ?_
      refine wp_seq ?_
      -- region 9
      refine reg_lit ?_
      refine L1 (mv (v := .iface _ _) rfl) ?_
      refine L1 (mv (v := .slice _ _ _) rfl) ?_
      refine LC (inv1 has90 rfl (meth_rd99 _) rfl) (read_c (E.re bf o2) w2 a1 (hE.re bf o2) hU hR2 0 (szAt szs i) (szAt szs i) (szAt szs i) 5 _ hb (by omega) hP1 (fun c hc hn => hH c (hfar.trans (Steps.far hc)) hn)) ?_
      rintro v w3 ⟨k, er, a2, ev2, rfl, hev, hreads, hR3, hP3, hb, kp2⟩
      have hk := hreads.le
      have hfl3 := hR3.late_fl
      have hefl3 := hR3.e_fl
      obtain ⟨hyl, hys⟩ := gotB_ys (out := a2.out) (e := a2.e - k) (k := k) (gb := fun _ => .int .u8 0) (by omega)
      have hSl := hSl.kp kp2 (by intro x hx hm; obtain ⟨rfl, hO, _⟩ := hown2 x hx; have hxl := hSlt x hx; exact nown hO (by omega) hm)
      have kp := kp.transNew kp2 (fun j hj hlt2 => (List.mem_cons.1 hj).elim (fun e => absurd hlt2 (by rw [e]; show ¬ bf < w.heap.size; omega)) id)
      have hsz3 := kp2.size
      refine L1 (mv (v := .tuple _) rfl) ?_
      refine L1 (ext2_0 rfl) ?_
      refine L1 (ext2_1 rfl) ?_
      refine L1 (asg (v := .int _ _) rfl) ?_
      refine L1 (asg (v := ev2) rfl) ?_
      refine wpList_nil ?_
      refine then_n ?_
      refine wp_seq ?_
      -- region 10
      refine reg_lit ?_
      refine L1 (mv (v := ov) rfl) ?_
      refine L1 (mv (v := .slice _ _ _) rfl) ?_
      refine L1 (mv (v := .int _ _) rfl) ?_
      refine L1 (sl_h und22 sz5 rfl rfl rfl (by omega)) ?_
      refine Lap (v := ov) rfl rfl hSl hb hyl (by omega) hys (by omega) ?_
      intro ov2 w4 hSl4 kp3 hown4
      have hR4 : Rep (E.re bf o2) w4 a2 := by
        cases hno : ov.ownBlock with
        | none => exact hR3.keep (kp3.mono (by simp [obk, hno]))
        | some x => obtain ⟨rfl, hO, _⟩ := hown2 x hno; exact hR3.setown hO (kp3.mono (by simp [obk, hno]; rfl))
      have kp := kp.transNew kp3 (obk_new (fun x hx => (hown2 x hx).2.2))
      have hlen4 : (acc ++ (a2.out.drop (a2.e - k)).take k).length = acc.length + k := by rw [List.length_append, hyl]
      obtain ⟨ova, ovc, hov2⟩ := hSl4.val
      rw [hlen4] at hov2
      refine L1 (asg (v := ov2) rfl) ?_
      refine wpList_nil ?_
      refine then_n ?_
      refine wp_seq ?_
      refine wp_seq ?_
      -- region 11
      refine reg_lit ?_
      refine L1 (mv (v := .slice ova (acc.length + k) ovc) hov2) ?_
      refine L1 (ln und22 rfl) ?_
      refine L1 (bi rfl rfl (bn_gtr (v := decide (100000 < acc.length + k)) (decide_eq_decide.2 (by omega)))) ?_
      refine wpList_nil ?_
      refine then_n ?_
      obtain ⟨o3, hR5, hown5⟩ := own_next (E := E) (w0 := w) (by omega) hR3 hR4 kp3 hSl4 hown2 hown4 (by omega)
      refine cond_d (p := 100000 < acc.length + k) rfl (fun hov => ?_) (fun hov => ?_)
      · skip
        refine wp_seq ?_
        -- region 12
        refine reg_lit ?_
        refine L1 (mv (v := ov2) rfl) ?_
        refine L1 (asg (v := ov2) rfl) ?_
        refine L1 (asg (v := .int _ _) rfl) ?_
        refine wpList_nil ?_
        refine then_n ?_
        refine wp_ret ?_
        refine then_r ?_
        refine inb_r ?_
        refine then_r ?_
        refine then_r ?_
        refine inb_r ?_
        refine then_r ?_
        refine ret2 rfl rfl rfl ?_
        exact ⟨_, rfl, _, 3, a2, bf, o3, ov2, rfl, hSl4, hR5, hP3, hfar.trans hreads.far, hdr _ _ _ (.over hlt hreads hov), hown5, kp⟩
      · skip
        refine wp_skip ?_
        refine then_n ?_
        by_cases her : er = 0
        · skip
          obtain rfl : ev2 = .nilIface := errNil hev her
          subst her
          refine wp_seq ?_
          -- region 13
          refine reg_lit ?_
          refine L1 (mv (v := .nilIface) rfl) ?_
          refine L1 (en_nil rfl rfl) ?_
          refine wpList_nil ?_
          refine then_n ?_
          refine cond_f rfl ?_
          refine wp_skip ?_
          refine inb_n ?_
          refine then_n ?_
          -- region 4
          refine reg_lit ?_
          refine L1 (mv (v := .int _ _) rfl) ?_
          refine L1 (bi rfl rfl (bn_add (c := ((i + 1 : Nat) : Int)) (by omega) (by omega) (by omega))) ?_
          refine L1 (asg (v := .int _ _) rfl) ?_
          refine wpList_nil ?_
          refine then_n ?_
          refine ⟨10000 - (i + 1), _, by omega, rfl, rfl, rfl, i + 1, _, ov2, a2, bf, o3, rfl, rfl, by omega, rfl, hSl4, by omega, hR5, hP3, hfar.trans hreads.far, hown5, kp, fun r c z h => hdr r c z (.next hlt hreads (by omega) h)⟩
        · skip
          obtain ⟨et, ex, hexq⟩ := errIface hev her
          refine wp_seq ?_
          -- region 13
          refine reg_lit ?_
          refine L1 (mv (v := .iface et ex) hexq) ?_
          refine L1 (en_held rfl rfl) ?_
          refine wpList_nil ?_
          refine then_n ?_
          refine cond_t rfl ?_
          refine wp_seq ?_
          -- region 14
          refine reg_lit ?_
          refine L1 (mv (v := ov2) rfl) ?_
          refine L1 (mv (v := ev2) rfl) ?_
          refine LC (cl1 has25 rfl rfl) (codeOf_c (E.re bf o3) _ hR5.gl er ev2 hev her) ?_
          rintro v w1 ⟨rfl, rfl⟩
          refine L1 (asg (v := ov2) rfl) ?_
          refine L1 (asg (v := .int _ _) rfl) ?_
          refine wpList_nil ?_
          refine then_n ?_
          refine wp_ret ?_
          refine inb_r ?_
          refine then_r ?_
          refine then_r ?_
          refine inb_r ?_
          refine then_r ?_
          refine ret2 rfl rfl rfl ?_
          exact ⟨_, rfl, _, code er, a2, bf, o3, ov2, rfl, hSl4, hR5, hP3, hfar.trans hreads.far, hdr _ _ _ (.fin hlt hreads (by omega) her), hown5, kp⟩
  · skip
    refine wp_exit ?_
    refine then_e ?_
    refine then_e ?_
    refine inb_same ?_
    refine then_n ?_
    refine wp_seq ?_
    -- region 15
    refine reg_lit ?_
    refine L1 (mv (v := ov) rfl) ?_
    refine L1 (asg (v := ov) rfl) ?_
    refine L1 (asg (v := .int _ _) rfl) ?_
    refine wpList_nil ?_
    refine then_n ?_
    refine wp_ret ?_
    refine ret2 rfl rfl rfl ?_
    exact ⟨_, rfl, acc, 3, a1, b0, o0, ov, rfl, hSl, hR1, hP1, hfar, hdr _ _ _ (.stop (by omega)), hown, kp⟩
end Go.Proofs.YtejeloeaklpinaaDoor

/- Inflate: a stream read by a reader laid anew. Its walks are printed by gen/g_inf.py. -/
namespace Go.Proofs.YtejeloeaklpinaaDoor
attribute [local irreducible] wpList wpStill wpMix Code.wp Calls fr
/-- The source of a list of bytes. -/
def srcOf (data : List Nat) : Src := ⟨data.length, dnum (fun k => data.getD k 0) data.length⟩
/-- What Inflate comes to: what is read, the code, how many bytes are left. -/
def InfR (data dict : List Nat) (szs : List Int) (r : List Nat) (c left : Nat) : Prop := ∃ a, Dr (srcOf data) szs 0 (A0 dict) [] r c a ∧ left = data.length - a.pos
/-- Bytes, and not too many. -/
def Bytes (xs : List Nat) : Prop := (∀ x ∈ xs, x < 256) ∧ xs.length ≤ 140737488355328
/-- What is asked of the codes by this stream. -/
def HCof (data dict : List Nat) : Prop := ∀ a, Far (srcOf data) (A0 dict) a → needs (srcOf data) a → HC

theorem reader_c (w : World) (R : Nat) (dv : Value) (dict : List Nat) (hA : Ag w dv dict) (hB : Bytes dict) :
    Ret 17 [.pointer (some ⟨R, 0, none⟩), dv] w fun v w' => ∃ F H bt cb, v = .iface 99 (.pointer (some ⟨F, 0, none⟩)) ∧ w.heap.size ≤ F ∧ F < bt ∧ bt < cb ∧ cb < H ∧ InitP F H w' (gI R bt cb) dict ∧ Bk w' bt 316 97 (fun _ => .int .i64 0) ∧ Bk w' cb 19 98 (fun _ => .int .i64 0) ∧ Kp [] w w' := by
  have hA0 := hA
  obtain ⟨da, dc, rfl, hcells⟩ := hA
  refine calls_fr (N := 16) Tryd.func17 rfl rfl (by simp) rfl ?_
  refine wp_seq ?_
  -- region 0
  refine reg_lit ?_
  refine L1 (asg (v := .nilIface) rfl) ?_
  refine wpList_nil ?_
  refine then_n ?_
  refine wp_seq ?_
  refine wp_seq ?_
  -- region 1
  refine reg_lit ?_
  refine L1 (mv (v := .slice _ _ _) rfl) ?_
  refine L1 (ln und22 rfl) ?_
  refine L1 (bi rfl rfl (bn_eql (v := decide (dict.length = 0)) (decide_eq_decide.2 (by omega)))) ?_
  refine wpList_nil ?_
  refine then_n ?_
  refine cond_d (p := dict.length = 0) rfl (fun h0 => ?_) (fun h0 => ?_)
  · -- yes
    refine wp_seq ?_
    -- region 2
    refine reg_lit ?_
    refine L1 (mv (v := .pointer _) rfl) ?_
    refine L1 (mkI43 rfl) ?_
    refine LC (cl1 has24 rfl rfl) (nr_raw _ R) ?_
    rintro v w1 ⟨F, H, bt, cb, rfl, hrest⟩
    refine L1 (asg (v := .iface _ _) rfl) ?_
    refine wpList_nil ?_
    refine then_n ?_
    refine wp_ret ?_
    refine then_r ?_
    refine ret1 rfl rfl ?_
    obtain rfl : dict = [] := List.eq_nil_of_length_eq_zero h0
    exact ⟨_, rfl, F, H, bt, cb, rfl, hrest⟩
  · -- no
    refine wp_skip ?_
    refine then_n ?_
    refine wp_seq ?_
    -- region 3
    refine reg_lit ?_
    refine L1 (mv (v := .pointer _) rfl) ?_
    refine L1 (mkI43 rfl) ?_
    refine L1 (mv (v := .slice _ _ _) rfl) ?_
    refine LC (cl1 has15 rfl rfl) (copied_c _ _ dict hA0 hB.2) ?_
    rintro v w1 ⟨hSl, kp1, _⟩
    refine LC (cl2 has26 rfl rfl rfl) (nrd_raw _ R v dict hSl hB.1 hB.2) ?_
    rintro v2 w2 ⟨F, H, bt, cb, rfl, hF, h1, h2, h3, h4, h5, h6, kp2⟩
    refine L1 (asg (v := .iface _ _) rfl) ?_
    refine wpList_nil ?_
    refine then_n ?_
    refine wp_ret ?_
    refine ret1 rfl rfl ?_
    have hsz := kp1.size
    exact ⟨_, rfl, F, H, bt, cb, rfl, by omega, h1, h2, h3, h4, h5, h6, kp1.trans kp2⟩
/-- The environment of a reader over a source that was laid ahead of it. -/
def mkE (B : Nat) (aE aU : Addr) (F R S H bt cb : Nat) (data : List Nat) : Env := ⟨B, aE, aU, F, R, S, H, bt, cb, F, F, data.length, fun k => data.getD k 0⟩
def ownOf (v : Value) : Nat := match v.ownBlock with
  | some b => b
  | none => 0
theorem getD_lt {xs : List Nat} (h : ∀ x ∈ xs, x < 256) (k : Nat) : xs.getD k 0 < 256 := by
  by_cases hk : k < xs.length
  · rw [List.getD_eq_getElem?_getD, List.getElem?_eq_getElem hk]; exact h _ (List.getElem_mem hk)
  · rw [List.getD_eq_getElem?_getD, List.getElem?_eq_none (by omega)]; decide
theorem mkE_ok {E0 : Env} {w : World} (hG : Gl E0 w) {F R H bt cb : Nat} {data : List Nat} (hD : Bytes data) {v : Value} (hv : Sl w v data) (hvB : ∀ k, v.ownBlock = some k → E0.B ≤ k) (hvR : ∀ k, v.ownBlock = some k → k < R) (hR : R < w.heap.size) (hRB : E0.B ≤ R) (h1 : w.heap.size ≤ F) (h2 : F < bt) (h3 : bt < cb) (h4 : cb < H) :
    (mkE E0.B E0.aE E0.aU F R (ownOf v) H bt cb data).Ok := by
  have hS : ownOf v < R := by
    unfold ownOf; split
    · rename_i b hb; exact hvR b hb
    · have := hG.B6; omega
  refine ⟨?_, hRB, ?_, ?_, ?_, ?_, ?_, ?_, ?_, ?_, ?_, ?_, ?_, ?_, ?_, ?_, ?_, ?_, ?_, ?_, fun k => getD_lt hD.1 k, hD.2⟩ <;> simp only [mkE] <;> omega
theorem mkE_rd {E0 : Env} {w : World} {F R H bt cb : Nat} {data : List Nat} {v : Value} {rg : Nat → Value} (hv : Sl w v data) (hR : Bk w R 3 70 rg) (h0 : rg 0 = v) (h1 : rg 1 = .int .i64 0) (h2 : rg 2 = .int .i64 (-1)) :
    Rd (mkE E0.B E0.aE E0.aU F R (ownOf v) H bt cb data) w 0 := by
  refine ⟨v, -1, rg, hR, h0, h1, h2, Nat.zero_le _, ?_⟩
  rcases hv with ⟨rfl, rfl⟩ | ⟨b, cap, g, rfl, hb, hc, hm, hg⟩
  · exact .inl ⟨rfl, rfl⟩
  · exact .inr ⟨cap, cap, g, rfl, hb, ⟨hc, hc⟩, hg⟩
theorem mkE_gl {E0 : Env} {w : World} (h : Gl E0 w) {F R S H bt cb : Nat} {data : List Nat} : Gl (mkE E0.B E0.aE E0.aU F R S H bt cb data) w :=
  ⟨h.B6, h.le, h.eof, h.ueof, h.ne, h.bE, h.bU, h.hE, h.hU, h.ord⟩
theorem inflate_c (E0 : Env) (w : World) (hG : Gl E0 w) (dv xv : Value) (data dict : List Nat) (hA : Ag w dv data) (hD : Bytes data) (hX : Ag w xv dict) (hXb : Bytes dict) (sa : Option Addr) (sc : Nat) (szs : List Int) (hszs : ∀ z ∈ szs, z ≤ 100000)
    (hsz : ∀ j, j < szs.length → ∃ ad, sa = some ad ∧ ad.spot = none ∧ w.cell? ⟨ad.block, ad.off + j, none⟩ = some (.int .i64 (szs.getD j 0))) (hH : HCof data dict) :
    Ret 9 [dv, xv, .slice sa szs.length sc] w fun v w' => ∃ r c left ov, v = .tuple #[ov, .int .i64 ((c : Nat) : Int), .int .i64 ((left : Nat) : Int)] ∧ Sl w' ov r ∧ InfR data dict szs r c left ∧ Kp [] w w' ∧ ∀ k, ov.ownBlock = some k → w.heap.size ≤ k := by
  have kp0 := Kp.refl [] w
  refine calls_fr (N := 27) Tryd.func9 rfl rfl (by simp) rfl ?_
  refine wp_seq ?_
  -- region 0
  refine reg_lit ?_
  refine L1 (asg (v := .slice _ _ _) rfl) ?_
  refine L1 (asg (v := .int _ _) rfl) ?_
  refine L1 (asg (v := .int _ _) rfl) ?_
  refine wpList_nil ?_
  refine then_n ?_
  refine wp_seq ?_
  -- region 1
  refine reg_lit ?_
  refine L1 (mv (v := dv) rfl) ?_
  refine LC (cl1 has15 rfl rfl) (copied_c _ _ data hA hD.2) ?_
  rintro v1 w1 ⟨hSl, kp1, hown1⟩
  obtain ⟨va, vc, rfl⟩ := hSl.val
  have hB1 := hG.le
  have hG1 := hG.kp kp1 (by simp)
  have hX1 := hX.kp kp1
  refine LC (cl1 has14 rfl rfl) (newReader_c _ va data.length vc) ?_
  rintro v w2 ⟨rfl, hR, kp2, hsz2⟩
  have hSl2 := hSl.kp kp2 (by simp)
  have hG2 := hG1.kp kp2 (by simp)
  have hX2 := hX1.kp kp2
  have hs1 := kp1.size
  obtain ⟨R, hRe⟩ : ∃ R, R = w1.heap.size := ⟨_, rfl⟩
  rw [← hRe] at hR hsz2 ⊢
  refine L1 (asg (v := .pointer _) rfl) ?_
  refine wpList_nil ?_
  refine then_n ?_
  refine wp_seq ?_
  -- region 2
  refine reg_lit ?_
  refine L1 (mv (v := .pointer _) rfl) ?_
  refine L1 (mv (v := xv) rfl) ?_
  refine LC (cl2 has17 rfl rfl rfl) (reader_c _ R _ dict hX2 hXb) ?_
  rintro v w3 ⟨F, H, bt, cb, rfl, hF, hFb, hbc, hcH, hI, hbt, hcb, kp3⟩
  have hSl3 := hSl2.kp kp3 (by simp)
  have hG3 := hG2.kp kp3 (by simp)
  have hR3 := hR.kp kp3 (by simp)
  have hE : (mkE E0.B E0.aE E0.aU F R (ownOf (.slice va data.length vc)) H bt cb data).Ok := mkE_ok hG2 hD hSl2 (fun k hk => by have := hown1 k hk; omega) (fun k hk => by have := hSl.lt hk; omega) (by omega) (by omega) hF hFb hbc hcH
  have hFlt : F < w3.heap.size := by obtain ⟨g, hs, hbF, _⟩ := hI; exact hbF.lt
  have hRep := rep_new (mkE E0.B E0.aE E0.aU F R (ownOf (.slice va data.length vc)) H bt cb data) w3 dict _ _ hXb.1 hI hbt hcb (mkE_rd (E0 := E0) hSl3 hR3 rfl rfl rfl) (mkE_gl hG3) ⟨hFlt, hFlt⟩
  have hs2 := kp2.size
  have hs3 := kp3.size
  have hSlt : ownOf (.slice va data.length vc) < w3.heap.size := by
    unfold ownOf
    split
    · rename_i b hb; have := hSl.lt hb; omega
    · omega
  have kpA : Kp [] w w3 := (kp1.trans kp2).trans kp3
  refine L1 (mv (v := .slice _ _ _) rfl) ?_
  refine LC (cl2 has16 rfl rfl rfl) (drained_c (mkE E0.B E0.aE E0.aU F R (ownOf (.slice va data.length vc)) H bt cb data) w3 (A0 dict) hE hSlt hRep (fun h => absurd h (Nat.lt_irrefl _)) sa sc szs hszs ?_ hH) ?_
  · intro j hj
    obtain ⟨ad, h1, h2, h3⟩ := hsz j hj
    refine ⟨ad, h1, h2, ?_, kpA.cell h3 (by simp)⟩
    have hlt := World.block_lt_of_cell? w _ h3
    simp only at hlt
    simp only [mkE, Env.L, List.mem_cons, List.not_mem_nil, or_false]
    omega
  rintro v w4 ⟨r, c, a', b, o, ov, rfl, hSl4, hR4, hP4, hfar, hdr, hown4, kp4⟩
  refine L1 (mv (v := .tuple _) rfl) ?_
  refine L1 (ext2_0 rfl) ?_
  refine L1 (ext2_1 rfl) ?_
  refine L1 (asg (v := ov) rfl) ?_
  refine L1 (asg (v := .int _ _) rfl) ?_
  refine wpList_nil ?_
  refine then_n ?_
  refine wp_seq ?_
  -- region 3
  refine reg_lit ?_
  refine L1 (mv (v := ov) rfl) ?_
  refine L1 (mv (v := .int _ _) rfl) ?_
  refine L1 (mv (v := .pointer _) rfl) ?_
  refine LC (cl1 has18 rfl rfl) (len_c ((mkE E0.B E0.aE E0.aU F R (ownOf (.slice va data.length vc)) H bt cb data).re b o) _ a'.pos (hE.re b o) hR4.rd) ?_
  rintro v w5 ⟨rfl, kp5⟩
  refine L1 (asg (v := ov) rfl) ?_
  refine L1 (asg (v := .int _ _) rfl) ?_
  refine L1 (asg (v := .int _ _) rfl) ?_
  refine wpList_nil ?_
  refine then_n ?_
  refine wp_ret ?_
  refine ret3 rfl rfl rfl rfl ?_
  refine ⟨_, rfl, r, c, data.length - a'.pos, ov, rfl, hSl4.kp kp5 (by simp), ⟨a', hdr, rfl⟩, ?_, fun k hk => by have := (hown4 k hk).2.2; omega⟩
  refine Kp.transNew (kpA.transNew kp4 ?_) kp5 (by simp)
  intro i hi hlt
  simp only [mkE, Env.L, List.mem_cons, List.not_mem_nil, or_false] at hi
  omega
end Go.Proofs.YtejeloeaklpinaaDoor

/- How a law is closed: what the listed variables give, how slices are opened, what is left behind a call that only lays new blocks. -/
namespace Go.Proofs.YtejeloeaklpinaaDoor
open Go.ChangeShapes Go.WideShapes Go.ChangeAt Go.RowKit

theorem laidOut : laidOutB Tryd.prog = true := by kernel_rfl
theorem gOrder : Tryd.prog.globalNamed "loop.example/pub-g03122/pub/flate.codeOrder" = some 2 := by kernel_rfl
theorem gEOF : Tryd.prog.globalNamed "io.EOF" = some 0 := by kernel_rfl
theorem gUEOF : Tryd.prog.globalNamed "io.ErrUnexpectedEOF" = some 1 := by kernel_rfl
theorem gShort : Tryd.prog.globalNamed "io.ErrShortBuffer" = some 3 := by kernel_rfl
theorem tEOF : (Tryd.prog.globals[0]?).map (·.type) = some 62 := by kernel_rfl
theorem tUEOF : (Tryd.prog.globals[1]?).map (·.type) = some 62 := by kernel_rfl
theorem tShort : (Tryd.prog.globals[3]?).map (·.type) = some 62 := by kernel_rfl
theorem cells150 : Tryd.prog.cellsOf 150 = 1 := by kernel_rfl
theorem cells9 : Tryd.prog.cellsOf 9 = 1 := by kernel_rfl
theorem starE : "*" ++ "errors.errorString" = "*errors.errorString" := by decide
theorem row131 (u : TypeId) (h : Tryd.prog.typeName? 3 u = some "*errors.errorString") : u = 131 :=
  typeName_ptr_named (nm := "errors.errorString") (by rw [starE]; kernel_rfl) (by kernel_rfl) (by decide) u (by rw [starE]; exact h)

/-- What a call leaves that lays new blocks only and answers true. -/
theorem trodAll_stays {H : Type} {enc : TypeId × Value → H} {W W' : World} {sp : Nat → Bool} : ∀ {ts : List TypeId} {vs : List Value} {ds : List (DataW H)} {ps : List MemPlace}, (∀ t ∈ ts, Tryd.prog.readableRec t = true ∧ t < Tryd.prog.types.size) →
    DataW.TrodAll enc Tryd.prog W 0 (fun _ => true) true ts vs ds ps → (∀ p ∈ ps, W.sameAt W' p) → (∀ p ∈ ps, sp p.block = true) → DataW.TrodAll enc Tryd.prog W' 0 sp true ts vs ds ps
  | [], [], [], _, _, h, _, _ => h
  | t :: _, _ :: _, _ :: _, _, hT, ⟨p, q, h1, h2, e⟩, hs, hp =>
    ⟨p, q, WideElems.Trod_stays laidOut (hT t (by simp)).1 (hT t (by simp)).2 h1 (fun x hx => hs x (by rw [e]; exact List.mem_append_left _ hx)) (fun x hx => hp x (by rw [e]; exact List.mem_append_left _ hx)),
      trodAll_stays (fun t ht => hT t (List.mem_cons_of_mem _ ht)) h2 (fun x hx => hs x (by rw [e]; exact List.mem_append_right _ hx)) (fun x hx => hp x (by rw [e]; exact List.mem_append_right _ hx)), e⟩
theorem sameAt_of_kp {W W' : World} (k : Kp [] W W') {p : MemPlace} (hp : p.block < W.heap.size) : W.sameAt W' p := by
  cases p with
  | cell b off => exact World.cell?_of_block (w := W) (w' := W') (a := ⟨b, off, none⟩) (k.block b hp (by simp))
  | map b => exact k.block b hp (by simp)
set_option maxRecDepth 100000 in
theorem post_true {H : Type} {enc : TypeId × Value → H} {f : Func} {s : ChangeSpec} {apart fresh handsOn again : Bool} {W W' : World} {args : Array Value} {ds gs : List (DataW H)} {before : List MemPlace}
    (hW : DataW.Whole enc Tryd.prog f.params.toList s.vars apart W args.toList ds gs before) (kp : Kp [] W W') (hr : f.resultTypes = #[4]) (hfn : s.fn H (ds ++ gs) = { results := [.lit (.bool true)], args := ds, vars := gs })
    (hpar : ∀ t ∈ f.params.toList, Tryd.prog.readableRec t = true ∧ t < Tryd.prog.types.size) (hv : s.vars = ["loop.example/pub-g03122/pub/flate.codeOrder"]) :
    s.post enc Tryd.prog f apart fresh handsOn again W args (.bool true) W' := by
  have hlt : ∀ p ∈ before, p.block < W.heap.size := fun p hp => hW.lt p hp
  have hsame : ∀ p ∈ before, W.sameAt W' p := fun p hp => sameAt_of_kp kp (hlt p hp)
  have hold : ∀ p ∈ before, (fun b => decide (b < W.heap.size)) p.block = true := fun p hp => by simpa using hlt p hp
  have hW0 := hW
  obtain ⟨p, q, hA, hV, e, hz, hn⟩ := hW
  have hA' : DataW.TrodAll enc Tryd.prog W 0 (fun _ => true) true f.params.toList args.toList ds p := hA
  have hV' : DataW.TrodVars enc Tryd.prog W (fun _ => true) s.vars gs q := hV
  have hargs : ∀ sp : Nat → Bool, (∀ p ∈ before, sp p.block = true) → DataW.TrodAll enc Tryd.prog W' 0 sp true f.params.toList args.toList ds p := fun sp hsp =>
    trodAll_stays hpar hA' (fun x hx => hsame x (by rw [e]; exact List.mem_append_left _ hx)) (fun x hx => hsp x (by rw [e]; exact List.mem_append_left _ hx))
  have hvars : ∀ sp : Nat → Bool, (∀ p ∈ before, sp p.block = true) → DataW.TrodVars enc Tryd.prog W' sp s.vars gs q := by
    intro sp hsp
    rw [hv] at hV' ⊢
    obtain ⟨g, t, cs, fuel, d, p2, rfl, h1, h2, h3, h4, rfl⟩ := trodVars_one hV'
    obtain rfl := Option.some.inj (gOrder.symm.trans h1)
    have h3' : W'.var? Tryd.prog "loop.example/pub-g03122/pub/flate.codeOrder" = some cs := by
      unfold World.var? at h3 ⊢
      rw [gOrder] at h3 ⊢
      simp only [Option.bind_some] at h3 ⊢
      have hb : 2 < W.heap.size := by
        rcases Nat.lt_or_ge 2 W.heap.size with h' | h'
        · exact h'
        · simp [Array.getElem?_eq_none h'] at h3
      rw [kp.block 2 hb (by simp)]
      exact h3
    have ht : t = 98 := by
      have h5 : (Tryd.prog.globals[2]?).map (·.type) = some 98 := by kernel_rfl
      exact Option.some.inj (h2.symm.trans h5)
    subst ht
    have hr98 : Tryd.prog.readableRec 98 = true := by kernel_rfl
    have hn' := DataW.trod_stays (w' := W') (sp' := sp) (kids_book laidOut hr98) (book_sized hr98) (fun h => by cases h) ⟨of_decide_eq_true (by kernel_rfl), book_self 98⟩ h4 (fun x hx => hsame x (by rw [e]; exact List.mem_append_right _ (List.mem_append_right _ hx))) (fun x hx => hsp x (by rw [e]; exact List.mem_append_right _ (List.mem_append_right _ hx)))
    exact trodVars_mk1 h1 h2 h3' hn'
  have hres : ∀ (b : Nat) (sp : Nat → Bool) (hd : Bool), DataW.TrodAll enc Tryd.prog W' b sp hd f.resultTypes.toList ((Value.bool true).resultList f.resultTypes.size) [.lit (.bool true)] [] := by
    intro b sp hd
    rw [hr]
    exact trodAll_cons_mk (shut_bool Tryd.underlying4 _) trodAll_mk0
  have hok0 : Value.okWide Tryd.prog W' .any 0 4 (.bool true) := okWide_bool_mk Tryd.underlying4 true
  have hok := ok_one (P := Tryd.prog) (W' := W') (f := f) (v := .bool true) (t := 4) hr rfl hok0
  have hk : W.keptBut W' (· ∈ before) := World.keptBut_mono (fun _ h => h.elim) (World.keptBut_none_iff.2 ⟨kp.os, kp.output, fun i hi => kp.block i hi (by simp)⟩)
  refine ⟨ds, gs, before, [], p, q, hW0, ?_, ?_, ?_, World.keptBut_mono (fun x hx => ⟨hx, ?_⟩) hk, fun _ => ?_⟩
  · rw [hfn]; exact hres _ _ _
  · rw [hfn]; exact hargs _ hold
  · rw [hfn]; exact hvars _ hold
  · have hx' := hx
    rw [e, List.mem_append] at hx'
    exact Or.inr hx'
  · refine ⟨hok, _, _, ([] ++ p) ++ q, ⟨[] ++ p, q, trodAll_append (hargs _ (fun _ _ => rfl)) (hres _ _ _), hvars _ (fun _ _ => rfl), rfl, ?_, ?_⟩, ?_⟩
    · intro b off hp
      have hpb : MemPlace.cell b off ∈ before := by rw [e]; simpa using hp
      rw [World.frozen?_of_block (w := W) (w' := W') (a := ⟨b, off, none⟩) (kp.block b (hlt _ hpb) (by simp))]
      exact hz b off hpb
    · intro ha
      have := hn ha
      rw [e] at this
      simpa using this
    · intro x hx _
      rw [e]
      simpa using hx
end Go.Proofs.YtejeloeaklpinaaDoor

/- What the listed variables give; slices of bytes opened. -/
namespace Go.Proofs.YtejeloeaklpinaaDoor
open Go.ChangeShapes Go.WideShapes Go.ChangeAt Go.RowKit

def laidL : List (String × DataW Unit) := [("io.ErrShortBuffer", Rows.laid_io_ErrShortBuffer), ("io.EOF", Rows.laid_io_EOF), ("io.ErrUnexpectedEOF", Rows.laid_io_ErrUnexpectedEOF), ("loop.example/pub-g03122/pub/flate.codeOrder", Rows.laid_loop_example_pub_g03122_pub_flate_codeOrder)]
set_option maxRecDepth 100000 in
/-- A listed error: its pointer, its text, and that its block may be written. -/
theorem laid_err {n : String} {text : List UInt8} {r : List (String × DataW Unit)} {W : World} {g : Nat} (h : laidMet Tryd.prog ((n, .iface "*errors.errorString" (.ptr (.agg [.lit (.string text)]))) :: r) W)
    (hg : Tryd.prog.globalNamed n = some g) (ht : (Tryd.prog.globals[g]?).map (·.type) = some 62) :
    ∃ (a : Addr) (s : ByteArray), W.cell? ⟨g, 0, none⟩ = some (.iface 131 (.pointer (some a))) ∧ W.cell? a = some (.string s) ∧ s.data.toList = text ∧ ∃ c t, W.heap[a.block]? = some (.cells c t (0, 0)) := by
  obtain ⟨ps, ⟨g0, t0, cs0, f0, p0, q0, hg0, ht0, hv0, hd0, _, e0⟩, _, hrows⟩ := h
  obtain rfl := Option.some.inj (hg.symm.trans hg0)
  obtain rfl := Option.some.inj (ht.symm.trans ht0)
  subst e0
  obtain ⟨l0⟩ := cs0
  have ok0 : ∀ u v, l0 = [.iface u v] → Value.okWide Tryd.prog W .any 0 u v := fun u v e => by
    subst e
    exact (hrows g 0 (by simp [MemPlace.row])).2 u v (by simpa using World.var?_cell hg0 hv0 0)
  obtain ⟨a0, s0, rfl, hc0, hs0, hz0, hp0⟩ := errorString_of_trod (enc := fun _ => ()) (te := 150) (ts := 9) und62 row131 und131 Tryd.underlying150 rfl rfl Tryd.underlying9 cells150 cells9 hd0 ok0
  refine ⟨a0, s0, by simpa using World.var?_cell hg0 hv0 0, hc0, hs0, ?_⟩
  subst hp0
  have hsp : a0.spot = none := World.cell?_spot hc0
  exact (hrows a0.block a0.off (by simp [MemPlace.row])).1
theorem cells3 : Tryd.prog.cellsOf 3 = 1 := by kernel_rfl
theorem cells98 : Tryd.prog.cellsOf 98 = 19 := by kernel_rfl
theorem tOrder : (Tryd.prog.globals[2]?).map (·.type) = some 98 := by kernel_rfl
set_option maxRecDepth 100000 in
theorem gl_of_laid {W : World} (h : laidMet Tryd.prog laidL W) : ∃ E0 : Env, Gl E0 W ∧ E0.B = W.heap.size := by
  obtain ⟨aE, sE, hE, hcE, htE, hbE⟩ := laid_err h.tail gEOF tEOF
  obtain ⟨aU, sU, hU, hcU, htU, hbU⟩ := laid_err h.tail.tail gUEOF tUEOF
  have hT : Lib.TabIs Tryd.prog W "loop.example/pub-g03122/pub/flate.codeOrder" .i64 [16, 17, 18, 0, 8, 7, 9, 6, 10, 5, 11, 4, 12, 3, 13, 2, 14, 1, 15] :=
    Lib.tabIs_of_head (rest := []) gOrder tOrder Tryd.underlying98 Tryd.underlying3 cells3 cells98 h.tail.tail.tail
  have hne : aE ≠ aU := by
    intro e
    subst e
    rw [hcE] at hcU
    simp only [Option.some.injEq, Value.string.injEq] at hcU
    subst hcU
    rw [htE] at htU
    exact absurd htU (by decide)
  have hord : ∀ i, i < 19 → W.cell? ⟨2, i, none⟩ = some (.int .i64 (order i)) := fun i hi => hT.cell gOrder i hi
  have h2 := World.block_lt_of_cell? W _ (hord 0 (by decide))
  exact ⟨⟨W.heap.size, aE, aU, 0, 0, 0, 0, 0, 0, 0, 0, 0, fun _ => 0⟩, ⟨by show 3 ≤ W.heap.size; simp only at h2; omega, Nat.le_refl _, hE, hU, hne, World.block_lt_of_cell? W _ hcE, World.block_lt_of_cell? W _ hcU, hbE, hbU, hord⟩, rfl⟩
set_option maxRecDepth 100000 in
/-- A slice of bytes that came in. -/
theorem openBytes {H : Type} {enc : TypeId × Value → H} {W : World} {base : Nat} {v : Value} {d : DataW H} {p : List MemPlace} (hval : Value.okWide Tryd.prog W .any base 22 v) (h : DataW.Trod enc Tryd.prog W 0 (fun _ => true) true 22 v d p) :
    ∃ xs : List Nat, Ag W v xs ∧ (∀ x ∈ xs, x < 256) ∧ (xs.length = 0 ∨ ∃ el rs, d = .slice el rs ∧ el.length = xs.length) := by
  obtain ⟨a1, len, cap, rfl⟩ := okWide_slice und22 hval
  obtain ⟨fuel, hf⟩ := h
  rcases open_ints und22 Tryd.underlying5 (by kernel_rfl) hf with ⟨hcs, hx⟩ | ⟨a, len', cap', zs, hcs, _, hl, hm, hz, hx, hcell, hwz⟩
  · simp [Value.cells] at hcs
    obtain ⟨rfl, rfl, rfl⟩ := hcs
    exact ⟨[], ⟨none, 0, rfl, fun j hj => by simp at hj⟩, by simp, .inl rfl⟩
  · simp [Value.cells] at hcs
    obtain ⟨rfl, rfl, rfl⟩ := hcs
    simp only [Prod.mk.injEq] at hx
    obtain ⟨rfl, rfl⟩ := hx
    simp only [if_true] at hz
    have hlen : ((zs.take len).map Int.toNat).length = len := by simp; omega
    refine ⟨(zs.take len).map Int.toNat, ⟨some a, cap, by rw [hlen], fun j hj => ⟨a, rfl, ?_⟩⟩, fun x hx => ?_, .inr ⟨_, _, rfl, ?_⟩⟩
    · rw [hlen] at hj
      rw [hcell j (by omega)]
      have hb := range_u8 hwz j
      rw [List.getD_eq_getElem?_getD, List.getD_eq_getElem?_getD, List.getElem?_map, List.getElem?_take, if_pos hj]
      rw [List.getElem?_eq_getElem (show j < zs.length by omega)] at hb ⊢
      simp only [Option.getD_some, Option.map_some] at hb ⊢
      rw [Int.toNat_of_nonneg hb.1]
    · obtain ⟨z, hz1, rfl⟩ := List.mem_map.1 hx
      have := bounds_u8 (hwz z (List.mem_of_mem_take hz1))
      omega
    · rw [hlen]
      simp [lits]
      omega
end Go.Proofs.YtejeloeaklpinaaDoor

/- A block of the fourth kind is refused. -/
namespace Go.Proofs.YtejeloeaklpinaaDoor
open Go.ChangeShapes Go.WideShapes Go.ChangeAt Go.RowKit
section
variable {ρ : Operand → Value} {d : Option Nat} {x y z : Operand} {ty : TypeId} {pos : String} {af : Array Edge} {gd : Option (Nat × Bool)} {w : World}
theorem bs1 {h : Int} (hx : ρ x = .int .u8 h) : (execOp ρ ⟨d, .buildSlice 22 1 #[(0, x)], ty, pos, af, gd⟩).run Tryd.prog w = .ok (.value (.slice (some ⟨w.heap.size, 0, none⟩) 1 1)) (w.alloc (.cells #[.int .u8 h] 5)) := by
  simp only [execOp, List.map_toArray, List.map_cons, List.map_nil, hx]
  kernel_rfl
end
theorem sl1 (w : World) (h : Nat) : Sl (w.alloc (.cells #[.int .u8 (h : Int)] 5)) (.slice (some ⟨w.heap.size, 0, none⟩) 1 1) [h] := by
  refine .inr ⟨w.heap.size, 1, fun _ => .int .u8 h, rfl, Bk.newOf w _ 5 1 _ rfl, Nat.le_refl _, by decide, fun k hk => ?_⟩
  have : k = 0 := by simp at hk; omega
  subst this
  rfl
theorem Ag.nil (w : World) : Ag w (.slice none 0 0) [] := ⟨none, 0, rfl, fun j hj => by simp at hj⟩
theorem Bytes.nil : Bytes [] := ⟨by simp, by simp⟩
/-- The first bits of a stream. -/
theorem bv_head (h : Nat) (more : List Nat) (hb : ∀ x ∈ h :: more, x < 256) (n : Nat) (hn : n ≤ 8) : bv (srcOf (h :: more)).D 0 n = h % 2 ^ n := by
  have h0 : bv (srcOf (h :: more)).D (8 * 0) 8 = h := by
    have e := dnum_byte (fun k => (h :: more).getD k 0) (fun k => getD_lt hb k) (h :: more).length 0 (by simp)
    rw [pow256] at e
    exact e
  have := bv_mod (srcOf (h :: more)).D 0 8 n hn
  rw [← this]
  rw [Nat.mul_zero] at h0
  rw [h0]
def kindB (h : Nat) (more : List Nat) : A := ((A0 []).headed (srcOf (h :: more))).bad
theorem kind_mic (h : Nat) (more : List Nat) (hb : ∀ x ∈ h :: more, x < 256) (hh : h % 8 / 2 = 3) : mic (srcOf (h :: more)) (A0 []) = (kindB h more, true) := by
  rw [mic_next rfl]
  unfold mNext
  have hbv := bv_head h more hb 3 (by decide)
  have hN : (srcOf (h :: more)).N = more.length + 1 := by simp [srcOf]
  have hp : (A0 []).p = 0 := rfl
  rw [hp, hN, if_neg (by omega), hbv]
  simp only
  rw [if_neg (by omega), if_neg (by omega), if_neg (by omega)]
  unfold kindB A.headed
  rw [hp, hbv]
theorem kind_runs {h : Nat} {more : List Nat} (hb : ∀ x ∈ h :: more, x < 256) (hh : h % 8 / 2 = 3) {b : A} (hr : Runs (srcOf (h :: more)) (A0 []) b) : b = kindB h more :=
  hr.det (.stop (kind_mic h more hb hh))
theorem lastW_nil : lastW [] = [] := by unfold lastW; rfl
theorem kind_law {h : Nat} {more : List Nat} (hb : ∀ x ∈ h :: more, x < 256) (hh : h % 8 / 2 = 3) {r : List Nat} {c left : Nat} (hI : InfR (h :: more) [] [] r c left) : c = 1 ∧ r = [] := by
  obtain ⟨a, hd, _⟩ := hI
  have ho : (kindB h more).out = [] := lastW_nil
  have hl : (kindB h more).late = (kindB h more).flush := by unfold A.late; rw [if_pos ⟨by show (3 : Nat) ≠ 0; decide, rfl⟩]
  have hrd : Reads (srcOf (h :: more)) (szAt [] 0) (A0 []) 0 3 (kindB h more).flush := by
    refine .step rfl rfl (.stop (kind_mic h more hb hh)) ?_
    rw [hl]
    refine .done ?_ (by show (3 : Nat) ≠ 0; decide)
    show (lastW []).length = (kindB h more).out.length
    rw [ho, lastW_nil]
  have key : ∀ k er a', Reads (srcOf (h :: more)) (szAt [] 0) (A0 []) k er a' → k = 0 ∧ er = 3 := fun k er a' hx => by
    obtain ⟨h1, h2, _⟩ := hx.det hrd
    exact ⟨h1, h2⟩
  cases hd with
  | stop h0 => omega
  | over _ hx h3 => obtain ⟨rfl, rfl⟩ := key _ _ _ hx; simp at h3
  | fin _ hx h3 h4 => obtain ⟨rfl, rfl⟩ := key _ _ _ hx; exact ⟨rfl, by simp⟩
  | next _ hx h3 h4 => have := (key _ _ _ hx).2; omega
theorem kind_hc {h : Nat} {more : List Nat} (hb : ∀ x ∈ h :: more, x < 256) (hh : h % 8 / 2 = 3) : HCof (h :: more) [] := by
  intro a hfar hn
  have key : ∀ b c, Far (srcOf (h :: more)) b c → b = A0 [] ∨ b.err ≠ 0 → c = A0 [] ∨ c.err ≠ 0 := by
    intro b c hf
    induction hf with
    | refl => exact id
    | step h1 h2 h3 _ ih =>
      rintro (rfl | h0)
      · refine ih (.inr ?_)
        rw [kind_runs hb hh h3]
        unfold A.late
        split
        · exact (by decide : (3 : Nat) ≠ 0)
        · exact (by decide : (3 : Nat) ≠ 0)
      · exact absurd h2 h0
    | take k h1 _ ih =>
      rintro (rfl | h0)
      · have hk : k = 0 := by
          have e : (A0 []).e = (A0 []).fl := rfl
          omega
        subst hk
        exact ih (.inl rfl)
      · exact ih (.inr h0)
  rcases key _ _ hfar (.inl rfl) with rfl | h0
  · exfalso
    have h2 := hn.2.2
    have hbv := bv_head h more hb 3 (by decide)
    have hp : (A0 []).p = 0 := rfl
    rw [hp, hbv] at h2
    omega
  · exact absurd hn.1 h0
attribute [local irreducible] wpList wpStill wpMix Code.wp Calls fr

theorem fnKind_w (E0 : Env) (w : World) (hG : Gl E0 w) (uv : Value) (more : List Nat) (last : Bool) (hA : Ag w uv more) (hB : ∀ x ∈ more, x < 256) (hL : more.length + 1 ≤ 140737488355328) :
    Ret 6 [uv, .bool last] w fun v w' => v = .bool true ∧ Kp [] w w' := by
  have hd : ∀ h, h < 256 → Bytes (h :: more) := fun h hh => ⟨by simpa using ⟨hh, hB⟩, by simpa using hL⟩
  refine calls_fr (N := 26) Tryd.func6 rfl rfl (by simp) rfl ?_
  refine wp_seq ?_
  -- region 0
  refine reg_lit ?_
  refine L1 (asg (v := .bool _) rfl) ?_
  refine wpList_nil ?_
  refine then_n ?_
  refine wp_seq ?_
  -- region 1
  refine reg_lit ?_
  refine L1 (asg (v := .int _ _) rfl) ?_
  refine wpList_nil ?_
  refine then_n ?_
  refine wp_seq ?_
  refine wp_seq ?_
  -- region 2
  refine reg_lit ?_
  refine L1 (mv (v := .bool _) rfl) ?_
  refine wpList_nil ?_
  refine then_n ?_
  cases last
  · skip
    refine cond_f rfl ?_
    obtain ⟨hh, hhe, h256, hmod⟩ : ∃ hh : Nat, hh = 6 ∧ hh < 256 ∧ hh % 8 / 2 = 3 := ⟨_, rfl, by decide, by decide⟩
    refine wp_skip ?_
    refine then_n ?_
    refine wp_seq ?_
    -- region 4
    refine reg_lit ?_
    refine L1 (mv (v := .int .u8 (hh : Int)) (by rw [hhe]; rfl)) ?_
    refine L1 (bs1 rfl) ?_
    have kp1 := (Kp.refl [] w).alloc (.cells #[.int .u8 (hh : Int)] 5)
    have hs1 := sl1 w hh
    refine L1 (mv (v := uv) rfl) ?_
    refine Lapg (v := .slice _ 1 1) rfl rfl hs1 (hA.kp kp1) (by simp; omega) ?_
    intro v2 w2 hSl kp2 hown2
    have kp := kp1.transNew kp2 (by simp [obk, Value.ownBlock])
    simp only [List.singleton_append] at hSl
    refine LC (cl3 has9 rfl rfl rfl rfl) (inflate_c E0 _ (hG.kp kp (by simp)) v2 (.slice none 0 0) (hh :: more) [] hSl.ag (hd hh h256) (Ag.nil _) Bytes.nil none 0 [] (by simp) (by simp) (kind_hc (hd hh h256).1 hmod)) ?_
    rintro v w3 ⟨r, c, left, ov, rfl, hSl3, hI, kp3, hown3⟩
    obtain ⟨rfl, rfl⟩ := kind_law (hd hh h256).1 hmod hI
    obtain ⟨oa, oc, rfl⟩ := hSl3.val
    have kp := kp.trans kp3
    refine L1 (mv (v := .tuple _) rfl) ?_
    refine L1 (ext3_0 rfl) ?_
    refine L1 (ext3_1 rfl) ?_
    refine L1 (ext3_2 rfl) ?_
    refine L1 (asg (v := .slice _ _ _) rfl) ?_
    refine L1 (asg (v := .int _ _) rfl) ?_
    refine L1 (asg (v := .int _ _) rfl) ?_
    refine wpList_nil ?_
    refine then_n ?_
    refine wp_seq ?_
    -- region 5
    refine reg_lit ?_
    refine L1 (mv (v := .int _ _) rfl) ?_
    refine L1 (bi rfl rfl (bn_eql (v := true) (decide_eq_true rfl))) ?_
    refine L1 (mv (v := .bool _) rfl) ?_
    refine L1g (t := 21) (b := true) rfl (by decide) rfl (mv (v := .slice _ _ _) rfl) ?_
    refine L1g (t := 21) (b := true) rfl (by decide) rfl (ln und22 rfl) ?_
    refine L1g (t := 21) (b := true) rfl (by decide) rfl (bi rfl rfl (bn_eql (v := true) (decide_eq_true rfl))) ?_
    refine L1 (pk_t rfl rfl) ?_
    refine L1 (asg (v := .bool _) rfl) ?_
    refine wpList_nil ?_
    refine then_n ?_
    refine wp_ret ?_
    refine ret1 rfl rfl ?_
    exact ⟨_, rfl, rfl, kp⟩
  · skip
    refine cond_t rfl ?_
    obtain ⟨hh, hhe, h256, hmod⟩ : ∃ hh : Nat, hh = 7 ∧ hh < 256 ∧ hh % 8 / 2 = 3 := ⟨_, rfl, by decide, by decide⟩
    -- region 3
    refine reg_lit ?_
    refine L1 (asg (v := .int _ _) rfl) ?_
    refine wpList_nil ?_
    refine then_n ?_
    refine wp_seq ?_
    -- region 4
    refine reg_lit ?_
    refine L1 (mv (v := .int .u8 (hh : Int)) (by rw [hhe]; rfl)) ?_
    refine L1 (bs1 rfl) ?_
    have kp1 := (Kp.refl [] w).alloc (.cells #[.int .u8 (hh : Int)] 5)
    have hs1 := sl1 w hh
    refine L1 (mv (v := uv) rfl) ?_
    refine Lapg (v := .slice _ 1 1) rfl rfl hs1 (hA.kp kp1) (by simp; omega) ?_
    intro v2 w2 hSl kp2 hown2
    have kp := kp1.transNew kp2 (by simp [obk, Value.ownBlock])
    simp only [List.singleton_append] at hSl
    refine LC (cl3 has9 rfl rfl rfl rfl) (inflate_c E0 _ (hG.kp kp (by simp)) v2 (.slice none 0 0) (hh :: more) [] hSl.ag (hd hh h256) (Ag.nil _) Bytes.nil none 0 [] (by simp) (by simp) (kind_hc (hd hh h256).1 hmod)) ?_
    rintro v w3 ⟨r, c, left, ov, rfl, hSl3, hI, kp3, hown3⟩
    obtain ⟨rfl, rfl⟩ := kind_law (hd hh h256).1 hmod hI
    obtain ⟨oa, oc, rfl⟩ := hSl3.val
    have kp := kp.trans kp3
    refine L1 (mv (v := .tuple _) rfl) ?_
    refine L1 (ext3_0 rfl) ?_
    refine L1 (ext3_1 rfl) ?_
    refine L1 (ext3_2 rfl) ?_
    refine L1 (asg (v := .slice _ _ _) rfl) ?_
    refine L1 (asg (v := .int _ _) rfl) ?_
    refine L1 (asg (v := .int _ _) rfl) ?_
    refine wpList_nil ?_
    refine then_n ?_
    refine wp_seq ?_
    -- region 5
    refine reg_lit ?_
    refine L1 (mv (v := .int _ _) rfl) ?_
    refine L1 (bi rfl rfl (bn_eql (v := true) (decide_eq_true rfl))) ?_
    refine L1 (mv (v := .bool _) rfl) ?_
    refine L1g (t := 21) (b := true) rfl (by decide) rfl (mv (v := .slice _ _ _) rfl) ?_
    refine L1g (t := 21) (b := true) rfl (by decide) rfl (ln und22 rfl) ?_
    refine L1g (t := 21) (b := true) rfl (by decide) rfl (bi rfl rfl (bn_eql (v := true) (decide_eq_true rfl))) ?_
    refine L1 (pk_t rfl rfl) ?_
    refine L1 (asg (v := .bool _) rfl) ?_
    refine wpList_nil ?_
    refine then_n ?_
    refine wp_ret ?_
    refine ret1 rfl rfl ?_
    exact ⟨_, rfl, rfl, kp⟩
end Go.Proofs.YtejeloeaklpinaaDoor

/- A stream of blocks that are as they stand: what the machine makes of it. Plain lists and numbers. -/
namespace Go.Proofs.YtejeloeaklpinaaDoor
/-- The head of a block, a block, the stream and the bytes up to block k. -/
def stHead (last : Bool) (n : Nat) : List Nat := [if last then 1 else 0, n % 256, n / 256 % 256, 255 - n % 256, 255 - n / 256 % 256]
def stBlk (ps : List (List Nat)) (k : Nat) : List Nat := stHead (decide (k + 1 = ps.length)) (ps.getD k []).length ++ ps.getD k []
def stUp (ps : List (List Nat)) : Nat → List Nat
  | 0 => []
  | k + 1 => stUp ps k ++ stBlk ps k
def whUp (ps : List (List Nat)) : Nat → List Nat
  | 0 => []
  | k + 1 => whUp ps k ++ ps.getD k []
theorem stUp_pre (ps : List (List Nat)) (k : Nat) : ∀ d, ∃ r, stUp ps (k + d) = stUp ps k ++ r
  | 0 => ⟨[], by simp⟩
  | d + 1 => by
    obtain ⟨r, h⟩ := stUp_pre ps k d
    exact ⟨r ++ stBlk ps (k + d), by rw [← Nat.add_assoc]; simp only [stUp]; rw [h, List.append_assoc]⟩
theorem whUp_pre (ps : List (List Nat)) (k : Nat) : ∀ d, ∃ r, whUp ps (k + d) = whUp ps k ++ r
  | 0 => ⟨[], by simp⟩
  | d + 1 => by
    obtain ⟨r, h⟩ := whUp_pre ps k d
    exact ⟨r ++ ps.getD (k + d) [], by rw [← Nat.add_assoc]; simp only [whUp]; rw [h, List.append_assoc]⟩
theorem stHead_len (b : Bool) (n : Nat) : (stHead b n).length = 5 := rfl
theorem stUp_len (ps : List (List Nat)) : ∀ k, (stUp ps k).length = 5 * k + (whUp ps k).length
  | 0 => rfl
  | k + 1 => by simp only [stUp, whUp, stBlk, List.length_append, stHead_len, stUp_len ps k]; omega
theorem stUp_byte (ps : List (List Nat)) (h : ∀ k, ∀ x ∈ ps.getD k [], x < 256) : ∀ k, ∀ x ∈ stUp ps k, x < 256
  | 0, x, hx => by simp [stUp] at hx
  | k + 1, x, hx => by
    simp only [stUp, stBlk, List.mem_append] at hx
    rcases hx with hx | hx | hx
    · exact stUp_byte ps h k x hx
    · simp only [stHead, List.mem_cons, List.not_mem_nil, or_false] at hx
      rcases hx with rfl | rfl | rfl | rfl | rfl
      · split <;> omega
      all_goals omega
    · exact h k x hx
theorem srcb {data : List Nat} (hb : ∀ x ∈ data, x < 256) {i : Nat} (hi : i < data.length) : bv (srcOf data).D (8 * i) 8 = data.getD i 0 := by
  have e := dnum_byte (fun k => data.getD k 0) (fun k => getD_lt hb k) data.length i hi
  rw [pow256] at e
  exact e
theorem srcw {data : List Nat} (hb : ∀ x ∈ data, x < 256) {i : Nat} (hi : i + 1 < data.length) : bv (srcOf data).D (8 * i) 16 = data.getD i 0 + 256 * data.getD (i + 1) 0 := by
  rw [show (16 : Nat) = 8 + 8 from rfl, bv_add, srcb hb (by omega), show 8 * i + 8 = 8 * (i + 1) by omega, srcb hb hi]
theorem src3 {data : List Nat} (hb : ∀ x ∈ data, x < 256) {i : Nat} (hi : i < data.length) : bv (srcOf data).D (8 * i) 3 = data.getD i 0 % 8 := by
  rw [← bv_mod (srcOf data).D (8 * i) 8 3 (by decide), srcb hb hi]
theorem bytesAt_eq {data : List Nat} (hb : ∀ x ∈ data, x < 256) : ∀ (m pos : Nat), pos + m ≤ data.length → bytesAt (srcOf data) pos m = (data.drop pos).take m
  | 0, _, _ => by simp [bytesAt]
  | m + 1, pos, h => by
    simp only [bytesAt]
    rw [srcb hb (by omega), bytesAt_eq hb m (pos + 1) (by omega), List.drop_eq_getElem_cons (show pos < data.length by omega), List.take_succ_cons, List.getD_eq_getElem?_getD, List.getElem?_eq_getElem (show pos < data.length by omega)]
    rfl

section
variable {ps : List (List Nat)}
/-- The stream around block k. -/
theorem st_at {k : Nat} (hk : k < ps.length) : ∃ r, stUp ps ps.length = stUp ps k ++ (stHead (decide (k + 1 = ps.length)) (ps.getD k []).length ++ (ps.getD k [] ++ r)) := by
  obtain ⟨r, h⟩ := stUp_pre ps (k + 1) (ps.length - (k + 1))
  rw [show k + 1 + (ps.length - (k + 1)) = ps.length by omega] at h
  exact ⟨r, by rw [h]; simp only [stUp, stBlk, List.append_assoc]⟩
theorem st_head {k : Nat} (hk : k < ps.length) {j : Nat} (hj : j < 5) : (stUp ps ps.length).getD ((stUp ps k).length + j) 0 = (stHead (decide (k + 1 = ps.length)) (ps.getD k []).length).getD j 0 := by
  obtain ⟨r, h⟩ := st_at hk
  rw [h, getD_app, if_neg (by omega), getD_app, if_pos (by rw [stHead_len]; omega)]
  congr 1
  omega
theorem st_data {k : Nat} (hk : k < ps.length) {j m : Nat} (hj : j + m ≤ (ps.getD k []).length) : ((stUp ps ps.length).drop ((stUp ps k).length + 5 + j)).take m = ((ps.getD k []).drop j).take m := by
  obtain ⟨r, h⟩ := st_at hk
  have e : (stUp ps k ++ (stHead (decide (k + 1 = ps.length)) (ps.getD k []).length ++ (ps.getD k [] ++ r))).drop ((stUp ps k).length + 5 + j) = (ps.getD k [] ++ r).drop j := by
    rw [← List.append_assoc, List.drop_append, List.length_append, stHead_len, List.drop_of_length_le (by rw [List.length_append, stHead_len]; omega), List.nil_append, show (stUp ps k).length + 5 + j - ((stUp ps k).length + 5) = j by omega]
  rw [h, e, List.drop_append_of_le_length (by omega), List.take_append_of_le_length (by rw [List.length_drop]; omega)]
theorem st_len {k : Nat} (hk : k < ps.length) : (stUp ps k).length + 5 + (ps.getD k []).length ≤ (stUp ps ps.length).length := by
  obtain ⟨r, h⟩ := st_at hk
  rw [h]
  simp only [List.length_append, stHead_len]
  omega
theorem wh_len {k : Nat} (hk : k < ps.length) : (whUp ps k).length + (ps.getD k []).length ≤ (whUp ps ps.length).length := by
  obtain ⟨r, h⟩ := whUp_pre ps (k + 1) (ps.length - (k + 1))
  rw [show k + 1 + (ps.length - (k + 1)) = ps.length by omega] at h
  rw [h]
  simp only [List.length_append, whUp]
  omega
/-- Flushes that may come. -/
def stF (ps : List (List Nat)) (k l : Nat) : Nat := (ps.length - k) + ((whUp ps ps.length).length / 32768 - l / 32768)
inductive St (ps : List (List Nat)) : Nat → A → Prop where
  | next {a : A} (k : Nat) : k < ps.length → a.md = .next → a.err = 0 → a.pos = (stUp ps k).length → a.p = 8 * a.pos → a.out = whUp ps k → St ps (stF ps k a.out.length) a
  | data {a : A} (k j : Nat) : k < ps.length → a.md = .data ((ps.getD k []).length - j) → j ≤ (ps.getD k []).length → a.err = 0 → a.fin = decide (k + 1 = ps.length) → a.pos = (stUp ps k).length + 5 + j → a.out = whUp ps k ++ (ps.getD k []).take j → St ps (stF ps k a.out.length) a
  | done {a : A} : a.err = 1 → a.pos = (stUp ps ps.length).length → a.out = whUp ps ps.length → a.fl = a.out.length → St ps 0 a
theorem St.e {F : Nat} {a : A} (h : St ps F a) (e : Nat) : St ps F { a with e := e } := by
  cases h with
  | next k h1 h2 h3 h4 h5 h6 => exact .next (a := { a with e := e }) k h1 h2 h3 h4 h5 h6
  | data k j h1 h2 h3 h4 h5 h6 h7 => exact .data (a := { a with e := e }) k j h1 h2 h3 h4 h5 h6 h7
  | done h1 h2 h3 h4 => exact .done h1 h2 h3 h4
/-- Behind block k. -/
theorem st_finish {k l : Nat} (hk : k < ps.length) (hl0 : l ≤ (whUp ps (k + 1)).length) {b : A} (he : b.err = 0) (hf : b.fin = decide (k + 1 = ps.length)) (hpos : b.pos = (stUp ps (k + 1)).length) (hp : b.p = 8 * b.pos) (ho : b.out = whUp ps (k + 1)) :
    ∃ F', St ps F' b.finish ∧ F' + 1 ≤ stF ps k l := by
  have hl : (whUp ps (k + 1)).length ≤ (whUp ps ps.length).length := by have := wh_len hk; simp only [whUp, List.length_append]; omega
  unfold A.finish
  rw [hf]
  by_cases h : k + 1 = ps.length
  · rw [if_pos (by simpa using h)]
    refine ⟨0, .done rfl (by rw [← h]; exact hpos) (by rw [← h]; exact ho) rfl, ?_⟩
    unfold stF; omega
  · rw [if_neg (by simpa using h)]
    refine ⟨_, .next (k + 1) (by omega) rfl he hpos hp ho, ?_⟩
    show stF ps (k + 1) b.out.length + 1 ≤ _
    rw [ho]
    unfold stF
    have := Nat.div_le_div_right (c := 32768) hl0
    omega
theorem st_mic (hb : ∀ k, ∀ x ∈ ps.getD k [], x < 256) (hm : ∀ k, (ps.getD k []).length < 65536) {F : Nat} {a b : A} {t : Bool} (h : St ps F a) (he : a.err = 0) (hmic : mic (srcOf (stUp ps ps.length)) a = (b, t)) :
    ∃ F', St ps F' b ∧ F' + (if b.fl = a.fl then 0 else 1) ≤ F := by
  have hby := stUp_byte ps hb ps.length
  have hN : (srcOf (stUp ps ps.length)).N = (stUp ps ps.length).length := rfl
  cases h with
  | done h1 => omega
  | next k hk hmd _ hpos hp ho =>
    have hlen := st_len hk
    have hh : ∀ j, j < 5 → _ := fun j hj => st_head hk (j := j) hj
    have h0 : bv (srcOf (stUp ps ps.length)).D a.p 3 = if k + 1 = ps.length then 1 else 0 := by
      rw [hp, src3 hby (by omega), hpos]
      have := hh 0 (by decide)
      rw [Nat.add_zero] at this
      rw [this]
      show (if decide (k + 1 = ps.length) = true then 1 else 0) % 8 = _
      by_cases h : k + 1 = ps.length <;> simp [h]
    have hml := hm k
    have hrd : rdTo a.p a.pos 3 = (stUp ps k).length + 1 := by unfold rdTo; omega
    have w1 : bv (srcOf (stUp ps ps.length)).D (8 * ((stUp ps k).length + 1)) 16 = (ps.getD k []).length := by
      rw [srcw hby (by omega), hh 1 (by decide), Nat.add_assoc, hh (1 + 1) (by decide)]
      show (ps.getD k []).length % 256 + 256 * ((ps.getD k []).length / 256 % 256) = _
      omega
    have w2 : bv (srcOf (stUp ps ps.length)).D (8 * ((stUp ps k).length + 1) + 16) 16 = 65535 - (ps.getD k []).length := by
      rw [show 8 * ((stUp ps k).length + 1) + 16 = 8 * ((stUp ps k).length + 3) by omega, srcw hby (by omega), hh 3 (by decide), Nat.add_assoc, hh (3 + 1) (by decide)]
      show 255 - (ps.getD k []).length % 256 + 256 * (255 - (ps.getD k []).length / 256 % 256) = _
      omega
    have hfin : decide (bv (srcOf (stUp ps ps.length)).D a.p 3 % 2 = 1) = decide (k + 1 = ps.length) := by
      rw [h0]; split <;> simp_all
    have hz0 : bv (srcOf (stUp ps ps.length)).D a.p 3 / 2 = 0 := by rw [h0]; split <;> rfl
    rw [mic_next hmd] at hmic
    unfold mNext at hmic
    rw [hN, if_neg (by omega)] at hmic
    simp only at hmic
    rw [if_pos hz0] at hmic
    unfold mStored at hmic
    simp only [hrd, hfin, hN] at hmic
    rw [if_neg (by omega), w1, w2, if_neg (by omega)] at hmic
    split at hmic
    · rename_i hz
      have hnil : ps.getD k [] = [] := List.eq_nil_of_length_eq_zero hz
      obtain ⟨F', hF, hle⟩ := st_finish (l := a.out.length) (b := A.flush { a with p := 8 * ((stUp ps k).length + 1 + 4), pos := (stUp ps k).length + 1 + 4, fin := decide (k + 1 = ps.length) }) hk (by rw [ho]; simp only [whUp, List.length_append]; omega) he rfl (by simp only [A.flush, stUp, stBlk, List.length_append, stHead_len, hz]) rfl (by simp only [A.flush, whUp, hnil, List.append_nil]; exact ho)
      cases hmic
      refine ⟨F', hF, ?_⟩
      split <;> omega
    · rename_i hz
      cases hmic
      refine ⟨_, .data k 0 hk rfl (by omega) he rfl (by simp only) (by simp only [List.take_zero, List.append_nil]; exact ho), ?_⟩
      simp
  | data k j hk hmd hj _ hfin hpos ho =>
    have hlen := st_len hk
    have hwl := wh_len hk
    have hol : a.out.length = (whUp ps k).length + j := by rw [ho, List.length_append, List.length_take]; omega
    unfold mic at hmic
    rw [hmd] at hmic
    simp only at hmic
    unfold mData at hmic
    rw [hN, if_neg (by omega)] at hmic
    have hby2 : ∀ m, j + m ≤ (ps.getD k []).length → a.out ++ bytesAt (srcOf (stUp ps ps.length)) a.pos m = whUp ps k ++ (ps.getD k []).take (j + m) := fun m hm => by
      rw [ho, hpos, bytesAt_eq hby _ _ (by omega), st_data hk hm, List.append_assoc, ← List.take_add]
    split at hmic
    · rename_i hav
      cases hmic
      refine ⟨_, .data k (j + avail a.out) hk ?_ (by omega) he hfin (by show a.pos + avail a.out = _; omega) (hby2 _ (by omega)), ?_⟩
      · show Mode.data _ = Mode.data _
        congr 1
        omega
      · show stF ps k (a.out ++ bytesAt (srcOf (stUp ps ps.length)) a.pos (avail a.out)).length + (if _ then 0 else 1) ≤ _
        rw [List.length_append, bytesAt_length]
        have hd : (a.out.length + avail a.out) / 32768 = a.out.length / 32768 + 1 := by unfold avail; omega
        have hle : a.out.length + avail a.out ≤ (whUp ps ps.length).length := by omega
        have := Nat.div_le_div_right (c := 32768) hle
        unfold stF
        rw [hd]
        split <;> omega
    · rename_i hav
      obtain ⟨F', hF, hle⟩ := st_finish (l := a.out.length) (b := { a with p := 8 * (a.pos + ((ps.getD k []).length - j)), pos := a.pos + ((ps.getD k []).length - j), out := a.out ++ bytesAt (srcOf (stUp ps ps.length)) a.pos ((ps.getD k []).length - j) }) hk (by rw [hol]; simp only [whUp, List.length_append]; omega) he hfin (by simp only [stUp, stBlk, List.length_append, stHead_len]; omega) rfl (by
        simp only
        rw [hby2 _ (by omega), show j + ((ps.getD k []).length - j) = (ps.getD k []).length by omega, List.take_length]; rfl)
      rw [hmd] at hF
      cases hmic
      refine ⟨F', hF, ?_⟩
      split <;> omega
theorem St.late {F : Nat} {a : A} (h : St ps F a) : a.late = a := by
  unfold A.late
  split
  · rename_i h0
    cases h with
    | next _ _ _ h3 => exact absurd h3 h0.1
    | data _ _ _ _ _ h4 => exact absurd h4 h0.1
    | done _ _ _ h4 => unfold A.flush; rw [← h4]
  · rfl
theorem St.err {F : Nat} {a : A} (h : St ps F a) : a.err = 0 ∨ a.err = 1 ∧ a.fl = a.out.length ∧ a.out = whUp ps ps.length ∧ a.pos = (stUp ps ps.length).length := by
  cases h with
  | next _ _ _ h3 => exact .inl h3
  | data _ _ _ _ _ h4 => exact .inl h4
  | done h1 h2 h3 h4 => exact .inr ⟨h1, h4, h3, h2⟩
theorem St.out {F : Nat} {a : A} (h : St ps F a) : ∃ r, whUp ps ps.length = a.out ++ r := by
  cases h with
  | next k h1 _ _ _ _ h6 =>
    obtain ⟨r, h⟩ := whUp_pre ps k (ps.length - k)
    rw [show k + (ps.length - k) = ps.length by omega] at h
    exact ⟨r, by rw [h, h6]⟩
  | data k j h1 _ _ _ _ _ h7 =>
    obtain ⟨r, h⟩ := whUp_pre ps (k + 1) (ps.length - (k + 1))
    rw [show k + 1 + (ps.length - (k + 1)) = ps.length by omega] at h
    exact ⟨(ps.getD k []).drop j ++ r, by rw [h, h7]; simp only [whUp, List.append_assoc]; rw [← List.append_assoc ((ps.getD k []).take j), List.take_append_drop]⟩
  | done h1 h2 h3 h4 => exact ⟨[], by rw [h3, List.append_nil]⟩
theorem st_runs (hb : ∀ k, ∀ x ∈ ps.getD k [], x < 256) (hm : ∀ k, (ps.getD k []).length < 65536) {a b : A} (hr : Runs (srcOf (stUp ps ps.length)) a b) : ∀ {F : Nat}, St ps F a → a.err = 0 →
    ∃ F', St ps F' b ∧ F' + (if b.fl = a.fl then 0 else 1) ≤ F := by
  induction hr with
  | stop h => intro F hS he; exact st_mic hb hm hS he h
  | @more a b c h _ ih =>
    intro F hS he
    obtain ⟨F1, h1, h2⟩ := st_mic hb hm hS he h
    have hg := goes_mic (srcOf (stUp ps ps.length)) a
    rw [h] at hg
    obtain ⟨h3, _, h4⟩ := hg.fal rfl
    simp only at h3 h4
    obtain ⟨F2, h5, h6⟩ := ih h1 (h3.trans he)
    refine ⟨F2, h5, ?_⟩
    rw [h4] at h6
    omega
/-- What a Read leaves to be read. -/
def ind (a : A) : Nat := if a.e < a.fl then 1 else 0
theorem st_reads (hb : ∀ k, ∀ x ∈ ps.getD k [], x < 256) (hm : ∀ k, (ps.getD k []).length < 65536) {a b : A} {k er : Nat} (hr : Reads (srcOf (stUp ps ps.length)) 512 a k er b) : ∀ {F : Nat}, St ps F a → a.e ≤ a.fl → a.fl ≤ a.out.length →
    ∃ F', St ps F' b ∧ b.e = a.e + k ∧ b.e ≤ b.fl ∧ b.fl ≤ b.out.length ∧ (er = 0 → ((whUp ps ps.length).length - b.e) / 512 + F' + ind b + 1 ≤ ((whUp ps ps.length).length - a.e) / 512 + F + ind a) ∧ (er ≠ 0 → er = 1 ∧ b.e = b.fl ∧ b.err = 1) := by
  induction hr with
  | @give a h =>
    intro F hS h1 h2
    obtain ⟨r, ho⟩ := hS.out
    have hol : a.out.length ≤ (whUp ps ps.length).length := by rw [ho, List.length_append]; omega
    refine ⟨F, hS.e _, rfl, by simp only; omega, h2, fun her => ?_, fun her => ?_⟩
    · have hi : ind a = 1 := by unfold ind; rw [if_pos h]
      rw [hi]
      unfold ind
      simp only
      split <;> omega
    · split at her
      · rename_i hle
        rcases hS.err with h0 | ⟨h0, _⟩
        · exact absurd h0 her
        · rw [if_pos hle]
          exact ⟨h0, by simp only; omega, h0⟩
      · exact absurd rfl her
  | @done a h1 h2 =>
    intro F hS h3 h4
    rcases hS.err with h0 | ⟨h0, _⟩
    · exact absurd h0 h2
    · exact ⟨F, hS, by omega, h3, h4, fun her => absurd her h2, fun _ => ⟨h0, h1, h0⟩⟩
  | @step a b c k er h1 h2 hr _ ih =>
    intro F hS h3 h4
    obtain ⟨F1, hS1, hF1⟩ := st_runs hb hm hr hS h2
    obtain ⟨g1, g2, g3, _, _⟩ := hr.goes h4
    rw [hS1.late] at ih
    obtain ⟨F2, i1, i2, i3, i4, i5, i6⟩ := ih hS1 (by omega) g3
    refine ⟨F2, i1, by omega, i3, i4, fun her => ?_, i6⟩
    have := i5 her
    have hi : ind b ≤ if b.fl = a.fl then 0 else 1 := by
      unfold ind
      split
      · split <;> omega
      · split <;> omega
    rw [g1] at this
    omega
theorem st_dr (hb : ∀ k, ∀ x ∈ ps.getD k [], x < 256) (hm : ∀ k, (ps.getD k []).length < 65536) (hT : (whUp ps ps.length).length ≤ 60000) {i : Nat} {a b : A} {acc r : List Nat} {c : Nat} (hd : Dr (srcOf (stUp ps ps.length)) [] i a acc r c b) :
    ∀ {F : Nat}, St ps F a → a.e ≤ a.fl → a.fl ≤ a.out.length → acc = (whUp ps ps.length).take a.e → i + (((whUp ps ps.length).length - a.e) / 512 + F + ind a) < 10000 → c = 0 ∧ r = whUp ps ps.length ∧ b.pos = (stUp ps ps.length).length := by
  have hsz : ∀ i, szAt [] i = 512 := fun _ => rfl
  have key : ∀ {F F' : Nat} {a b : A} {k : Nat}, St ps F' b → b.e = a.e + k → b.e ≤ b.fl → b.fl ≤ b.out.length → (whUp ps ps.length).take a.e ++ (b.out.drop (b.e - k)).take k = (whUp ps ps.length).take b.e ∧ ((whUp ps ps.length).take a.e).length + k ≤ 60000 := by
    intro F F' a b k hS h1 h2 h3
    obtain ⟨r, ho⟩ := hS.out
    have hol : b.out.length ≤ (whUp ps ps.length).length := by rw [ho, List.length_append]; omega
    refine ⟨?_, by rw [List.length_take]; omega⟩
    have e : (b.out.drop (b.e - k)).take k = ((whUp ps ps.length).drop a.e).take k := by
      rw [ho, show b.e - k = a.e by omega, List.drop_append_of_le_length (by omega), List.take_append_of_le_length (by rw [List.length_drop]; omega)]
    rw [e, h1, ← List.take_add]
  induction hd with
  | stop h => intro F _ _ _ _ h5; omega
  | over h1 h2 h3 =>
    intro F hS h4 h5 h6 h7
    rw [hsz] at h2
    obtain ⟨F', i1, i2, i3, i4, _⟩ := st_reads hb hm h2 hS h4 h5
    have := (key (F := F) i1 i2 i3 i4).2
    rw [h6] at h3
    omega
  | @fin i k er a a' acc h1 h2 h3 h0 =>
    intro F hS h4 h5 h6 h7
    rw [hsz] at h2
    obtain ⟨F', i1, i2, i3, i4, _, i6⟩ := st_reads hb hm h2 hS h4 h5
    obtain ⟨rfl, j1, j2⟩ := i6 h0
    rcases i1.err with h | ⟨_, k1, k2, k3⟩
    · omega
    · refine ⟨rfl, ?_, k3⟩
      rw [h6, (key (F := F) i1 i2 i3 i4).1, j1, k1, k2, List.take_length]
  | @next i k a a' b acc r c h1 h2 h3 _ ih =>
    intro F hS h4 h5 h6 h7
    rw [hsz] at h2
    obtain ⟨F', i1, i2, i3, i4, i5, _⟩ := st_reads hb hm h2 hS h4 h5
    have := i5 rfl
    exact ih i1 i3 i4 (by rw [h6, (key (F := F) i1 i2 i3 i4).1]) (by omega)
theorem St.a0 (h : 0 < ps.length) : St ps (stF ps 0 0) (A0 []) := by
  have hl : (A0 []).out = whUp ps 0 := by show lastW [] = []; exact lastW_nil
  have hn : (A0 []).out.length = 0 := by rw [hl]; rfl
  have := St.next (ps := ps) (a := A0 []) 0 h rfl rfl rfl rfl hl
  rwa [hn] at this
/-- The law: whole blocks are read as they stand. -/
theorem st_law (hb : ∀ k, ∀ x ∈ ps.getD k [], x < 256) (hT : (whUp ps ps.length).length ≤ 60000) (hm : ∀ k, (ps.getD k []).length < 65536) (h0 : 0 < ps.length) (h1 : ps.length ≤ 2000) {r : List Nat} {c left : Nat} (hI : InfR (stUp ps ps.length) [] [] r c left) :
    c = 0 ∧ left = 0 ∧ r = whUp ps ps.length := by
  obtain ⟨a, hd, hl⟩ := hI
  have e0 : (A0 []).e = 0 := by show (lastW []).length = 0; rw [lastW_nil]; rfl
  have e1 : (A0 []).fl = 0 := by show (lastW []).length = 0; rw [lastW_nil]; rfl
  obtain ⟨k1, k2, k3⟩ := st_dr hb hm hT hd (St.a0 h0) (by omega) (by rw [e1]; omega) (by rw [e0]; rfl) (by
    rw [e0]
    unfold stF ind
    rw [e0, e1]
    simp only [Nat.lt_irrefl, if_false]
    omega)
  exact ⟨k1, by omega, k2⟩
theorem st_far (hb : ∀ k, ∀ x ∈ ps.getD k [], x < 256) (hm : ∀ k, (ps.getD k []).length < 65536) {a b : A} (hf : Far (srcOf (stUp ps ps.length)) a b) : (∃ F, St ps F a) → ∃ F, St ps F b := by
  induction hf with
  | refl => exact id
  | step h1 h2 h3 _ ih =>
    rintro ⟨F, hS⟩
    obtain ⟨F', h4, _⟩ := st_runs hb hm h3 hS h2
    exact ih ⟨F', by rw [h4.late]; exact h4⟩
  | take k h1 _ ih => rintro ⟨F, hS⟩; exact ih ⟨F, hS.e _⟩
theorem st_hc (hb : ∀ k, ∀ x ∈ ps.getD k [], x < 256) (hm : ∀ k, (ps.getD k []).length < 65536) (h0 : 0 < ps.length) : HCof (stUp ps ps.length) [] := by
  intro a hfar hn
  exfalso
  obtain ⟨F, hS⟩ := st_far hb hm hfar ⟨_, St.a0 h0⟩
  obtain ⟨he, hn⟩ := hn
  have hby := stUp_byte ps hb ps.length
  cases hS with
  | done h1 => omega
  | data k j _ h2 => unfold needsM at hn; rw [h2] at hn; exact hn
  | next k hk h2 _ hpos hp _ =>
    unfold needsM at hn
    rw [h2] at hn
    obtain ⟨_, hn⟩ := hn
    have hlen := st_len hk
    rw [hp, src3 hby (by omega), hpos] at hn
    have := st_head hk (j := 0) (by decide)
    rw [Nat.add_zero] at this
    rw [this] at hn
    have hx : (stHead (decide (k + 1 = ps.length)) (ps.getD k []).length).getD 0 0 ≤ 1 := by
      show (if decide (k + 1 = ps.length) = true then 1 else 0) ≤ 1
      split <;> omega
    omega
end
/-- A stream that is refused at once. -/
theorem one_law {data : List Nat} {b : A} (hm : mic (srcOf data) (A0 []) = (b, true)) (he : b.err ≠ 0) (ho : b.out = []) (h1 : b.fl = 0) (h2 : b.e = 0) {r : List Nat} {c left : Nat} (hI : InfR data [] [] r c left) : c = code b.err ∧ r = [] := by
  obtain ⟨a, hd, _⟩ := hI
  have hl : b.late = b := by
    unfold A.late
    split
    · have : b.out.length = b.fl := by rw [ho, h1]; rfl
      unfold A.flush; rw [this]
    · rfl
  have e0 : (A0 []).e = (A0 []).fl := rfl
  have hrd : Reads (srcOf data) (szAt [] 0) (A0 []) 0 b.err b := by
    refine .step e0 rfl (.stop hm) ?_
    rw [hl]
    exact .done (by omega) he
  have key : ∀ k er a', Reads (srcOf data) (szAt [] 0) (A0 []) k er a' → k = 0 ∧ er = b.err := fun k er a' hx => by
    obtain ⟨h1, h2, _⟩ := hx.det hrd
    exact ⟨h1, h2⟩
  cases hd with
  | stop h0 => omega
  | over _ hx h3 => obtain ⟨rfl, rfl⟩ := key _ _ _ hx; simp at h3
  | fin _ hx h3 h4 => obtain ⟨rfl, rfl⟩ := key _ _ _ hx; exact ⟨rfl, by simp⟩
  | next _ hx h3 h4 => have := (key _ _ _ hx).2; omega
theorem one_hc {data : List Nat} {b : A} (hm : mic (srcOf data) (A0 []) = (b, true)) (he : b.err ≠ 0) (hn : ¬ needs (srcOf data) (A0 [])) : HCof data [] := by
  intro a hfar hna
  have key : ∀ x c, Far (srcOf data) x c → x = A0 [] ∨ x.err ≠ 0 → c = A0 [] ∨ c.err ≠ 0 := by
    intro x c hf
    induction hf with
    | refl => exact id
    | step h1 h2 h3 _ ih =>
      rintro (rfl | h0)
      · refine ih (.inr ?_)
        rw [h3.det (.stop hm)]
        unfold A.late
        split
        · exact he
        · exact he
      · exact absurd h2 h0
    | take k h1 _ ih =>
      rintro (rfl | h0)
      · have hk : k = 0 := by
          have e : (A0 []).e = (A0 []).fl := rfl
          omega
        subst hk
        exact ih (.inl rfl)
      · exact ih (.inr h0)
  rcases key _ _ hfar (.inl rfl) with rfl | h0
  · exact absurd hna hn
  · exact absurd hna.1 h0
theorem nil_mic : mic (srcOf []) (A0 []) = ((A0 []).short (srcOf []), true) := by
  rw [mic_next rfl]
  unfold mNext
  rw [if_pos (by show 8 * 0 < 0 + 3; decide)]
theorem nil_law {r : List Nat} {c left : Nat} (hI : InfR [] [] [] r c left) : c = 2 :=
  (one_law nil_mic (by show (2 : Nat) ≠ 0; decide) lastW_nil (by show (lastW []).length = 0; rw [lastW_nil]; rfl) (by show (lastW []).length = 0; rw [lastW_nil]; rfl) hI).1
theorem nil_hc : HCof [] [] := one_hc nil_mic (by show (2 : Nat) ≠ 0; decide) (fun h => by have := h.2; unfold needsM at this; simp only [A0] at this; have h2 : (srcOf []).N = 0 := rfl; omega)
/-- Two lengths that are not turned. -/
def badS (b : Nat) : List Nat := [1, 0, 0, b % 256, b / 256]
theorem bad_mic {b : Nat} (hb : b < 65535) : ∃ x, mic (srcOf (badS b)) (A0 []) = (x, true) ∧ x.err = 3 ∧ x.out = [] ∧ x.fl = 0 ∧ x.e = 0 := by
  have hby : ∀ x ∈ badS b, x < 256 := by intro x hx; simp only [badS, List.mem_cons, List.not_mem_nil, or_false] at hx; omega
  have h0 : bv (srcOf (badS b)).D 0 3 = 1 := src3 hby (i := 0) (by show 0 < 5; decide)
  have h1 : bv (srcOf (badS b)).D (8 * 1) 16 = 0 := srcw hby (i := 1) (by show 2 < 5; decide)
  have h2 : bv (srcOf (badS b)).D (8 * 3) 16 = b % 256 + 256 * (b / 256) := srcw hby (i := 3) (by show 4 < 5; decide)
  have hl : (lastW []).length = 0 := by rw [lastW_nil]; rfl
  refine ⟨_, by
    rw [mic_next rfl]
    unfold mNext
    rw [show (A0 []).p = 0 from rfl, show (A0 []).pos = 0 from rfl, if_neg (by show ¬ 8 * 5 < 0 + 3; decide), h0]
    simp only
    rw [if_pos (by decide)]
    unfold mStored
    simp only [show rdTo 0 0 3 = 1 from rfl]
    rw [if_neg (by show ¬ 5 < 1 + 4; decide), if_pos (by rw [h1]; show 0 + bv (srcOf (badS b)).D (8 * 3) 16 ≠ 65535; rw [h2]; omega)], rfl, lastW_nil, hl, hl⟩
theorem bad_law {b : Nat} (hb : b < 65535) {r : List Nat} {c left : Nat} (hI : InfR (badS b) [] [] r c left) : c = 1 := by
  obtain ⟨x, h1, h2, h3, h4, h5⟩ := bad_mic hb
  have := (one_law h1 (by omega) h3 h4 h5 hI).1
  rw [h2] at this
  exact this
theorem bad_hc {b : Nat} (hb : b < 65535) : HCof (badS b) [] := by
  obtain ⟨x, h1, h2, h3, h4, h5⟩ := bad_mic hb
  refine one_hc h1 (by omega) fun h => ?_
  have hby : ∀ x ∈ badS b, x < 256 := by intro x hx; simp only [badS, List.mem_cons, List.not_mem_nil, or_false] at hx; omega
  have h0 : bv (srcOf (badS b)).D 0 3 = 1 := src3 hby (i := 0) (by show 0 < 5; decide)
  have := h.2
  unfold needsM at this
  simp only [A0] at this
  rw [h0] at this
  omega
theorem badS_eq : badS 65535 = stUp ([[]] : List (List Nat)) ([[]] : List (List Nat)).length := rfl
end Go.Proofs.YtejeloeaklpinaaDoor

/- FnStored: its walk (printed by gen/g_st.py). -/
namespace Go.Proofs.YtejeloeaklpinaaDoor
open Go.ChangeShapes Go.WideShapes Go.ChangeAt Go.RowKit
/-- Bytes as a string. -/
def bstr (xs : List Nat) : ByteArray := (xs.map fun c : Nat => (c : Int)).foldl (fun r n => r.push (UInt8.ofNat n.toNat)) ByteArray.empty
theorem und9 : Tryd.prog.underlying 9 = some .string := by kernel_rfl
theorem wrap_u8m (n : Nat) : IntKind.u8.wrap ((n : Nat) : Int) = ((n % 256 : Nat) : Int) := by
  show (n : Int) % 256 = _
  omega
section
variable {ρ : Operand → Value} {d : Option Nat} {x y z u v : Operand} {ty : TypeId} {pos : String} {af : Array Edge} {gd : Option (Nat × Bool)} {w : World}
theorem ixg {t e : TypeId} {ad : Addr} {n c j : Nat} {k : IntKind} {i : Int} (ht : Tryd.prog.underlying t = some (.slice e)) (he : ∀ w, (sizeOf e).run Tryd.prog w = .ok 1 w) (hx : ρ x = .slice (some ad) n c) (hy : ρ y = .int k i) (hi : i = (j : Int)) (hj : j < n) :
    (execOp ρ ⟨d, .indexAddr t x y, ty, pos, af, gd⟩).run Tryd.prog w = .ok (.value (.pointer (some (ad.add j)))) w := by
  subst hi
  have h0 : (0 : Int) ≤ (j : Int) ∧ (j : Int) < (n : Int) := by omega
  simp [execOp, hx, hy, Instr.indexAt, asIntOf, run_underlying ht, h0, he]
  intro h; omega
theorem bs0 : (execOp ρ ⟨d, .buildSlice 22 0 #[], ty, pos, af, gd⟩).run Tryd.prog w = .ok (.value (.slice (some ⟨w.heap.size, 0, none⟩) 0 0)) (w.alloc (.cells #[] 5)) := by
  simp only [execOp, List.map_toArray, List.map_nil]
  kernel_rfl
theorem bs5 {h0 h1 h2 h3 h4 : Int} (hx : ρ x = .int .u8 h0) (hy : ρ y = .int .u8 h1) (hz : ρ z = .int .u8 h2) (hu : ρ u = .int .u8 h3) (hv : ρ v = .int .u8 h4) : (execOp ρ ⟨d, .buildSlice 22 5 #[(0, x), (1, y), (2, z), (3, u), (4, v)], ty, pos, af, gd⟩).run Tryd.prog w = .ok (.value (.slice (some ⟨w.heap.size, 0, none⟩) 5 5)) (w.alloc (.cells #[.int .u8 h0, .int .u8 h1, .int .u8 h2, .int .u8 h3, .int .u8 h4] 5)) := by
  simp only [execOp, List.map_toArray, List.map_cons, List.map_nil, hx, hy, hz, hu, hv]
  kernel_rfl
theorem un_xor8 {t : TypeId} {n : Nat} (hx : ρ x = .int .u8 (n : Int)) (hn : n < 256) : (execOp ρ ⟨d, .unOp .xor t x, ty, pos, af, gd⟩).run Tryd.prog w = .ok (.value (.int .u8 ((255 - n : Nat) : Int))) w := by
  have e : (BitVec.ofInt 8 (-1) ^^^ BitVec.ofInt 8 (n : Int)).toNat = 255 - n := by
    have h1 : BitVec.ofInt 8 (-1) = BitVec.allOnes 8 := by decide
    have h2 : (BitVec.ofInt 8 (n : Int)).toNat = n := by rw [BitVec.toNat_ofInt]; omega
    rw [h1, BitVec.allOnes_xor, BitVec.toNat_not, h2]
  have hr : Op.unary .xor (.int .u8 (n : Int)) = pure (.int .u8 ((255 - n : Nat) : Int)) := by
    show Op.intBits .xor .u8 (-1) (n : Int) = _
    show pure (Value.int .u8 (IntKind.u8.wrap ((BitVec.ofInt 8 (-1) ^^^ BitVec.ofInt 8 (n : Int)).toNat : Int))) = _
    rw [e, wrap_u8n _ (by omega) (by omega)]
  simp only [execOp, hx, hr]
  rfl
theorem cvs {v0 : Value} {xs : List Nat} (hx : ρ x = v0) (hA : Ag w v0 xs) : (execOp ρ ⟨d, .convert 22 9 x, ty, pos, af, gd⟩).run Tryd.prog w = .ok (.value (.string (bstr xs))) w := by
  obtain ⟨a, c, rfl, h⟩ := hA
  have hr : (convert 22 9 (.slice a xs.length c)).run Tryd.prog w = .ok (.string (bstr xs)) w := by
    rw [run_convert_bytes_string w 22 9 5 a xs.length c und22 Tryd.underlying5 und9]
    cases a with
    | none =>
      have h0 : xs = [] := by
        cases xs with
        | nil => rfl
        | cons y ys => obtain ⟨ad, h1, _⟩ := h 0 (by simp); cases h1
      subst h0
      simp [Conv.bytesToString, bstr]
    | some ad =>
      refine run_bytesToString w ad xs.length c (xs.map fun c : Nat => (c : Int)) ?_
      have h1 := run_loadCells_list (P := Tryd.prog) (w := w) ad (xs.map fun c : Nat => Value.int .u8 (c : Int)) (fun j v hv => by
        have hj : j < xs.length := by have := (List.getElem?_eq_some_iff.1 hv).1; simpa using this
        obtain ⟨ad', he, h2⟩ := h j hj
        cases he
        rw [map_get xs j hj] at hv
        cases hv
        exact h2)
      rw [List.length_map] at h1
      rw [h1, List.map_map]
      rfl
  simp [execOp, hx, hr]
theorem bis {a b : ByteArray} {v : Bool} (hx : ρ x = .string a) (hy : ρ y = .string b) (h : a = b) : (execOp ρ ⟨d, .binOp .eql 9 x y 9, ty, pos, af, gd⟩).run Tryd.prog w = .ok (.value (.bool true)) w := by
  subst h
  have he : eqGuard .eql 9 x y (.string a) (.string a) = pure () := rfl
  simp only [execOp, hx, hy, he]
  simp [binOp, Op.stringOp]
theorem bib {a b : Bool} (hx : ρ x = .bool a) (hy : ρ y = .bool b) (h : a = b) : (execOp ρ ⟨d, .binOp .eql 4 x y 4, ty, pos, af, gd⟩).run Tryd.prog w = .ok (.value (.bool true)) w := by
  subst h
  have he : eqGuard .eql 4 x y (.bool a) (.bool a) = pure () := rfl
  simp only [execOp, hx, hy, he]
  have hr : (binOp .eql 4 (.bool a) (.bool a)).run Tryd.prog w = .ok (.bool true) w := by cases a <;> kernel_rfl
  simp [hr]
end
theorem sl0 (w : World) : Sl (w.alloc (.cells #[] 5)) (.slice (some ⟨w.heap.size, 0, none⟩) 0 0) [] :=
  .inr ⟨w.heap.size, 0, fun _ => .int .u8 0, rfl, Bk.newOf w _ 5 0 _ rfl, Nat.le_refl _, by decide, fun k hk => by simp at hk⟩
theorem sl5 (w : World) (h0 h1 h2 h3 h4 : Nat) : Sl (w.alloc (.cells #[.int .u8 (h0 : Int), .int .u8 (h1 : Int), .int .u8 (h2 : Int), .int .u8 (h3 : Int), .int .u8 (h4 : Int)] 5)) (.slice (some ⟨w.heap.size, 0, none⟩) 5 5) [h0, h1, h2, h3, h4] := by
  refine .inr ⟨w.heap.size, 5, fun k => .int .u8 (([h0, h1, h2, h3, h4].getD k 0 : Nat) : Int), rfl, Bk.newOf w _ 5 5 _ rfl, Nat.le_refl _, by decide, fun k hk => rfl⟩
/-- The pieces that came in. -/
def AgP (w : World) (pa : Option Addr) (ps : List (List Nat)) : Prop := ∀ j, j < ps.length → ∃ ad u, pa = some ad ∧ w.cell? (ad.add j) = some u ∧ Ag w u (ps.getD j [])
theorem obk_ge {v : Value} {n : Nat} (h : ∀ k, v.ownBlock = some k → n ≤ k) : ∀ i, i ∈ obk v → i < n → i ∈ ([] : List Nat) := by
  intro i hi hlt
  unfold obk at hi
  split at hi
  · rename_i b hb; simp at hi; have := h b hb; omega
  · simp at hi
theorem obk_ne {v u : Value} (h : ∀ k, v.ownBlock = some k → u.ownBlock ≠ some k) : ∀ b, u.ownBlock = some b → b ∉ obk v := by
  intro b hb hm
  unfold obk at hm
  split at hm
  · rename_i c hc; simp at hm; subst hm; exact h _ hc hb
  · simp at hm
attribute [local irreducible] wpList wpStill wpMix Code.wp Calls fr

theorem st_small {ps : List (List Nat)} (h : (whUp ps ps.length).length ≤ 60000) (k : Nat) : (ps.getD k []).length < 65536 := by
  by_cases hk : k < ps.length
  · have := wh_len hk; omega
  · rw [List.getD_eq_getElem?_getD, List.getElem?_eq_none (by omega)]; decide
theorem fnStored_w (E0 : Env) (w : World) (hG : Gl E0 w) (pa : Option Addr) (pc : Nat) (ps : List (List Nat)) (bad : Nat) (hP : AgP w pa ps) (hb : ∀ k, ∀ x ∈ ps.getD k [], x < 256) (hl : ∀ k, (ps.getD k []).length ≤ 140737488355328) (hbad : bad < 65536) :
    Ret 7 [.slice pa ps.length pc, .int .u16 (bad : Int)] w fun v w' => v = .bool true ∧ Kp [] w w' := by
  have kp := Kp.refl [] w
  refine calls_fr (N := 108) Tryd.func7 rfl rfl (by simp) rfl ?_
  refine wp_seq ?_
  -- region 0
  refine reg_lit ?_
  refine L1 (asg (v := .bool _) rfl) ?_
  refine wpList_nil ?_
  refine then_n ?_
  refine wp_seq ?_
  refine wp_seq ?_
  -- region 1
  refine reg_lit ?_
  refine L1 (mv (v := .slice _ _ _) rfl) ?_
  refine L1 (ln und36 rfl) ?_
  refine L1 (bi rfl rfl (bn_gtr (v := decide (2000 < ps.length)) (decide_eq_decide.2 (by omega)))) ?_
  refine wpList_nil ?_
  refine then_n ?_
  refine cond_d (p := 2000 < ps.length) rfl (fun hn => ?_) (fun hn => ?_)
  · -- yes
    refine wp_seq ?_
    -- region 2
    refine reg_lit ?_
    refine L1 (asg (v := .bool _) rfl) ?_
    refine wpList_nil ?_
    refine then_n ?_
    refine wp_ret ?_
    refine then_r ?_
    refine ret1 rfl rfl ?_
    exact ⟨_, rfl, rfl, kp⟩
  · -- no
    refine wp_skip ?_
    refine then_n ?_
    refine wp_seq ?_
    -- region 3
    refine reg_lit ?_
    refine L1 bs0 ?_
    have kp := kp.alloc (.cells #[] 5)
    refine L1 (asg (v := .slice _ _ _) rfl) ?_
    refine wpList_nil ?_
    refine then_n ?_
    refine wp_seq ?_
    -- region 4
    refine reg_lit ?_
    refine L1 bs0 ?_
    have kp := kp.alloc (.cells #[] 5)
    refine L1 (asg (v := .slice _ _ _) rfl) ?_
    refine wpList_nil ?_
    refine then_n ?_
    refine wp_seq ?_
    refine wp_seq ?_
    -- region 5
    refine reg_lit ?_
    refine L1 (mv (v := .slice _ _ _) rfl) ?_
    refine L1 (ln und36 rfl) ?_
    refine L1 (mv (v := .int _ _) rfl) ?_
    refine wpList_nil ?_
    refine then_n ?_
    refine wp_block ?_
    refine loop_fr (fun k f w' => f 0 = .slice pa ps.length pc ∧ f 1 = .int .u16 (bad : Int) ∧ f 21 = .slice pa ps.length pc ∧ f 22 = .int .i64 (ps.length : Int) ∧ ∃ (i : Nat) (sa : Option Addr) (sc : Nat) (wa : Option Addr) (wc : Nat), f 23 = .int .i64 (i : Int) ∧ f 5 = .slice sa (stUp ps i).length sc ∧ f 6 = .slice wa (whUp ps i).length wc ∧ i ≤ ps.length ∧ k = ps.length - i ∧ Sl w' (.slice sa (stUp ps i).length sc) (stUp ps i) ∧ Sl w' (.slice wa (whUp ps i).length wc) (whUp ps i) ∧ (whUp ps i).length ≤ 60000 ∧ (∀ x, (Value.slice sa (stUp ps i).length sc).ownBlock = some x → w.heap.size ≤ x ∧ (Value.slice wa (whUp ps i).length wc).ownBlock ≠ some x) ∧ (∀ x, (Value.slice wa (whUp ps i).length wc).ownBlock = some x → w.heap.size ≤ x) ∧ Kp [] w w') ps.length ⟨rfl, rfl, rfl, rfl, 0, some ⟨w.heap.size, 0, none⟩, 0, some ⟨(w.alloc (.cells #[] 5)).heap.size, 0, none⟩, 0, rfl, rfl, rfl, Nat.zero_le _, rfl, (sl0 w).kp ((Kp.refl [] _).alloc _) (by simp), sl0 _, by simp [whUp], ?_, ?_, kp⟩ ?_
    · intro x hx; simp only [Value.ownBlock, Option.some.injEq] at hx; subst hx; exact ⟨Nat.le_refl _, by simp [Value.ownBlock]⟩
    · intro x hx; simp only [Value.ownBlock, Option.some.injEq] at hx; subst hx; simp
    clear kp
    intro k f w1 HJ
    obtain ⟨s0, s1, s21, s22, i, sa, sc, wa, wc, s23, s5, s6, hi, rfl, hS, hW, hw6, hso, hwo, kp⟩ := HJ
    refine slots (fc s0 (fc s1 (fc s5 (fc s6 (fc s21 (fc s22 (fc s23 fnil))))))) ?_
    refine wp_seq ?_
    -- region 6
    refine reg_lit ?_
    refine L1 (bi rfl rfl (bn_lss (v := decide (i < ps.length)) (decide_eq_decide.2 (by omega)))) ?_
    refine wpList_nil ?_
    refine then_n ?_
    refine wp_seq ?_
    refine cond_d (p := i < ps.length) rfl (fun hlt => ?_) (fun hlt => ?_)
    · skip
      obtain ⟨ad, u, rfl, hcell, hAi⟩ := hP i hlt
      obtain ⟨qa, qc, rfl, hq⟩ := id hAi
      have hl48 := hl i
      have hsl := stUp_len ps i
      refine wp_skip ?_
      refine then_n ?_
      refine wp_seq ?_
      refine wp_block ?_
      refine wp_seq ?_
      -- region 7
      refine reg_lit ?_
      refine L1 (mv (v := .int _ _) rfl) ?_
      refine L1 (ixg und36 sz22 rfl rfl rfl hlt) ?_
      refine L1 (ld22 (v := .slice qa (ps.getD i []).length qc) rfl (kp.cell hcell (by simp))) ?_
      refine L1 (asg (v := .int _ _) rfl) ?_
      refine L1 (asg (v := (.slice qa (ps.getD i []).length qc)) rfl) ?_
      refine wpList_nil ?_
      refine then_n ?_
      refine wp_seq ?_
      refine wp_seq ?_
      -- region 8
      refine reg_lit ?_
      refine L1 (mv (v := (.slice qa (ps.getD i []).length qc)) rfl) ?_
      refine L1 (ln und22 rfl) ?_
      refine L1 (mv (v := .slice _ _ _) rfl) ?_
      refine L1 (ln und22 rfl) ?_
      refine L1 (bi rfl rfl (bn_add rfl (by omega) (by omega))) ?_
      refine L1 (bi rfl rfl (bn_gtr (v := decide (60000 < (ps.getD i []).length + (whUp ps i).length)) (decide_eq_decide.2 (by omega)))) ?_
      refine wpList_nil ?_
      refine then_n ?_
      refine cond_d (p := 60000 < (ps.getD i []).length + (whUp ps i).length) rfl (fun h60 => ?_) (fun h60 => ?_)
      · -- yes
        refine wp_seq ?_
        -- region 9
        refine reg_lit ?_
        refine L1 (asg (v := .bool _) rfl) ?_
        refine wpList_nil ?_
        refine then_n ?_
        refine wp_ret ?_
        refine then_r ?_
        refine inb_r ?_
        refine then_r ?_
        refine then_r ?_
        refine inb_r ?_
        refine then_r ?_
        refine ret1 rfl rfl ?_
        exact ⟨_, rfl, rfl, kp⟩
      · -- no
        refine wp_skip ?_
        refine then_n ?_
        refine wp_seq ?_
        -- region 10
        refine reg_lit ?_
        refine L1 (asg (v := .int _ _) rfl) ?_
        refine wpList_nil ?_
        refine then_n ?_
        refine wp_seq ?_
        refine wp_seq ?_
        -- region 11
        refine reg_lit ?_
        refine L1 (mv (v := .int _ _) rfl) ?_
        refine L1 (mv (v := .slice _ _ _) rfl) ?_
        refine L1 (ln und36 rfl) ?_
        refine L1 (bi rfl rfl (bn_sub rfl (by omega) (by omega))) ?_
        refine L1 (bi rfl rfl (bn_eql (v := decide (i + 1 = ps.length)) (decide_eq_decide.2 (by omega)))) ?_
        refine wpList_nil ?_
        refine then_n ?_
        refine cond_d (p := i + 1 = ps.length) rfl (fun hla => ?_) (fun hla => ?_)
        · skip
          have hh : (if decide (i + 1 = ps.length) = true then 1 else 0 : Nat) = 1 := by simp [hla]
          have hla0 := hla
          clear hla
          -- region 12
          refine reg_lit ?_
          refine L1 (asg (v := .int _ _) rfl) ?_
          refine wpList_nil ?_
          refine then_n ?_
          refine wp_seq ?_
          -- region 13
          refine reg_lit ?_
          refine L1 (mv (v := .slice _ _ _) rfl) ?_
          refine L1 (mv (v := .int .u8 ((if decide (i + 1 = ps.length) = true then 1 else 0 : Nat) : Int)) (by rw [hh]; rfl)) ?_
          refine L1 (mv (v := (.slice qa (ps.getD i []).length qc)) rfl) ?_
          refine L1 (ln und22 rfl) ?_
          refine L1 (cv3_5 rfl (wrap_u8m _)) ?_
          refine L1 (mv (v := (.slice qa (ps.getD i []).length qc)) rfl) ?_
          refine L1 (ln und22 rfl) ?_
          refine L1 (bi rfl rfl (bn_shr (x := (ps.getD i []).length) (n := 8) rfl rfl (by decide))) ?_
          refine L1 (cv3_5 rfl (wrap_u8m _)) ?_
          refine L1 (mv (v := (.slice qa (ps.getD i []).length qc)) rfl) ?_
          refine L1 (ln und22 rfl) ?_
          refine L1 (cv3_5 rfl (wrap_u8m _)) ?_
          refine L1 (un_xor8 rfl (Nat.mod_lt _ (by decide))) ?_
          refine L1 (mv (v := (.slice qa (ps.getD i []).length qc)) rfl) ?_
          refine L1 (ln und22 rfl) ?_
          refine L1 (bi rfl rfl (bn_shr (x := (ps.getD i []).length) (n := 8) rfl rfl (by decide))) ?_
          refine L1 (cv3_5 rfl (wrap_u8m _)) ?_
          refine L1 (un_xor8 rfl (Nat.mod_lt _ (by decide))) ?_
          refine L1 (bs5 rfl rfl rfl rfl rfl) ?_
          have hb5 := sl5 w1 (if decide (i + 1 = ps.length) = true then 1 else 0) ((ps.getD i []).length % 256) ((ps.getD i []).length / 256 % 256) (255 - (ps.getD i []).length % 256) (255 - (ps.getD i []).length / 256 % 256)
          have hkp1 := kp
          have kp := kp.alloc (.cells #[.int .u8 ((if decide (i + 1 = ps.length) = true then 1 else 0 : Nat) : Int), .int .u8 (((ps.getD i []).length % 256 : Nat) : Int), .int .u8 (((ps.getD i []).length / 256 % 256 : Nat) : Int), .int .u8 ((255 - (ps.getD i []).length % 256 : Nat) : Int), .int .u8 ((255 - (ps.getD i []).length / 256 % 256 : Nat) : Int)] 5)
          have hS1 := hS.kp ((Kp.refl [] w1).alloc (.cells #[.int .u8 ((if decide (i + 1 = ps.length) = true then 1 else 0 : Nat) : Int), .int .u8 (((ps.getD i []).length % 256 : Nat) : Int), .int .u8 (((ps.getD i []).length / 256 % 256 : Nat) : Int), .int .u8 ((255 - (ps.getD i []).length % 256 : Nat) : Int), .int .u8 ((255 - (ps.getD i []).length / 256 % 256 : Nat) : Int)] 5)) (by simp)
          have hW1 := hW.kp ((Kp.refl [] w1).alloc (.cells #[.int .u8 ((if decide (i + 1 = ps.length) = true then 1 else 0 : Nat) : Int), .int .u8 (((ps.getD i []).length % 256 : Nat) : Int), .int .u8 (((ps.getD i []).length / 256 % 256 : Nat) : Int), .int .u8 ((255 - (ps.getD i []).length % 256 : Nat) : Int), .int .u8 ((255 - (ps.getD i []).length / 256 % 256 : Nat) : Int)] 5)) (by simp)
          refine Lapg (v := .slice _ _ _) rfl rfl hS1 hb5.ag (by simp; omega) ?_
          intro v2 w2 hS2 kp2 hown2
          have hkp2 := kp
          have kp := kp.transNew kp2 (obk_ge fun x hx => (hso x hx).1)
          have hW2 := hW1.kp kp2 (obk_ne fun x hx => (hso x hx).2)
          refine L1 (asg (v := v2) rfl) ?_
          refine wpList_nil ?_
          refine then_n ?_
          refine wp_seq ?_
          -- region 14
          refine reg_lit ?_
          refine L1 (mv (v := v2) rfl) ?_
          refine L1 (mv (v := (.slice qa (ps.getD i []).length qc)) rfl) ?_
          refine Lapg (v := v2) rfl rfl hS2 (hAi.kp kp) (by rw [List.length_append]; simp only [List.length_cons, List.length_nil]; omega) ?_
          intro v3 w3 hS3 kp3 hown3
          have hge2 : ∀ x, v2.ownBlock = some x → w.heap.size ≤ x ∧ (Value.slice wa (whUp ps i).length wc).ownBlock ≠ some x := by
            intro x hx
            rcases hown2 x hx with h | h
            · exact hso x h
            · simp at h; exact ⟨by have := hkp1.size; omega, fun h3 => by have h4 := hW.lt h3; omega⟩
          have kp := kp.transNew kp3 (obk_ge fun x hx => (hge2 x hx).1)
          have hW3 := hW2.kp kp3 (obk_ne fun x hx => (hge2 x hx).2)
          have hge3 : ∀ x, v3.ownBlock = some x → w.heap.size ≤ x ∧ (Value.slice wa (whUp ps i).length wc).ownBlock ≠ some x ∧ x < w3.heap.size := by
            intro x hx
            rcases hown3 x hx with h | h
            · exact ⟨(hge2 x h).1, (hge2 x h).2, hS3.lt hx⟩
            · have hz1 := hkp1.size
              have hz2 := kp2.size
              simp at hz2
              exact ⟨by omega, fun h3 => by have h4 := hW.lt h3; omega, hS3.lt hx⟩
          refine L1 (asg (v := v3) rfl) ?_
          refine wpList_nil ?_
          refine then_n ?_
          -- region 15
          refine reg_lit ?_
          refine L1 (mv (v := .slice _ _ _) rfl) ?_
          refine L1 (mv (v := (.slice qa (ps.getD i []).length qc)) rfl) ?_
          refine Lapg (v := .slice _ _ _) rfl rfl hW3 (hAi.kp kp) (by omega) ?_
          intro v4 w4 hW4 kp4 hown4
          have kp := kp.transNew kp4 (obk_ge fun x hx => hwo x hx)
          have hS4 := hS3.kp kp4 (obk_ne fun x hx h3 => (hge3 x h3).2.1 hx)
          have hstr : stUp ps i ++ [if decide (i + 1 = ps.length) = true then 1 else 0, (ps.getD i []).length % 256, (ps.getD i []).length / 256 % 256, 255 - (ps.getD i []).length % 256, 255 - (ps.getD i []).length / 256 % 256] ++ ps.getD i [] = stUp ps (i + 1) := by simp only [stUp, stBlk, stHead, List.append_assoc]
          rw [hstr] at hS4
          have hwh : whUp ps i ++ ps.getD i [] = whUp ps (i + 1) := rfl
          rw [hwh] at hW4
          obtain ⟨sa4, sc4, rfl⟩ := hS4.val
          obtain ⟨wa4, wc4, rfl⟩ := hW4.val
          refine L1 (asg (v := .slice _ _ _) rfl) ?_
          refine wpList_nil ?_
          refine inb_n ?_
          refine then_n ?_
          -- region 16
          refine reg_lit ?_
          refine L1 (bi rfl rfl (bn_add rfl (by omega) (by omega))) ?_
          refine L1 (mv (v := .int _ _) rfl) ?_
          refine wpList_nil ?_
          refine then_n ?_
          refine ⟨ps.length - (i + 1), _, by omega, rfl, rfl, rfl, rfl, rfl, i + 1, sa4, sc4, wa4, wc4, rfl, rfl, rfl, by omega, rfl, hS4, hW4, by rw [← hwh, List.length_append]; omega, ?_, ?_, kp⟩
          · intro x hx
            have hx3 := hge3 x hx
            refine ⟨hx3.1, fun h => ?_⟩
            rcases hown4 x h with h | h
            · exact hx3.2.1 h
            · omega
          · intro x hx
            rcases hown4 x hx with h | h
            · exact hwo x h
            · have hz1 := hkp1.size; have hz2 := kp2.size; have hz3 := kp3.size; simp at hz2; omega
        · skip
          have hh : (if decide (i + 1 = ps.length) = true then 1 else 0 : Nat) = 0 := by simp [hla]
          have hla0 := hla
          clear hla
          refine wp_skip ?_
          refine then_n ?_
          refine wp_seq ?_
          -- region 13
          refine reg_lit ?_
          refine L1 (mv (v := .slice _ _ _) rfl) ?_
          refine L1 (mv (v := .int .u8 ((if decide (i + 1 = ps.length) = true then 1 else 0 : Nat) : Int)) (by rw [hh]; rfl)) ?_
          refine L1 (mv (v := (.slice qa (ps.getD i []).length qc)) rfl) ?_
          refine L1 (ln und22 rfl) ?_
          refine L1 (cv3_5 rfl (wrap_u8m _)) ?_
          refine L1 (mv (v := (.slice qa (ps.getD i []).length qc)) rfl) ?_
          refine L1 (ln und22 rfl) ?_
          refine L1 (bi rfl rfl (bn_shr (x := (ps.getD i []).length) (n := 8) rfl rfl (by decide))) ?_
          refine L1 (cv3_5 rfl (wrap_u8m _)) ?_
          refine L1 (mv (v := (.slice qa (ps.getD i []).length qc)) rfl) ?_
          refine L1 (ln und22 rfl) ?_
          refine L1 (cv3_5 rfl (wrap_u8m _)) ?_
          refine L1 (un_xor8 rfl (Nat.mod_lt _ (by decide))) ?_
          refine L1 (mv (v := (.slice qa (ps.getD i []).length qc)) rfl) ?_
          refine L1 (ln und22 rfl) ?_
          refine L1 (bi rfl rfl (bn_shr (x := (ps.getD i []).length) (n := 8) rfl rfl (by decide))) ?_
          refine L1 (cv3_5 rfl (wrap_u8m _)) ?_
          refine L1 (un_xor8 rfl (Nat.mod_lt _ (by decide))) ?_
          refine L1 (bs5 rfl rfl rfl rfl rfl) ?_
          have hb5 := sl5 w1 (if decide (i + 1 = ps.length) = true then 1 else 0) ((ps.getD i []).length % 256) ((ps.getD i []).length / 256 % 256) (255 - (ps.getD i []).length % 256) (255 - (ps.getD i []).length / 256 % 256)
          have hkp1 := kp
          have kp := kp.alloc (.cells #[.int .u8 ((if decide (i + 1 = ps.length) = true then 1 else 0 : Nat) : Int), .int .u8 (((ps.getD i []).length % 256 : Nat) : Int), .int .u8 (((ps.getD i []).length / 256 % 256 : Nat) : Int), .int .u8 ((255 - (ps.getD i []).length % 256 : Nat) : Int), .int .u8 ((255 - (ps.getD i []).length / 256 % 256 : Nat) : Int)] 5)
          have hS1 := hS.kp ((Kp.refl [] w1).alloc (.cells #[.int .u8 ((if decide (i + 1 = ps.length) = true then 1 else 0 : Nat) : Int), .int .u8 (((ps.getD i []).length % 256 : Nat) : Int), .int .u8 (((ps.getD i []).length / 256 % 256 : Nat) : Int), .int .u8 ((255 - (ps.getD i []).length % 256 : Nat) : Int), .int .u8 ((255 - (ps.getD i []).length / 256 % 256 : Nat) : Int)] 5)) (by simp)
          have hW1 := hW.kp ((Kp.refl [] w1).alloc (.cells #[.int .u8 ((if decide (i + 1 = ps.length) = true then 1 else 0 : Nat) : Int), .int .u8 (((ps.getD i []).length % 256 : Nat) : Int), .int .u8 (((ps.getD i []).length / 256 % 256 : Nat) : Int), .int .u8 ((255 - (ps.getD i []).length % 256 : Nat) : Int), .int .u8 ((255 - (ps.getD i []).length / 256 % 256 : Nat) : Int)] 5)) (by simp)
          refine Lapg (v := .slice _ _ _) rfl rfl hS1 hb5.ag (by simp; omega) ?_
          intro v2 w2 hS2 kp2 hown2
          have hkp2 := kp
          have kp := kp.transNew kp2 (obk_ge fun x hx => (hso x hx).1)
          have hW2 := hW1.kp kp2 (obk_ne fun x hx => (hso x hx).2)
          refine L1 (asg (v := v2) rfl) ?_
          refine wpList_nil ?_
          refine then_n ?_
          refine wp_seq ?_
          -- region 14
          refine reg_lit ?_
          refine L1 (mv (v := v2) rfl) ?_
          refine L1 (mv (v := (.slice qa (ps.getD i []).length qc)) rfl) ?_
          refine Lapg (v := v2) rfl rfl hS2 (hAi.kp kp) (by rw [List.length_append]; simp only [List.length_cons, List.length_nil]; omega) ?_
          intro v3 w3 hS3 kp3 hown3
          have hge2 : ∀ x, v2.ownBlock = some x → w.heap.size ≤ x ∧ (Value.slice wa (whUp ps i).length wc).ownBlock ≠ some x := by
            intro x hx
            rcases hown2 x hx with h | h
            · exact hso x h
            · simp at h; exact ⟨by have := hkp1.size; omega, fun h3 => by have h4 := hW.lt h3; omega⟩
          have kp := kp.transNew kp3 (obk_ge fun x hx => (hge2 x hx).1)
          have hW3 := hW2.kp kp3 (obk_ne fun x hx => (hge2 x hx).2)
          have hge3 : ∀ x, v3.ownBlock = some x → w.heap.size ≤ x ∧ (Value.slice wa (whUp ps i).length wc).ownBlock ≠ some x ∧ x < w3.heap.size := by
            intro x hx
            rcases hown3 x hx with h | h
            · exact ⟨(hge2 x h).1, (hge2 x h).2, hS3.lt hx⟩
            · have hz1 := hkp1.size
              have hz2 := kp2.size
              simp at hz2
              exact ⟨by omega, fun h3 => by have h4 := hW.lt h3; omega, hS3.lt hx⟩
          refine L1 (asg (v := v3) rfl) ?_
          refine wpList_nil ?_
          refine then_n ?_
          -- region 15
          refine reg_lit ?_
          refine L1 (mv (v := .slice _ _ _) rfl) ?_
          refine L1 (mv (v := (.slice qa (ps.getD i []).length qc)) rfl) ?_
          refine Lapg (v := .slice _ _ _) rfl rfl hW3 (hAi.kp kp) (by omega) ?_
          intro v4 w4 hW4 kp4 hown4
          have kp := kp.transNew kp4 (obk_ge fun x hx => hwo x hx)
          have hS4 := hS3.kp kp4 (obk_ne fun x hx h3 => (hge3 x h3).2.1 hx)
          have hstr : stUp ps i ++ [if decide (i + 1 = ps.length) = true then 1 else 0, (ps.getD i []).length % 256, (ps.getD i []).length / 256 % 256, 255 - (ps.getD i []).length % 256, 255 - (ps.getD i []).length / 256 % 256] ++ ps.getD i [] = stUp ps (i + 1) := by simp only [stUp, stBlk, stHead, List.append_assoc]
          rw [hstr] at hS4
          have hwh : whUp ps i ++ ps.getD i [] = whUp ps (i + 1) := rfl
          rw [hwh] at hW4
          obtain ⟨sa4, sc4, rfl⟩ := hS4.val
          obtain ⟨wa4, wc4, rfl⟩ := hW4.val
          refine L1 (asg (v := .slice _ _ _) rfl) ?_
          refine wpList_nil ?_
          refine inb_n ?_
          refine then_n ?_
          -- region 16
          refine reg_lit ?_
          refine L1 (bi rfl rfl (bn_add rfl (by omega) (by omega))) ?_
          refine L1 (mv (v := .int _ _) rfl) ?_
          refine wpList_nil ?_
          refine then_n ?_
          refine ⟨ps.length - (i + 1), _, by omega, rfl, rfl, rfl, rfl, rfl, i + 1, sa4, sc4, wa4, wc4, rfl, rfl, rfl, by omega, rfl, hS4, hW4, by rw [← hwh, List.length_append]; omega, ?_, ?_, kp⟩
          · intro x hx
            have hx3 := hge3 x hx
            refine ⟨hx3.1, fun h => ?_⟩
            rcases hown4 x h with h | h
            · exact hx3.2.1 h
            · omega
          · intro x hx
            rcases hown4 x hx with h | h
            · exact hwo x h
            · have hz1 := hkp1.size; have hz2 := kp2.size; have hz3 := kp3.size; simp at hz2; omega
    · skip
      obtain rfl : i = ps.length := by omega
      have hsl := stUp_len ps ps.length
      refine wp_exit ?_
      refine then_e ?_
      refine then_e ?_
      refine inb_same ?_
      refine then_n ?_
      refine wp_seq ?_
      -- region 17
      refine reg_lit ?_
      refine L1 (mv (v := .slice _ _ _) rfl) ?_
      have hB : Bytes (stUp ps ps.length) := ⟨stUp_byte ps hb ps.length, by omega⟩
      have hhc : HCof (stUp ps ps.length) [] := by
        by_cases h0 : 0 < ps.length
        · exact st_hc hb (fun k => st_small (by omega) k) h0
        · obtain rfl : ps = [] := List.eq_nil_of_length_eq_zero (by omega)
          exact nil_hc
      refine LC (cl3 has9 rfl rfl rfl rfl) (inflate_c E0 _ (hG.kp kp (by simp)) _ (.slice none 0 0) (stUp ps ps.length) [] hS.ag hB (Ag.nil _) Bytes.nil none 0 [] (by simp) (by simp) hhc) ?_
      rintro v w3 ⟨r, c, left, ov, rfl, hSl3, hI, kp3, hown3⟩
      obtain ⟨oa, oc, rfl⟩ := hSl3.val
      have hW := hW.kp kp3 (by simp)
      have kp := kp.trans kp3
      refine L1 (mv (v := .tuple _) rfl) ?_
      refine L1 (ext3_0 rfl) ?_
      refine L1 (ext3_1 rfl) ?_
      refine L1 (ext3_2 rfl) ?_
      refine L1 (asg (v := .slice _ _ _) rfl) ?_
      refine L1 (asg (v := .int _ _) rfl) ?_
      refine L1 (asg (v := .int _ _) rfl) ?_
      refine wpList_nil ?_
      refine then_n ?_
      refine wp_seq ?_
      refine wp_seq ?_
      -- region 18
      refine reg_lit ?_
      refine L1 (mv (v := .slice _ _ _) rfl) ?_
      refine L1 (ln und36 rfl) ?_
      refine L1 (bi rfl rfl (bn_eql (v := decide (ps.length = 0)) (decide_eq_decide.2 (by omega)))) ?_
      refine wpList_nil ?_
      refine then_n ?_
      refine cond_d (p := ps.length = 0) rfl (fun h0 => ?_) (fun h0 => ?_)
      · skip
        obtain rfl : ps = [] := List.eq_nil_of_length_eq_zero h0
        obtain rfl := nil_law hI
        refine wp_seq ?_
        -- region 19
        refine reg_lit ?_
        refine L1 (mv (v := .int _ _) rfl) ?_
        refine L1 (bi rfl rfl (bn_eql (v := true) (decide_eq_true rfl))) ?_
        refine L1 (asg (v := .bool _) rfl) ?_
        refine wpList_nil ?_
        refine then_n ?_
        refine wp_ret ?_
        refine then_r ?_
        refine ret1 rfl rfl ?_
        exact ⟨_, rfl, rfl, kp⟩
      · skip
        obtain ⟨rfl, rfl, rfl⟩ := st_law hb (by omega) (fun k => st_small (by omega) k) (by omega) (by omega) hI
        refine wp_skip ?_
        refine then_n ?_
        refine wp_seq ?_
        -- region 20
        refine reg_lit ?_
        refine L1 (mv (v := .int _ _) rfl) ?_
        refine L1 (cv37_5 rfl (wrap_u8m _)) ?_
        refine L1 (mv (v := .int _ _) rfl) ?_
        refine L1 (bi rfl rfl (bn_shr (x := bad) (n := 8) rfl rfl (by decide))) ?_
        refine L1 (cv37_5 rfl (wrap_u8m _)) ?_
        refine L1 (bs5 rfl rfl rfl rfl rfl) ?_
        have hb5 := sl5 w3 1 0 0 (bad % 256) (bad / 256 % 256)
        have hkx := (Kp.refl [] w3).alloc (.cells #[.int .u8 1, .int .u8 0, .int .u8 0, .int .u8 ((bad % 256 : Nat) : Int), .int .u8 ((bad / 256 % 256 : Nat) : Int)] 5)
        have hSl4 := hSl3.kp hkx (by simp)
        have hW4 := hW.kp hkx (by simp)
        have kp := kp.trans hkx
        have hbs : [1, 0, 0, bad % 256, bad / 256 % 256] = badS bad := by unfold badS; rw [show bad / 256 % 256 = bad / 256 by omega]
        rw [hbs] at hb5
        have hB2 : Bytes (badS bad) := ⟨by intro x hx; simp only [badS, List.mem_cons, List.not_mem_nil, or_false] at hx; omega, by simp [badS]⟩
        have hhc2 : HCof (badS bad) [] := by
          by_cases h5 : bad = 65535
          · subst h5; rw [badS_eq]; exact st_hc (by intro k x hx; cases k <;> simp at hx) (by intro k; cases k <;> simp) (by simp)
          · exact bad_hc (by omega)
        refine LC (cl3 has9 rfl rfl rfl rfl) (inflate_c E0 _ (hG.kp kp (by simp)) _ (.slice none 0 0) (badS bad) [] hb5.ag hB2 (Ag.nil _) Bytes.nil none 0 [] (by simp) (by simp) hhc2) ?_
        rintro v w5 ⟨r2, c2, left2, ov2, rfl, hSl5, hI2, kp5, hown5⟩
        have hc2 : decide ((c2 : Int) = 1) = !decide ((bad : Int) = 65535) := by
          by_cases h5 : bad = 65535
          · subst h5; rw [badS_eq] at hI2; obtain ⟨rfl, _⟩ := st_law (by intro k x hx; cases k <;> simp at hx) (by simp [whUp]) (by intro k; cases k <;> simp) (by simp) (by simp) hI2; rfl
          · obtain rfl := bad_law (by omega) hI2; rw [decide_eq_false (show ¬ (bad : Int) = 65535 by omega)]; rfl
        obtain ⟨oa2, oc2, rfl⟩ := hSl5.val
        have hSl6 := hSl4.kp kp5 (by simp)
        have hW6 := hW4.kp kp5 (by simp)
        have kp := kp.trans kp5
        refine L1 (mv (v := .tuple _) rfl) ?_
        refine L1 (ext3_0 rfl) ?_
        refine L1 (ext3_1 rfl) ?_
        refine L1 (ext3_2 rfl) ?_
        refine L1 (asg (v := .slice _ _ _) rfl) ?_
        refine L1 (asg (v := .int _ _) rfl) ?_
        refine L1 (asg (v := .int _ _) rfl) ?_
        refine wpList_nil ?_
        refine then_n ?_
        refine wp_seq ?_
        -- region 21
        refine reg_lit ?_
        refine L1 (mv (v := .int _ _) rfl) ?_
        refine L1 (bi rfl rfl (bn_eql (v := true) (decide_eq_true rfl))) ?_
        refine L1 (mv (v := .bool _) rfl) ?_
        refine L1g (t := 90) (b := true) rfl (by decide) rfl (mv (v := .int _ _) rfl) ?_
        refine L1g (t := 90) (b := true) rfl (by decide) rfl (bi rfl rfl (bn_eql (v := true) (decide_eq_true rfl))) ?_
        refine L1 (pk_t rfl rfl) ?_
        refine L1 (mv (v := .bool _) rfl) ?_
        refine L1g (t := 94) (b := true) rfl (by decide) rfl (mv (v := .slice _ _ _) rfl) ?_
        refine L1g (t := 94) (b := true) rfl (by decide) rfl (cvs rfl hSl6.ag) ?_
        refine L1g (t := 94) (b := true) rfl (by decide) rfl (mv (v := .slice _ _ _) rfl) ?_
        refine L1g (t := 94) (b := true) rfl (by decide) rfl (cvs rfl hW6.ag) ?_
        refine L1g (t := 94) (b := true) rfl (by decide) rfl (bis (v := true) rfl rfl rfl) ?_
        refine L1 (pk_t rfl rfl) ?_
        refine L1 (mv (v := .bool _) rfl) ?_
        refine L1g (t := 101) (b := true) rfl (by decide) rfl (mv (v := .int _ _) rfl) ?_
        refine L1g (t := 101) (b := true) rfl (by decide) rfl (bi rfl rfl (bn_eql rfl)) ?_
        refine L1g (t := 101) (b := true) rfl (by decide) rfl (mv (v := .int _ _) rfl) ?_
        refine L1g (t := 101) (b := true) rfl (by decide) rfl (bi rfl rfl (bn_neq (v := !decide ((bad : Int) = 65535)) (by simp))) ?_
        refine L1g (t := 101) (b := true) rfl (by decide) rfl (bib rfl rfl hc2) ?_
        refine L1 (pk_t rfl rfl) ?_
        refine L1 (asg (v := .bool _) rfl) ?_
        refine wpList_nil ?_
        refine then_n ?_
        refine wp_ret ?_
        refine ret1 rfl rfl ?_
        exact ⟨_, rfl, rfl, kp⟩
end Go.Proofs.YtejeloeaklpinaaDoor

/- Slices of ints that a call has made and grown by append: their values as a list. -/
namespace Go.Proofs.YtejeloeaklpinaaDoor
def One (xs : List Value) : Prop := ∀ u ∈ xs, u.oneCell' = true
/-- A slice of ints that begins at its block's head (or nil). -/
def Sv (w : World) (v : Value) (xs : List Value) : Prop :=
  (v = .slice none 0 0 ∧ xs = []) ∨ ∃ b cap g, v = .slice (some ⟨b, 0, none⟩) xs.length cap ∧ Bk w b cap 3 g ∧ xs.length ≤ cap ∧ cap ≤ maxLen ∧ ∀ k, k < xs.length → g k = xs.getD k undef
theorem Sv.kp {w w' : World} {v : Value} {xs : List Value} {L : List Nat} (h : Sv w v xs) (k : Kp L w w') (hL : ∀ b, v.ownBlock = some b → b ∉ L) : Sv w' v xs := by
  rcases h with h | ⟨b, cap, g, rfl, h2, h3⟩
  · exact .inl h
  · exact .inr ⟨b, cap, g, rfl, h2.kp k (hL b rfl), h3⟩
theorem Sv.lt {w : World} {v : Value} {xs : List Value} (h : Sv w v xs) {b : Nat} (hb : v.ownBlock = some b) : b < w.heap.size := by
  rcases h with ⟨rfl, _⟩ | ⟨b', cap, g, rfl, h2, _⟩
  · simp [Value.ownBlock] at hb
  · simp only [Value.ownBlock, Option.some.injEq] at hb
    subst hb; exact h2.lt
theorem Sv.val {w : World} {v : Value} {xs : List Value} (h : Sv w v xs) : ∃ a c, v = .slice a xs.length c := by
  rcases h with ⟨rfl, rfl⟩ | ⟨b', cap, g, rfl, h2, _⟩
  · exact ⟨_, _, rfl⟩
  · exact ⟨_, _, rfl⟩
theorem Sv.nil (w : World) : Sv w (.slice none 0 0) [] := .inl ⟨rfl, rfl⟩
theorem Sv.at {w : World} {v : Value} {xs : List Value} (h : Sv w v xs) : ∃ a c, v = .slice a xs.length c ∧ ∀ j, j < xs.length → ∃ b, a = some ⟨b, 0, none⟩ ∧ w.cell? ⟨b, j, none⟩ = some (xs.getD j undef) := by
  rcases h with ⟨rfl, rfl⟩ | ⟨b', cap, g, rfl, h2, h3, h4, h5⟩
  · exact ⟨_, _, rfl, fun j hj => by simp at hj⟩
  · exact ⟨_, _, rfl, fun j hj => ⟨b', rfl, h2.cellv (by omega) (h5 j hj)⟩⟩
theorem info3 : ∃ i, Tryd.prog.info? 3 = some i ∧ i.zero = some (.int .i64 0) ∧ i.size = 1 ∧ i.bytes = 8 := by
  have h : (Tryd.prog.info? 3).map (fun i => (i.zero, i.size, i.bytes)) = some (some (.int .i64 0), 1, 8) := by kernel_rfl
  obtain ⟨i, hi, he⟩ := Option.map_eq_some_iff.1 h
  simp only [Prod.mk.injEq] at he
  exact ⟨i, hi, he.1, he.2.1, he.2.2⟩
theorem getD_appV (xs ys : List Value) (k : Nat) : (xs ++ ys).getD k undef = if k < xs.length then xs.getD k undef else ys.getD (k - xs.length) undef := by
  by_cases h : k < xs.length
  · rw [if_pos h, List.getD_eq_getElem?_getD, List.getElem?_append_left h, ← List.getD_eq_getElem?_getD]
  · rw [if_neg h, List.getD_eq_getElem?_getD, List.getElem?_append_right (by omega), ← List.getD_eq_getElem?_getD]
theorem getV (ys : List Value) (j : Nat) (h : j < ys.length) : ys[j]? = some (ys.getD j undef) := by
  rw [List.getD_eq_getElem?_getD, List.getElem?_eq_getElem h]
  rfl
theorem grownNewV {w : World} {xs ys : List Value} {C : Array Value} {cap : Nat} {Z : Array Value} (hC : C = xs.toArray ++ ys.toArray ++ Z) (hZ : Z.size = cap - (xs.length + ys.length)) (hcap : xs.length + ys.length ≤ cap) (hm : cap ≤ maxLen) :
    Sv (w.drew.alloc (.cells C 3)) (.slice (some ⟨w.heap.size, 0, none⟩) (xs.length + ys.length) cap) (xs ++ ys) := by
  have hs : C.size = cap := by subst hC; simp; omega
  refine .inr ⟨w.heap.size, cap, fun k => C.getD k undef, by rw [List.length_append], by rw [← hs]; exact Bk.new w.drew C 3, by rw [List.length_append]; exact hcap, hm, fun k hk => ?_⟩
  rw [List.length_append] at hk
  rw [getD_appV]
  subst hC
  simp only [Array.getD_eq_getD_getElem?]
  by_cases h : k < xs.length
  · rw [if_pos h, Array.getElem?_append_left (by simp; omega), Array.getElem?_append_left (by simpa using h)]
    simp [h]
  · rw [if_neg h, Array.getElem?_append_left (by simp; omega), Array.getElem?_append_right (by simpa using h)]
    simp only [List.size_toArray, List.getElem?_toArray]
    rw [getV _ _ (by omega)]
    rfl
theorem ap_runV (w : World) (ty : TypeId) {v : Value} {xs ys : List Value} {a : Addr} {m c2 : Nat} (hS : Sv w v xs) (h1 : One ys) (hl : ys.length = m) (hys : ∀ j, j < m → w.cell? (a.add j) = some (ys.getD j undef)) (hm0 : 0 < m) (hmax : xs.length + m ≤ 8796093022208) :
    ∃ v' w', (Builtin.append_ #[24, 24] ty #[v, .slice (some a) m c2]).run Tryd.prog w = .ok v' w' ∧ Sv w' v' (xs ++ ys) ∧ Kp (obk v) w w' ∧ ∀ k, v'.ownBlock = some k → v.ownBlock = some k ∨ w.heap.size ≤ k := by
  obtain ⟨i, hi, hz, hsz, hby⟩ := info3
  have hl' : ys.length = m * i.size := by rw [hsz]; omega
  have hnews : ∀ j u, ys[j]? = some u → w.cell? (a.add j) = some u := by
    intro j u hj
    have hlt : j < ys.length := (List.getElem?_eq_some_iff.1 hj).1
    rw [getV _ _ hlt] at hj
    rw [hys j (by omega)]
    exact hj
  have hmx : xs.length + m ≤ maxLen := by simp only [maxLen]; omega
  rcases hS with ⟨rfl, rfl⟩ | ⟨b, cap, g, rfl, hB, hxc, hcm, hg⟩
  · have hr := run_append_nil (P := Tryd.prog) w 24 ty 3 i (.int .i64 0) und24 hi hz a m c2 _ hl' hnews (by omega) (by simp at hmax; omega) (by rw [hby]; simp at hmax; omega)
    have hge := grownCap_ge w m 0 3
    refine ⟨_, _, hr, ?_, ((Kp.refl _ w).drew.alloc _), fun k hk => ?_⟩
    · have := grownNewV (w := w) (xs := []) (ys := ys) (C := ys.toArray ++ Builtin.zeroCells (Value.int .i64 0).cells (grownCap w m 0 3 - m)) (cap := grownCap w m 0 3) (Z := Builtin.zeroCells (Value.int .i64 0).cells (grownCap w m 0 3 - m)) (by simp) (by simp [Builtin.zeroCells, Value.cells]; omega) (by simp; omega) (grownCap_le_maxLen w m 0 3 (by simp at hmx; exact hmx))
      simpa [hl] using this
    · simp only [Value.ownBlock, Option.some.injEq] at hk
      exact .inr (by omega)
  · obtain ⟨C, hC, hCs, hCg⟩ := hB
    by_cases hroom : xs.length + m ≤ cap
    · have hr := run_append_room (P := Tryd.prog) w 24 ty 3 i und24 hi b xs.length cap C hC a m c2 _ hl' hnews h1 hroom (by rw [hsz]; omega)
      rw [hsz, Nat.mul_one] at hr
      refine ⟨_, _, hr, ?_, (Kp.refl _ w).setRow (by simp [obk, Value.ownBlock]) _, fun k hk => .inl hk⟩
      refine .inr ⟨b, cap, fun k => if k < xs.length then xs.getD k undef else if k < xs.length + m then ys.getD (k - xs.length) undef else g k, by rw [List.length_append, hl], ?_, by rw [List.length_append]; omega, hcm, fun k hk => ?_⟩
      · refine Bk.setRow (g := g) ⟨C, hC, hCs, hCg⟩ _ ?_ ?_
        · simp; omega
        · intro k hk
          have htl : (C.toList.take xs.length).length = xs.length := by simp; omega
          rw [List.getElem?_toArray]
          by_cases hk1 : k < xs.length
          · rw [if_pos hk1, List.append_assoc, List.getElem?_append_left (by omega), List.getElem?_take, if_pos hk1]
            rw [← hg k hk1]
            simpa using hCg k hk
          · rw [if_neg hk1, List.append_assoc, List.getElem?_append_right (by omega), htl]
            by_cases hk2 : k < xs.length + m
            · rw [if_pos hk2, List.getElem?_append_left (by omega), getV _ _ (by omega)]
            · rw [if_neg hk2, List.getElem?_append_right (by omega), List.getElem?_drop, hl]
              rw [show xs.length + m + (k - xs.length - m) = k by omega]
              simpa using hCg k hk
      · rw [List.length_append] at hk
        rw [getD_appV]
        simp only
        by_cases hk1 : k < xs.length
        · rw [if_pos hk1, if_pos hk1]
        · rw [if_neg hk1, if_neg hk1, if_pos (by omega)]
    · have holds : ∀ j u, xs[j]? = some u → w.cell? ((⟨b, 0, none⟩ : Addr).add j) = some u := by
        intro j u hj
        have hlt : j < xs.length := (List.getElem?_eq_some_iff.1 hj).1
        rw [getV _ _ hlt] at hj
        rw [Addr.add_lit, Nat.zero_add, Bk.cell (n := cap) (t := 3) (g := g) ⟨C, hC, hCs, hCg⟩ (k := j) (by omega), hg j hlt]
        exact hj
      have hr := run_append_grow (P := Tryd.prog) w 24 ty 3 i (.int .i64 0) und24 hi hz ⟨b, 0, none⟩ xs.length cap xs (by rw [hsz, Nat.mul_one]) holds a m c2 _ hl' hnews (by omega) (by omega) (growslice_fits (by omega) (by rw [hby]; omega))
      have hge := grownCap_ge w (xs.length + m) cap 3
      refine ⟨_, _, hr, ?_, ((Kp.refl _ w).drew.alloc _), fun k hk => ?_⟩
      · have := grownNewV (w := w) (xs := xs) (ys := ys) (cap := grownCap w (xs.length + m) cap 3) (Z := Builtin.zeroCells (Value.int .i64 0).cells (grownCap w (xs.length + m) cap 3 - (xs.length + m))) rfl (by simp [Builtin.zeroCells, Value.cells]; omega) (by omega) (grownCap_le_maxLen w (xs.length + m) cap 3 hmx)
        rw [hl] at this
        exact this
      · simp only [Value.ownBlock, Option.some.injEq] at hk
        exact .inr (by omega)
section
variable {ρ : Operand → Value} {d : Option Nat} {x y z : Operand} {ty : TypeId} {pos : String} {af : Array Edge} {gd : Option (Nat × Bool)} {w : World}
theorem bsi1 {h : Int} (hx : ρ x = .int .i64 h) : (execOp ρ ⟨d, .buildSlice 24 1 #[(0, x)], ty, pos, af, gd⟩).run Tryd.prog w = .ok (.value (.slice (some ⟨w.heap.size, 0, none⟩) 1 1)) (w.alloc (.cells #[.int .i64 h] 3)) := by
  simp only [execOp, List.map_toArray, List.map_cons, List.map_nil, hx]
  kernel_rfl
theorem bsi0 : (execOp ρ ⟨d, .buildSlice 24 0 #[], ty, pos, af, gd⟩).run Tryd.prog w = .ok (.value (.slice (some ⟨w.heap.size, 0, none⟩) 0 0)) (w.alloc (.cells #[] 3)) := by
  simp only [execOp, List.map_toArray, List.map_nil]
  kernel_rfl
end
theorem sv0 (w : World) : Sv (w.alloc (.cells #[] 3)) (.slice (some ⟨w.heap.size, 0, none⟩) 0 0) [] :=
  .inr ⟨w.heap.size, 0, fun _ => undef, rfl, Bk.newOf w _ 3 0 _ rfl, Nat.le_refl _, by decide, fun k hk => by simp at hk⟩
attribute [local irreducible] wpList wpStill wpMix Code.wp Calls fr
section
variable {ops : Array Oper} {Q : Exit → Act → World → Prop} {N : Nat} {L : List (Nat × Value)} {B : Nat → Value} {w : World} {rest : List Oper} {dd : Nat} {x y : Operand} {ty : TypeId} {pos : String} {af : Array Edge}
theorem Lapv {v : Value} {xs ys : List Value} {b2 o2 m c2 n2 : Nat} {t2 : TypeId} {g2 : Nat → Value} (hx : ev N (fl L B) x = v) (hy : ev N (fl L B) y = .slice (some ⟨b2, o2, none⟩) m c2) (hS : Sv w v xs) (hB2 : Bk w b2 n2 t2 g2) (h1 : One ys) (hl : ys.length = m) (h2 : o2 + m ≤ n2) (hys : ∀ j, j < m → g2 (o2 + j) = ys.getD j undef) (hm0 : 0 < m) (hmax : xs.length + m ≤ 8796093022208)
    (K : ∀ v' w1, Sv w1 v' (xs ++ ys) → Kp (obk v) w w1 → (∀ k, v'.ownBlock = some k → v.ownBlock = some k ∨ w.heap.size ≤ k) → wpList Tryd.prog ops Q rest (fr N (fl ((dd, v') :: L) B)) w1) :
    wpList Tryd.prog ops Q (⟨some dd, .call ⟨.builtin .append, #[x, y], #[24, 24]⟩, ty, pos, af, none⟩ :: rest) (fr N (fl L B)) w := by
  obtain ⟨v', w1, hr, h3, h4, h5⟩ := ap_runV w ty (a := ⟨b2, o2, none⟩) (c2 := c2) hS h1 hl (fun j hj => by rw [Addr.add_lit, hB2.cell (by omega), hys j hj]) hm0 hmax
  exact L1 (by simp [execOp, resolve, invoke, builtin, hx, hy, hr]) (K v' w1 h3 h4 h5)
/-- One int more: the new slice is built and appended. -/
theorem Lapv1 {v : Value} {xs : List Value} {h : Int} {d2 : Nat} {ty2 : TypeId} {pos2 : String} {af2 : Array Edge} (hx : ev N (fl L B) x = v) (hy : ev N (fl L B) y = .int .i64 h) (hne : ∀ t, x = .tmp t → t ≠ d2) (hS : Sv w v xs) (hmax : xs.length + 1 ≤ 8796093022208) (hd : d2 < N)
    (K : ∀ v' u w1, Sv w1 v' (xs ++ [.int .i64 h]) → Kp (obk v) w w1 → (∀ k, v'.ownBlock = some k → v.ownBlock = some k ∨ w.heap.size ≤ k) → wpList Tryd.prog ops Q rest (fr N (fl ((dd, v') :: (d2, u) :: L) B)) w1) :
    wpList Tryd.prog ops Q (⟨some d2, .buildSlice 24 1 #[(0, y)], ty2, pos2, af2, none⟩ :: ⟨some dd, .call ⟨.builtin .append, #[x, .tmp d2], #[24, 24]⟩, ty, pos, af, none⟩ :: rest) (fr N (fl L B)) w := by
  refine L1 (bsi1 hy) ?_
  have hb : Bk (w.alloc (.cells #[.int .i64 h] 3)) w.heap.size 1 3 (fun _ => .int .i64 h) := Bk.newOf w _ 3 1 _ rfl
  have hx' : ev N (fl ((d2, .slice (some ⟨w.heap.size, 0, none⟩) 1 1) :: L) B) x = v := by
    rw [← hx]
    cases x with
    | tmp t =>
      simp only [ev, fl]
      rw [if_neg (hne t rfl)]
    | const u => rfl
    | global g => rfl
    | func k => rfl
  have hk : Kp [] w (w.alloc (.cells #[.int .i64 h] 3)) := (Kp.refl [] w).alloc _
  refine Lapv (m := 1) (c2 := 1) (b2 := w.heap.size) (o2 := 0) hx' (by simp [ev, fl, hd]) (hS.kp hk (by simp)) hb (ys := [.int .i64 h]) (fun u hu => by simp at hu; subst hu; rfl) rfl (Nat.le_refl _) (fun j hj => by rw [show j = 0 by omega]; rfl) (by decide) hmax ?_
  intro v' w1 h1 h2 h3
  refine K v' _ w1 h1 ((hk.mono (by simp)).trans h2) fun k hk2 => ?_
  rcases h3 k hk2 with h | h
  · exact .inl h
  · exact .inr (by simp at h; omega)
end
end Go.Proofs.YtejeloeaklpinaaDoor

/- A symbol read by its code: huffSym. Its walk is printed by gen/g_sym.py. -/
namespace Go.Proofs.YtejeloeaklpinaaDoor
attribute [local irreducible] wpList wpStill wpMix Code.wp Calls fr
/-- A set of codes where it lies: in the reader's own block, or in a block apart. -/
def HAt (E : Env) (w : World) (g : Nat → Value) (hb ho : Nat) (c : Cd) : Prop :=
  (hb = E.F ∧ (ho = 5 ∨ ho = 520) ∧ HTab E w g ho c) ∨ (hb ∉ E.X ∧ ho = 0 ∧ ∃ gx, Bk w hb 515 86 gx ∧ HTab E w gx 0 c)
theorem HAt.keep {E : Env} {w w' : World} {g g' : Nat → Value} {hb ho : Nat} {c : Cd} {L : List Nat} (h : HAt E w g hb ho c) (k : Kp E.X w w') (o : Off L g g') (hL : ∀ j, j ∈ L → j < 5 ∨ 1035 ≤ j) : HAt E w' g' hb ho c := by
  rcases h with ⟨h1, h2, h3⟩ | ⟨h1, h2, gx, h3, h4⟩
  · exact .inl ⟨h1, h2, h3.keep k fun j a b => o j (fun hm => by have := hL j hm; rcases h2 with rfl | rfl <;> omega)⟩
  · exact .inr ⟨h1, h2, gx, h3.kp k h1, h4.keep k (fun _ _ _ => rfl)⟩
theorem HAt.cells {E : Env} {w : World} {g : Nat → Value} {hb ho : Nat} {c : Cd} (h : HAt E w g hb ho c) (hF : Bk w E.F 1054 95 g) : ∃ gx, (∀ j, ho ≤ j → j < ho + 515 → w.cell? ⟨hb, j, none⟩ = some (gx j)) ∧ HTab E w gx ho c := by
  rcases h with ⟨rfl, h2, h3⟩ | ⟨h1, rfl, gx, h3, h4⟩
  · exact ⟨g, fun j a b => hF.cell (by rcases h2 with rfl | rfl <;> omega), h3⟩
  · exact ⟨gx, fun j a b => h3.cell (by omega), h4⟩
theorem und83 : Tryd.prog.underlying 83 = some (.array 512 82) := by kernel_rfl
theorem bn_and64u {t : TypeId} {a : Int} {x : Nat} (ha : a = (x : Int)) (hx : x < 32) : binOp .and t (.int .u64 a) (.int .u64 31) = pure (.int .u64 (x : Int)) := by
  have := bn_mask64 (t := t) (a := a) (b := 31) (x := x) (k := 5) ha rfl (by omega) (by decide)
  rw [this, Nat.mod_eq_of_lt (by simpa using hx)]
/-- What is known of the look-up at the bits that are held. -/
theorem sym_ok {S : Src} {c : Cd} {p pos pos' : Nat} (hc : LkOk c) (hm : p + c.m ≤ 8 * pos') (hle : c.lk (bv S.D p (8 * pos' - p)) % 16 ≤ 8 * pos' - p) (hN : pos' ≤ S.N) (h1 : pos ≤ pos') (h2 : pos' = pos ∨ 8 * pos' < p + max c.m (c.lk (S.D / 2 ^ p) % 16) + 8) :
    getSym S c p pos = if c.lk (bv S.D p (8 * pos' - p)) % 16 = 0 then .bad p pos' else .ok (c.lk (bv S.D p (8 * pos' - p)) / 16) (p + c.lk (bv S.D p (8 * pos' - p)) % 16) pos' := by
  have e : c.lk (S.D / 2 ^ p) = c.lk (bv S.D p (8 * pos' - p)) := hc.le (S.D / 2 ^ p) (8 * pos' - p) (by omega) hle
  unfold getSym
  simp only [e]
  rw [e] at h2
  by_cases h0 : c.lk (bv S.D p (8 * pos' - p)) % 16 = 0
  · rw [if_pos h0, if_pos h0, if_pos (by omega)]
    rw [h0] at h2
    rw [← rdTo_of h1 (by rw [Nat.max_eq_left (Nat.zero_le _)] at h2; exact h2) hm]
  · rw [if_neg h0, if_neg h0, if_pos (by omega), ← rdTo_of h1 h2 (by omega)]
theorem sym_short {S : Src} {c : Cd} {p pos n : Nat} (h : 8 * S.N < p + n) (hn : n = c.m ∨ (c.m ≤ n ∧ n ≤ c.lk (S.D / 2 ^ p) % 16)) : getSym S c p pos = .short := by
  unfold getSym
  simp only
  by_cases h0 : c.lk (S.D / 2 ^ p) % 16 = 0
  · rw [if_pos h0, if_neg (by omega)]
  · rw [if_neg h0, if_neg (by omega)]
/-- What huffSym leaves. -/
def SymPost (E : Env) (w : World) (g hs bs cs : Nat → Value) (r : Got) (v : Value) (w' : World) : Prop :=
  ∃ g', Kp E.L w w' ∧ (match r with
    | .ok s p' pos' => v = .tuple #[.int .i64 (s : Int), .nilIface] ∧ Wd E w' g' hs bs cs pos' ∧ Bt E g' p' pos' ∧ Off [2, 3, 4] g g'
    | .short => v = .tuple #[.int .i64 0, UEOFv E] ∧ Wd E w' g' hs bs cs E.N ∧ Off [2, 3, 4] g g'
    | .bad _ pos' => (∃ x, v = .tuple #[.int .i64 0, .iface 107 (.int .i64 x)]) ∧ Wd E w' g' hs bs cs pos' ∧ Off [2, 3, 4, 1048] g g')

theorem sym_c (E : Env) (w : World) (g hs bs cs : Nat → Value) (p pos hb ho : Nat) (c : Cd) (hE : E.Ok) (hW : Wd E w g hs bs cs pos) (hS : Stc E g) (hB : Bt E g p pos) (hH : HAt E w g hb ho c) (hLk : LkOk c) :
    Ret 54 [fp E, .pointer (some ⟨hb, ho, none⟩)] w fun v w' => SymPost E w g hs bs cs (getSym E.S' c p pos) v w' := by
  have kp := Kp.refl E.L w
  have hN := hE.N47
  have hp0 := hB.le
  have hp1 := hB.l32
  have hm15 := hLk.m15
  obtain ⟨gx, hcx, hTx⟩ := hH.cells hW.F
  have hmn := hTx.1
  refine calls_fr (N := 137) Tryd.func54 rfl rfl (by simp [fp]) rfl ?_
  refine wp_seq ?_
  -- region 0
  refine reg_lit ?_
  refine L1 (asg (v := .int _ _) rfl) ?_
  refine L1 (asg (v := .nilIface) rfl) ?_
  refine wpList_nil ?_
  refine then_n ?_
  refine wp_seq ?_
  -- region 1
  refine reg_lit ?_
  refine L1 (mv (v := .pointer _) rfl) ?_
  refine L1 (nilP rfl) ?_
  refine L1 (fb86_0 rfl) ?_
  refine L1 (ld3 rfl (by have := hcx ho (Nat.le_refl _) (by omega); rw [hmn] at this; exact this)) ?_
  refine L1 (cv3_38 rfl (wrap_u64n _ (by omega) (by omega))) ?_
  refine L1 (asg (v := .int _ _) rfl) ?_
  refine wpList_nil ?_
  refine then_n ?_
  refine wp_seq ?_
  -- region 2 (its order is open)
  refine reg_still mixed (by kernel_rfl) ?_
  have hW := hW.drew
  have kp := kp.drew
  refine S1 (mv (v := .pointer _) rfl) ?_
  refine S1 (nilP rfl) ?_
  refine S1 (fa95_4 rfl) ?_
  refine S1 (ld38 rfl (hW.F.cellv (by decide) hB.nb)) ?_
  refine S1 (mv (v := .pointer _) rfl) ?_
  refine S1 (nilP rfl) ?_
  refine S1 (fa95_3 rfl) ?_
  refine S1 (ld82 rfl (hW.F.cellv (by decide) hB.b)) ?_
  refine S1 (asg (v := .int _ _) rfl) ?_
  refine S1 (asg (v := .int _ _) rfl) ?_
  refine still_nil ?_
  refine then_n ?_
  refine wp_block ?_
  refine loop_fr (fun k f w' => f 0 = fp E ∧ f 1 = .pointer (some ⟨hb, ho, none⟩) ∧ ∃ g' pos' n, f 6 = .int .u64 ((n : Nat) : Int) ∧ f 7 = .int .u64 ((8 * pos' - p : Nat) : Int) ∧ f 8 = .int .u32 ((bv E.D p (8 * pos' - p) : Nat) : Int) ∧ Wd E w' g' hs bs cs pos' ∧ (∃ x, g' 2 = .int .i64 x) ∧ Off [2] g g' ∧ Kp E.L w w' ∧ k = 2 * (E.N - pos') + (if 8 * pos' - p < n then 0 else 1) ∧ n ≤ 15 ∧ pos ≤ pos' ∧ (pos' = pos ∨ 8 * pos' < p + max c.m (c.lk (E.D / 2 ^ p) % 16) + 8) ∧ ((n = c.m ∧ pos' = pos) ∨ (c.m ≤ 8 * pos' - p ∧ 8 * pos' - p < n ∧ n ≤ c.lk (E.D / 2 ^ p) % 16)) ∧ 8 * pos' ≤ p + 32) (2 * (E.N - pos) + (if 8 * pos - p < c.m then 0 else 1)) ⟨rfl, rfl, g, pos, c.m, rfl, rfl, rfl, hW, hB.ro, Off.refl _ _, kp, rfl, hm15, Nat.le_refl _, .inl rfl, .inl ⟨rfl, rfl⟩, hp1⟩ ?_
  clear hW kp hcx hTx hmn gx hp0 hp1
  intro k f w0 HJ
  obtain ⟨s0, s1, g1, pos1, n1, s6, s7, s8, hW, hro, ho1, kp, rfl, hn15, hpp, hpq, hnn, hp32⟩ := HJ
  refine slots (fc s0 (fc s1 (fc s6 (fc s7 (fc s8 fnil))))) ?_
  have hp0 := hB.le
  refine wp_block ?_
  refine wp_seq ?_
  refine wp_block ?_
  refine loop_fr (fun k f w' => f 0 = fp E ∧ f 1 = .pointer (some ⟨hb, ho, none⟩) ∧ f 6 = .int .u64 ((n1 : Nat) : Int) ∧ ∃ g' pos', f 7 = .int .u64 ((8 * pos' - p : Nat) : Int) ∧ f 8 = .int .u32 ((bv E.D p (8 * pos' - p) : Nat) : Int) ∧ Wd E w' g' hs bs cs pos' ∧ (∃ x, g' 2 = .int .i64 x) ∧ Off [2] g g' ∧ Kp E.L w w' ∧ k = E.N - pos' ∧ pos1 ≤ pos' ∧ (pos' = pos ∨ 8 * pos' < p + max c.m (c.lk (E.D / 2 ^ p) % 16) + 8) ∧ 8 * pos' ≤ p + 32) (E.N - pos1) ⟨rfl, rfl, rfl, g1, pos1, rfl, rfl, hW, hro, ho1, kp, rfl, Nat.le_refl _, hpq, hp32⟩ ?_
  clear hW kp hro ho1
  intro k f w1 HJ
  obtain ⟨s0, s1, s6, g2, pos2, s7, s8, hW, ⟨ro, hro⟩, ho2, kp, rfl, hpp2, hpq2, hp322⟩ := HJ
  refine slots (fc s0 (fc s1 (fc s6 (fc s7 (fc s8 fnil))))) ?_
  have hS2 := hS.off ho2 (by decide)
  have hle2 := hW.rd.le
  refine wp_seq ?_
  refine wp_seq ?_
  -- region 3
  refine reg_lit ?_
  refine L1 (mv (v := .int _ _) rfl) ?_
  refine L1 (mv (v := .int _ _) rfl) ?_
  refine L1 (bi rfl rfl (bn_lss (v := decide (8 * pos2 - p < n1)) (decide_eq_decide.2 (by omega)))) ?_
  refine wpList_nil ?_
  refine then_n ?_
  refine cond_d (p := 8 * pos2 - p < n1) rfl (fun hlt => ?_) (fun hlt => ?_)
  · skip
    have hnx : n1 = c.m ∨ (c.m ≤ n1 ∧ n1 ≤ c.lk (E.D / 2 ^ p) % 16) := by omega
    by_cases hpn : pos2 < E.N
    · skip
      have hd8 := hE.d8 pos2
      have h2p : 2 ^ (8 * pos2 - p) ≤ 2 ^ 24 := Nat.pow_le_pow_right (by omega) (by omega)
      have hbv := bv_lt E.D p (8 * pos2 - p)
      have hwm : E.d pos2 * 2 ^ (8 * pos2 - p) < 4294967296 := Nat.lt_of_le_of_lt (Nat.mul_le_mul (Nat.le_of_lt_succ hd8) h2p) (by decide)
      refine wp_skip ?_
      refine then_n ?_
      refine wp_block ?_
      refine wp_seq ?_
      -- region 4
      refine reg_lit ?_
      refine L1 (mv (v := .pointer _) rfl) ?_
      refine L1 (nilP rfl) ?_
      refine L1 (fa95_0 rfl) ?_
      refine L1 (ld80 rfl (hW.F.cellv (by decide) hS2.r)) ?_
      refine LC (inv0 has82 rfl (meth_rb _)) (readByte_ok E _ pos2 hE hW.rd hpn) ?_
      rintro v w2 ⟨rfl, hrd, kp1⟩
      have hW := hW.setR hE hrd kp1
      have kp := kp.R kp1
      clear kp1 hrd
      refine L1 (mv (v := .tuple _) rfl) ?_
      refine L1 (ext2_0 rfl) ?_
      refine L1 (ext2_1 rfl) ?_
      refine L1 (asg (v := .int _ _) rfl) ?_
      refine L1 (asg (v := .nilIface) rfl) ?_
      refine wpList_nil ?_
      refine then_n ?_
      refine wp_seq ?_
      refine wp_seq ?_
      -- region 5
      refine reg_lit ?_
      refine L1 (mv (v := .nilIface) rfl) ?_
      refine L1 (en_nil rfl rfl) ?_
      refine wpList_nil ?_
      refine then_n ?_
      refine cond_f rfl ?_
      refine wp_skip ?_
      refine then_n ?_
      refine wp_seq ?_
      -- region 9
      refine reg_lit ?_
      refine L1 (mv (v := .pointer _) rfl) ?_
      refine L1 (nilP rfl) ?_
      refine L1 (fa95_2 rfl) ?_
      refine L1 (ld2 rfl (hW.F.cellv (by decide) hro)) ?_
      refine L1 (bi rfl rfl (bn_addw)) ?_
      refine L1 (nilP rfl) ?_
      refine L1 (fa95_2 rfl) ?_
      refine Lst2 (v := .int _ _) rfl rfl rfl hW.F (by decide) ?_
      intro w1 hb1 kp1
      have hW := hW.setF hE hb1 kp1
      have kp := kp.F kp1
      clear hb1 kp1
      refine wpList_nil ?_
      refine then_n ?_
      refine wp_seq ?_
      -- region 10
      refine reg_lit ?_
      refine L1 (mv (v := .int _ _) rfl) ?_
      refine L1 (mv (v := .int _ _) rfl) ?_
      refine L1 (cv5_82 rfl (wrap_u32n _ (by omega) (by omega))) ?_
      refine L1 (mv (v := .int _ _) rfl) ?_
      refine L1 (bi rfl rfl (bn_and64u rfl (by omega))) ?_
      refine L1 (bi rfl rfl (bn_shl32 rfl rfl (by omega) hwm)) ?_
      refine L1 (bi rfl rfl (bn_or32 rfl rfl (by omega) hwm)) ?_
      refine L1 (asg (v := .int _ _) rfl) ?_
      refine wpList_nil ?_
      refine then_n ?_
      -- region 11
      refine reg_lit ?_
      refine L1 (mv (v := .int _ _) rfl) ?_
      refine L1 (bi rfl rfl (bn_addu (c := ((8 * (pos2 + 1) - p : Nat) : Int)) (by omega) (by omega) (by omega))) ?_
      refine L1 (asg (v := .int _ _) rfl) ?_
      refine wpList_nil ?_
      refine inb_n ?_
      refine then_n ?_
      refine ⟨E.N - (pos2 + 1), _, by omega, rfl, rfl, rfl, rfl, _, pos2 + 1, rfl, ?_, hW, ⟨_, rfl⟩, ho2.upd (by decide) _, kp, rfl, by omega, .inr (by omega), by omega⟩
      show Value.int .u32 _ = Value.int .u32 _
      rw [or_high _ _ _ hbv, Env.D, show 8 * (pos2 + 1) - p = (8 * pos2 - p) + 8 by omega, bv_more E.d hE.d8 E.N p (8 * pos2 - p) pos2 (by omega) hpn]
    · skip
      refine wp_skip ?_
      refine then_n ?_
      refine wp_block ?_
      refine wp_seq ?_
      -- region 4
      refine reg_lit ?_
      refine L1 (mv (v := .pointer _) rfl) ?_
      refine L1 (nilP rfl) ?_
      refine L1 (fa95_0 rfl) ?_
      refine L1 (ld80 rfl (hW.F.cellv (by decide) hS2.r)) ?_
      refine LC (inv0 has82 rfl (meth_rb _)) (readByte_eof E _ pos2 hE hW.gl hW.rd (by omega)) ?_
      rintro v w2 ⟨rfl, hrd, kp1⟩
      have hW := hW.setR hE hrd kp1
      have kp := kp.R kp1
      clear kp1 hrd
      refine L1 (mv (v := .tuple _) rfl) ?_
      refine L1 (ext2_0 rfl) ?_
      refine L1 (ext2_1 rfl) ?_
      refine L1 (asg (v := .int _ _) rfl) ?_
      refine L1 (asg (v := (EOFv E)) rfl) ?_
      refine wpList_nil ?_
      refine then_n ?_
      refine wp_seq ?_
      refine wp_seq ?_
      -- region 5
      refine reg_lit ?_
      refine L1 (mv (v := EOFv E) rfl) ?_
      refine L1 (en_held (u := 131) rfl rfl) ?_
      refine wpList_nil ?_
      refine then_n ?_
      refine cond_t rfl ?_
      refine wp_seq ?_
      -- region 6
      refine reg_lit ?_
      refine L1 (mv (v := .pointer _) rfl) ?_
      refine L1 (mv (v := .int _ _) rfl) ?_
      refine L1 (nilP rfl) ?_
      refine L1 (fa95_3 rfl) ?_
      refine Lst82 (v := .int _ _) rfl rfl rfl hW.F (by decide) ?_
      intro w1 hb1 kp1
      have hW := hW.setF hE hb1 kp1
      have kp := kp.F kp1
      clear hb1 kp1
      refine wpList_nil ?_
      refine then_n ?_
      refine wp_seq ?_
      -- region 7
      refine reg_lit ?_
      refine L1 (mv (v := .pointer _) rfl) ?_
      refine L1 (mv (v := .int _ _) rfl) ?_
      refine L1 (nilP rfl) ?_
      refine L1 (fa95_4 rfl) ?_
      refine Lst38 (v := .int _ _) rfl rfl rfl hW.F (by decide) ?_
      intro w1 hb1 kp1
      have hW := hW.setF hE hb1 kp1
      have kp := kp.F kp1
      clear hb1 kp1
      refine wpList_nil ?_
      refine then_n ?_
      refine wp_seq ?_
      -- region 8
      refine reg_lit ?_
      refine L1 (mv (v := (EOFv E)) rfl) ?_
      refine LC (cl1 has48 rfl rfl) (noEOF_eof E _ hW.gl) ?_
      rintro v w1 ⟨rfl, rfl⟩
      refine L1 (asg (v := .int _ _) rfl) ?_
      refine L1 (asg (v := (UEOFv E)) rfl) ?_
      refine wpList_nil ?_
      refine then_n ?_
      refine wp_ret ?_
      refine then_r ?_
      refine inb_r ?_
      refine then_r ?_
      refine inb_r ?_
      refine then_r ?_
      refine inb_r ?_
      refine then_r ?_
      refine inb_r ?_
      refine ret2 rfl rfl rfl ?_
      have epn : pos2 = E.N := by omega
      rw [epn] at hW
      have hsh : getSym E.S' c p pos = .short := sym_short (S := E.S') (n := n1) (by show 8 * E.N < p + n1; omega) hnx
      rw [hsh]
      exact ⟨_, rfl, _, kp, rfl, hW, ((ho2.mono (by decide)).upd (by decide) _).upd (by decide) _⟩
  · skip
    have hH2 : HAt E w1 g2 hb ho c := hH.keep kp.X ho2 (by decide)
    obtain ⟨gx, hcx, hTx⟩ := hH2.cells hW.F
    obtain ⟨hT0, la, ll, lc, mask, hT1, hT2, hT3, hT4⟩ := hTx
    obtain ⟨hlk32, ch, hch, hch32, hcase⟩ := hT4 (bv E.D p (8 * pos2 - p))
    have hbv := bv_lt E.D p (8 * pos2 - p)
    have h32 : bv E.D p (8 * pos2 - p) < 4294967296 := Nat.lt_of_lt_of_le hbv (Nat.pow_le_pow_right (n := 2) (by decide) (show 8 * pos2 - p ≤ 32 by omega))
    have hx512 : bv E.D p (8 * pos2 - p) % 512 < 512 := Nat.mod_lt _ (by decide)
    have hm2 : c.m ≤ 8 * pos2 - p := by omega
    have hro2 : ∃ x, g2 2 = .int .i64 x := ⟨_, hro⟩
    have kp2 := kp
    refine wp_exit ?_
    refine then_e ?_
    refine then_e ?_
    refine inb_same ?_
    refine then_n ?_
    refine wp_seq ?_
    -- region 12
    refine reg_lit ?_
    refine L1 (mv (v := .pointer _) rfl) ?_
    refine L1 (mv (v := .int _ _) rfl) ?_
    refine L1 (bi rfl rfl (bn_mask32 (k := 9) rfl rfl h32 (by decide))) ?_
    refine L1 (nilP rfl) ?_
    refine L1 (fb86_1 rfl) ?_
    refine L1 (ixA und83 (fun w => sz82 w) rfl rfl (j := bv E.D p (8 * pos2 - p) % 512) rfl hx512) ?_
    refine L1 (ld82 (v := .int .u32 (ch : Int)) rfl (by have := hcx (ho + 1 + bv E.D p (8 * pos2 - p) % 512) (by omega) (by omega); rw [hch] at this; exact this)) ?_
    refine L1 (asg (v := .int _ _) rfl) ?_
    refine wpList_nil ?_
    refine then_n ?_
    refine wp_seq ?_
    -- region 13
    refine reg_lit ?_
    refine L1 (mv (v := .int _ _) rfl) ?_
    refine L1 (bi rfl rfl (bn_mask32 (k := 4) rfl rfl hch32 (by decide))) ?_
    refine L1 (cv82_38 rfl (wrap_u64n _ (by omega) (by omega))) ?_
    refine L1 (asg (v := .int _ _) rfl) ?_
    refine wpList_nil ?_
    refine then_n ?_
    refine seq_cut (N := 137) (fun f w' => (Wd E w' g2 hs bs cs pos2 ∧ Kp E.L w w') ∧ f 0 = fp E ∧ f 1 = .pointer (some ⟨hb, ho, none⟩) ∧ f 7 = .int .u64 ((8 * pos2 - p : Nat) : Int) ∧ f 8 = .int .u32 ((bv E.D p (8 * pos2 - p) : Nat) : Int) ∧ f 11 = .int .u32 ((c.lk (bv E.D p (8 * pos2 - p)) : Nat) : Int) ∧ f 6 = .int .u64 ((c.lk (bv E.D p (8 * pos2 - p)) % 2 ^ 4 : Nat) : Int)) ?_ ?_
    · skip
      refine wp_seq ?_
      -- region 14
      refine reg_lit ?_
      refine L1 (mv (v := .int _ _) rfl) ?_
      refine L1 (bi rfl rfl (bn_gtr (v := decide (9 < ch % 2 ^ 4)) (decide_eq_decide.2 (by omega)))) ?_
      refine wpList_nil ?_
      refine then_n ?_
      refine cond_d (p := 9 < ch % 2 ^ 4) rfl (fun hgt9 => ?_) (fun hgt9 => ?_)
      · skip
        rcases hcase with ⟨hc1, hc2⟩ | ⟨hc1, hc2, lb, lo, ib, io, il, ic, rfl, hlb, hib, hl1, hl2, hl3⟩
        · omega
        refine wp_seq ?_
        -- region 15 (its order is open)
        refine reg_still mixed (by kernel_rfl) ?_
        have hW := hW.drew
        have kp := kp.drew
        have hcx : ∀ j, ho ≤ j → j < ho + 515 → w1.drew.cell? ⟨hb, j, none⟩ = some (gx j) := hcx
        have hl1 : w1.drew.cell? ⟨lb, lo + ch / 16, none⟩ = some (.slice (some ⟨ib, io, none⟩) il ic) := hl1
        have hl3 : w1.drew.cell? ⟨ib, io + (bv E.D p (8 * pos2 - p) / 512 &&& mask), none⟩ = some (.int .u32 (c.lk (bv E.D p (8 * pos2 - p)) : Int)) := hl3
        refine S1 (mv (v := .pointer _) rfl) ?_
        refine S1 (nilP rfl) ?_
        refine S1 (fb86_2 rfl) ?_
        refine S1 (ld84 (v := .slice _ _ _) rfl (by have := hcx (ho + 513) (by omega) (by omega); rw [hT1] at this; exact this)) ?_
        refine S1 (mv (v := .int _ _) rfl) ?_
        refine S1 (bi rfl rfl (bn_shr (n := 4) rfl rfl (by decide))) ?_
        refine S1 (ix und84 sz130 rfl rfl rfl hc2) ?_
        refine S1 (ld130 (v := .slice _ _ _) rfl hl1) ?_
        refine S1 (mv (v := .int _ _) rfl) ?_
        refine S1 (bi rfl rfl (bn_shr (n := 9) rfl rfl (by decide))) ?_
        refine S1 (mv (v := .pointer _) rfl) ?_
        refine S1 (nilP rfl) ?_
        refine S1 (fb86_3 rfl) ?_
        refine S1 (ld82 (v := .int .u32 (mask : Int)) rfl (by have := hcx (ho + 514) (by omega) (by omega); rw [hT2] at this; exact this)) ?_
        refine S1 (bi rfl rfl (bn_and32 rfl rfl (by omega) hT3)) ?_
        refine S1 (ix und130 sz82 rfl rfl rfl hl2) ?_
        refine S1 (ld82 (v := .int .u32 _) rfl hl3) ?_
        refine S1 (asg (v := .int _ _) rfl) ?_
        refine still_nil ?_
        refine then_n ?_
        -- region 16
        refine reg_lit ?_
        refine L1 (mv (v := .int _ _) rfl) ?_
        refine L1 (bi rfl rfl (bn_mask32 (k := 4) rfl rfl hlk32 (by decide))) ?_
        refine L1 (cv82_38 rfl (wrap_u64n _ (by omega) (by omega))) ?_
        refine L1 (asg (v := .int _ _) rfl) ?_
        refine wpList_nil ?_
        refine then_n ?_
        exact ⟨_, rfl, ⟨hW, kp⟩, rfl, rfl, rfl, rfl, rfl, rfl⟩
      · skip
        have hc2 : c.lk (bv E.D p (8 * pos2 - p)) = ch := hcase.elim (fun h => h.2) (fun h => absurd h.1 (by omega))
        rw [hc2]
        refine wp_skip ?_
        refine then_n ?_
        exact ⟨_, rfl, ⟨hW, kp⟩, rfl, rfl, rfl, rfl, rfl, rfl⟩
    · skip
      clear hcx hT4 hcase hW kp kp2
      rintro f w3 ⟨⟨hW, kp⟩, s0, s1, s7, s8, s11, s6⟩
      have kp2 := kp
      refine slots (fc s0 (fc s1 (fc s7 (fc s8 (fc s11 (fc s6 fnil)))))) ?_
      generalize hve : c.lk (bv E.D p (8 * pos2 - p)) = v at *
      refine wp_seq ?_
      -- region 17
      refine reg_lit ?_
      refine L1 (mv (v := .int _ _) rfl) ?_
      refine L1 (mv (v := .int _ _) rfl) ?_
      refine L1 (bi rfl rfl (bn_leq (v := decide (v % 16 ≤ 8 * pos2 - p)) (decide_eq_decide.2 (by omega)))) ?_
      refine wpList_nil ?_
      refine then_n ?_
      refine cond_d (p := v % 16 ≤ 8 * pos2 - p) rfl (fun hfit => ?_) (fun hfit => ?_)
      · skip
        have hsym := sym_ok (S := E.S') (pos := pos) (pos' := pos2) hLk (p := p) (by omega) (by show c.lk (bv E.D p (8 * pos2 - p)) % 16 ≤ _; rw [hve]; exact hfit) hle2 (by omega) hpq2
        have hve' : c.lk (bv E.S'.D p (8 * pos2 - p)) = v := hve
        rw [hve'] at hsym
        refine wp_seq ?_
        refine wp_seq ?_
        -- region 18
        refine reg_lit ?_
        refine L1 (mv (v := .int _ _) rfl) ?_
        refine L1 (bi rfl rfl (bn_eql (v := decide (v % 16 = 0)) (decide_eq_decide.2 (by omega)))) ?_
        refine wpList_nil ?_
        refine then_n ?_
        refine cond_d (p := v % 16 = 0) rfl (fun hz => ?_) (fun hz => ?_)
        · skip
          rw [if_pos hz] at hsym
          refine wp_seq ?_
          -- region 19
          refine reg_lit ?_
          refine L1 (mv (v := .pointer _) rfl) ?_
          refine L1 (mv (v := .int _ _) rfl) ?_
          refine L1 (nilP rfl) ?_
          refine L1 (fa95_3 rfl) ?_
          refine Lst82 (v := .int _ _) rfl rfl rfl hW.F (by decide) ?_
          intro w1 hb1 kp1
          have hW := hW.setF hE hb1 kp1
          have kp := kp.F kp1
          clear hb1 kp1
          refine wpList_nil ?_
          refine then_n ?_
          refine wp_seq ?_
          -- region 20
          refine reg_lit ?_
          refine L1 (mv (v := .pointer _) rfl) ?_
          refine L1 (mv (v := .int _ _) rfl) ?_
          refine L1 (nilP rfl) ?_
          refine L1 (fa95_4 rfl) ?_
          refine Lst38 (v := .int _ _) rfl rfl rfl hW.F (by decide) ?_
          intro w1 hb1 kp1
          have hW := hW.setF hE hb1 kp1
          have kp := kp.F kp1
          clear hb1 kp1
          refine wpList_nil ?_
          refine then_n ?_
          refine wp_seq ?_
          -- region 21
          refine reg_lit ?_
          refine L1 (mv (v := .pointer _) rfl) ?_
          refine L1 (mv (v := .pointer _) rfl) ?_
          refine L1 (nilP rfl) ?_
          refine L1 (fa95_2 rfl) ?_
          refine L1 (ld2 rfl (hW.F.cellv (by decide) hro)) ?_
          refine L1 (mkI107 rfl) ?_
          refine L1 (nilP rfl) ?_
          refine L1 (fa95_14 rfl) ?_
          refine Lst62 (v := .iface _ _) rfl rfl rfl hW.F (by decide) ?_
          intro w1 hb1 kp1
          have hW := hW.setF hE hb1 kp1
          have kp := kp.F kp1
          clear hb1 kp1
          refine wpList_nil ?_
          refine then_n ?_
          refine wp_seq ?_
          -- region 22 (its order is open)
          refine reg_still mixed (by kernel_rfl) ?_
          have hW := hW.drew
          have kp := kp.drew
          refine S1 (mv (v := .pointer _) rfl) ?_
          refine S1 (nilP rfl) ?_
          refine S1 (fa95_14 rfl) ?_
          refine S1 (ld62 rfl (hW.F.cellv (v := .iface _ _) (by decide) rfl)) ?_
          refine S1 (asg (v := .int _ _) rfl) ?_
          refine S1 (asg (v := .iface _ _) rfl) ?_
          refine still_nil ?_
          refine then_n ?_
          refine wp_ret ?_
          refine then_r ?_
          refine inb_r ?_
          refine then_r ?_
          refine inb_r ?_
          refine ret2 rfl rfl rfl ?_
          rw [hsym]
          exact ⟨_, rfl, _, kp, ⟨_, rfl⟩, hW, (((ho2.mono (by decide)).upd (by decide) _).upd (by decide) _).upd (by decide) _⟩
        · skip
          rw [if_neg hz] at hsym
          have hv15 : v % 16 < 16 := Nat.mod_lt _ (by decide)
          refine wp_skip ?_
          refine then_n ?_
          refine wp_seq ?_
          -- region 23
          refine reg_lit ?_
          refine L1 (mv (v := .pointer _) rfl) ?_
          refine L1 (mv (v := .int _ _) rfl) ?_
          refine L1 (mv (v := .int _ _) rfl) ?_
          refine L1 (bi rfl rfl (bn_and64u (x := v % 16) (by omega) (by omega))) ?_
          refine L1 (bi rfl rfl (bn_shr (n := v % 16) rfl rfl (by show v % 16 ≤ 32; omega))) ?_
          refine L1 (nilP rfl) ?_
          refine L1 (fa95_3 rfl) ?_
          refine Lst82 (v := .int _ _) rfl rfl rfl hW.F (by decide) ?_
          intro w1 hb1 kp1
          have hW := hW.setF hE hb1 kp1
          have kp := kp.F kp1
          clear hb1 kp1
          refine wpList_nil ?_
          refine then_n ?_
          refine wp_seq ?_
          -- region 24
          refine reg_lit ?_
          refine L1 (mv (v := .pointer _) rfl) ?_
          refine L1 (mv (v := .int _ _) rfl) ?_
          refine L1 (mv (v := .int _ _) rfl) ?_
          refine L1 (bi rfl rfl (bn_subu (c := ((8 * pos2 - p - v % 16 : Nat) : Int)) (by omega) (by omega) (by omega))) ?_
          refine L1 (nilP rfl) ?_
          refine L1 (fa95_4 rfl) ?_
          refine Lst38 (v := .int _ _) rfl rfl rfl hW.F (by decide) ?_
          intro w1 hb1 kp1
          have hW := hW.setF hE hb1 kp1
          have kp := kp.F kp1
          clear hb1 kp1
          refine wpList_nil ?_
          refine then_n ?_
          refine wp_seq ?_
          -- region 25
          refine reg_lit ?_
          refine L1 (mv (v := .int _ _) rfl) ?_
          refine L1 (bi rfl rfl (bn_shr (n := 4) rfl rfl (by decide))) ?_
          refine L1 (cv82_3 rfl (wrap_s64 _ (by omega) (by omega))) ?_
          refine L1 (asg (v := .int _ _) rfl) ?_
          refine L1 (asg (v := .nilIface) rfl) ?_
          refine wpList_nil ?_
          refine then_n ?_
          refine wp_ret ?_
          refine inb_r ?_
          refine then_r ?_
          refine inb_r ?_
          refine ret2 rfl rfl rfl ?_
          rw [hsym]
          refine ⟨_, rfl, _, kp, rfl, hW, ⟨⟨_, hro⟩, ?_, ?_, by omega, by omega⟩, ((ho2.mono (by decide)).upd (by decide) _).upd (by decide) _⟩
          · show Value.int .u32 _ = Value.int .u32 _
            rw [bv_shift _ _ _ _ (by omega), show 8 * pos2 - p - v % 16 = 8 * pos2 - (p + v % 16) by omega]
          · show Value.int .u64 _ = Value.int .u64 _
            rw [show 8 * pos2 - p - v % 16 = 8 * pos2 - (p + v % 16) by omega]
      · skip
        have hgt : v % 2 ^ 4 ≤ c.lk (E.D / 2 ^ p) % 16 := by
          have := hLk.gt (E.D / 2 ^ p) (8 * pos2 - p) hm2 (by show 8 * pos2 - p < c.lk (bv E.D p (8 * pos2 - p)) % 16; rw [hve]; omega)
          have e : c.lk (E.D / 2 ^ p % 2 ^ (8 * pos2 - p)) = v := hve
          rw [e] at this
          exact this
        refine wp_skip ?_
        refine inb_n ?_
        refine then_n ?_
        refine ⟨2 * (E.N - pos2), _, ?_, rfl, rfl, rfl, g2, pos2, _, rfl, rfl, rfl, hW, hro2, ho2, kp2, by rw [if_pos (by omega)]; rfl, by omega, by omega, hpq2, .inr ⟨by omega, by omega, hgt⟩, by omega⟩
        have hle3 := hW.rd.le
        split <;> omega
end Go.Proofs.YtejeloeaklpinaaDoor

/- Bits turned about: Reverse8, Reverse16. -/
namespace Go.Proofs.YtejeloeaklpinaaDoor
theorem undS9 : Tryd.prog.underlying 9 = some .string := by kernel_rfl
section
variable {ρ : Operand → Value} {d : Option Nat} {x y z : Operand} {ty : TypeId} {pos : String} {af : Array Edge} {gd : Option (Nat × Bool)} {w : World}
/-- A byte of a string. -/
theorem ixs {s : ByteArray} {k : IntKind} {i : Nat} {c : Nat} (hx : ρ x = .string s) (hy : ρ y = .int k (i : Int)) (hi : i < s.size) (hc : (s.data.getD i 0).toNat = c) : (execOp ρ ⟨d, .index 9 x y, ty, pos, af, gd⟩).run Tryd.prog w = .ok (.value (.int .u8 (c : Int))) w := by
  have := run_index_string (P := Tryd.prog) (w := w) 9 s k (i : Int) undS9
  rw [dif_pos (by omega)] at this
  have hs : i < s.data.size := hi
  have e : (s[((i : Int)).toNat]'(by rw [Int.toNat_natCast]; exact hi)).toNat = c := by
    rw [← hc]
    simp only [Int.toNat_natCast]
    rw [Array.getD_eq_getD_getElem?, Array.getElem?_eq_getElem hs]
    rfl
  rw [e] at this
  simp [execOp, hx, hy, this]
end
attribute [local irreducible] wpList wpStill wpMix Code.wp Calls fr
theorem reverse8_c (w : World) (x : Nat) (hx : x < 256) : Ret 57 [.int .u8 (x : Int)] w fun v w' => v = .int .u8 ((rev 8 x : Nat) : Int) ∧ w' = w := by
  refine calls_fr (N := 5) Tryd.func57 rfl rfl (by simp) rfl ?_
  refine wp_seq ?_
  refine reg_lit ?_
  refine L1 (asg (v := .int _ _) rfl) ?_
  refine wpList_nil ?_
  refine then_n ?_
  refine wp_seq ?_
  refine reg_lit ?_
  refine L1 (mv (v := .int _ _) rfl) ?_
  refine L1 (ixs (i := x) rfl rfl (Nat.lt_of_lt_of_eq hx (by kernel_rfl)) (c := rev 8 x) ?_) ?_
  · revert hx
    revert x
    decide +kernel
  refine L1 (asg (v := .int _ _) rfl) ?_
  refine wpList_nil ?_
  refine then_n ?_
  refine wp_ret ?_
  refine ret1 rfl rfl ?_
  exact ⟨_, rfl, rfl, rfl⟩
theorem rev8_5 : ∀ y, y < 32 → rev 8 (y * 8) = rev 5 y := by decide
end Go.Proofs.YtejeloeaklpinaaDoor

/- Copies within the window: tryWriteCopy, writeCopy. Its walks are printed by gen/g_copy.py. -/
namespace Go.Proofs.YtejeloeaklpinaaDoor
attribute [local irreducible] wpList wpStill wpMix Code.wp Calls fr
/-- What a copy tells, in closed form. -/
theorem lz_len (out : List Nat) (d : Nat) : ∀ k, (lz out d k).length = out.length + k
  | 0 => rfl
  | k + 1 => by simp [lz, lz_len out d k]; omega
theorem lz_old (out : List Nat) (d : Nat) : ∀ k i, i < out.length → (lz out d k).getD i 0 = out.getD i 0
  | 0, _, _ => rfl
  | k + 1, i, h => by
    have hl := lz_len out d k
    rw [lz, List.getD_eq_getElem?_getD, List.getElem?_append_left (by omega), ← List.getD_eq_getElem?_getD]
    exact lz_old out d k i h
theorem lz_new (out : List Nat) (d : Nat) (hd : 0 < d) (hd2 : d ≤ out.length) : ∀ k t, t < k → (lz out d k).getD (out.length + t) 0 = out.getD (out.length - d + t % d) 0
  | 0, _, h => by omega
  | k + 1, t, h => by
    have hl := lz_len out d k
    by_cases ht : t < k
    · rw [lz, List.getD_eq_getElem?_getD, List.getElem?_append_left (by omega), ← List.getD_eq_getElem?_getD]
      exact lz_new out d hd hd2 k t ht
    · have : t = k := by omega
      subst this
      rw [lz, List.getD_eq_getElem?_getD, List.getElem?_append_right (by omega), hl, Nat.sub_self]
      simp only [List.getElem?_cons_zero, Option.getD_some]
      have hmd := Nat.mod_add_div t d
      have hml := Nat.mod_lt t hd
      by_cases h0 : t < d
      · rw [lz_old out d t _ (by omega), Nat.mod_eq_of_lt h0, show out.length + t - d = out.length - d + t by omega]
      · rw [show out.length + t - d = out.length + (t - d) by omega, lz_new out d hd hd2 t (t - d) (by omega), ← Nat.mod_eq_sub_mod (show t ≥ d by omega)]
/-- The byte of a copy at any place behind its start. -/
theorem lz_at (out : List Nat) (d : Nat) (hd : 0 < d) (hd2 : d ≤ out.length) (k i : Nat) (h : i < d + k) : (lz out d k).getD (out.length - d + i) 0 = out.getD (out.length - d + i % d) 0 := by
  by_cases h0 : i < d
  · rw [lz_old out d k _ (by omega), Nat.mod_eq_of_lt h0]
  · rw [show out.length - d + i = out.length + (i - d) by omega, lz_new out d hd hd2 k (i - d) (by omega), ← Nat.mod_eq_sub_mod (show i ≥ d by omega)]
theorem lz_small (out : List Nat) (d : Nat) (hd : 0 < d) (hd2 : d ≤ out.length) (hs : ∀ i, i < out.length → out.getD i 0 < 256) (k i : Nat) (hi : i < out.length + k) : (lz out d k).getD i 0 < 256 := by
  by_cases h0 : i < out.length
  · rw [lz_old out d k i h0]; exact hs i h0
  · have := lz_new out d hd hd2 k (i - out.length) (by omega)
    rw [show out.length + (i - out.length) = i by omega] at this
    rw [this]
    have hm := Nat.mod_lt (i - out.length) hd
    exact hs _ (by omega)
/-- One more copy: c bytes from place s (of the window) to place wr + j, where they are the bytes that the copy tells next. -/
theorem win_step {out : List Nat} {hs : Nat → Value} {d j c wr s : Nat} (hd : 0 < d) (hd2 : d ≤ out.length) (hd3 : d ≤ 32768) (hw : wr = out.length % 32768) (h : Win (lz out d j) hs) (hc : wr + j + c ≤ 32768)
    (hsc : s + c ≤ 32768)
    (hval : ∀ i, i < c → hs (s + i) = .int .u8 (out.getD (out.length - d + (j + i) % d) 0)) :
    Win (lz out d (j + c)) (cpg hs hs (wr + j) s c) := by
  have hl1 := lz_len out d j
  have hl2 := lz_len out d (j + c)
  refine ⟨fun x hx => ?_, fun i hi hi2 => ?_, fun i hi => lz_small out d hd hd2 (fun i hi => by have := h.small i (by omega); rwa [lz_old out d j i hi] at this) (j + c) i (by omega)⟩
  · unfold cpg
    split
    · exact h.byte _ (by omega)
    · exact h.byte x hx
  · rw [hl2] at hi hi2
    unfold cpg
    by_cases h0 : i < out.length + j
    · rw [if_neg (by omega)]
      have := h.last i (by omega) (by omega)
      rw [this]
      congr 2
      by_cases h1 : i < out.length
      · rw [lz_old out d _ i h1, lz_old out d _ i h1]
      · have e1 := lz_new out d hd hd2 j (i - out.length) (by omega)
        have e2 := lz_new out d hd hd2 (j + c) (i - out.length) (by omega)
        rw [show out.length + (i - out.length) = i by omega] at e1 e2
        rw [e1, e2]
    · rw [if_pos (by omega), hval _ (by omega)]
      have e2 := lz_new out d hd hd2 (j + c) (i - out.length) (by omega)
      rw [show out.length + (i - out.length) = i by omega] at e2
      rw [e2, show j + (i % 32768 - (wr + j)) = i - out.length by omega]
/-- The bytes that lie in the window at the place from which a copy takes them. -/
theorem win_src {out : List Nat} {hs : Nat → Value} {d j wr i : Nat} (hd : 0 < d) (hd2 : d ≤ out.length) (hw : wr = out.length % 32768) (h : Win (lz out d j) hs) (hdw : d ≤ wr) (hj : wr + j ≤ 32768) (hi : i < d + j) :
    hs (wr - d + i) = .int .u8 (out.getD (out.length - d + i % d) 0) := by
  have hl1 := lz_len out d j
  have := h.last (out.length - d + i) (by omega) (by omega)
  rw [lz_at out d hd hd2 j i hi] at this
  rw [← this, show (out.length - d + i) % 32768 = wr - d + i by omega]
/-- The same, where the place has wrapped. -/
theorem win_src2 {out : List Nat} {hs : Nat → Value} {d j wr i : Nat} (hd : 0 < d) (hd2 : d ≤ out.length) (hw : wr = out.length % 32768) (h : Win (lz out d j) hs) (hdw : wr ≤ d) (hj : wr + j ≤ 32768) (hi : i < wr + j) :
    hs i = .int .u8 (out.getD (out.length - d + (d - wr + i) % d) 0) := by
  have hl1 := lz_len out d j
  have := h.last (out.length - d + (d - wr + i)) (by omega) (by omega)
  rw [lz_at out d hd hd2 j (d - wr + i) (by omega)] at this
  rw [← this, show (out.length - d + (d - wr + i)) % 32768 = i by omega]
theorem win_src3 {out : List Nat} {hs : Nat → Value} {d wr i : Nat} (hd2 : d ≤ out.length) (hd3 : d ≤ 32768) (hw : wr = out.length % 32768) (h : Win out hs) (hdw : wr < d) (hi : i < d - wr) :
    hs (wr + 32768 - d + i) = .int .u8 (out.getD (out.length - d + i) 0) := by
  have := h.last (out.length - d + i) (by omega) (by omega)
  rw [← this, show (out.length - d + i) % 32768 = wr + 32768 - d + i by omega]
theorem bmin {ρ : Operand → Value} {dd : Option Nat} {x y : Operand} {ty : TypeId} {pos : String} {af : Array Edge} {gd : Option (Nat × Bool)} {w : World} {a b : Nat} (hx : ρ x = .int .i64 (a : Int)) (hy : ρ y = .int .i64 (b : Int)) :
    (execOp ρ ⟨dd, .call ⟨.builtin .min, #[x, y], #[3, 3]⟩, ty, pos, af, gd⟩).run Tryd.prog w = .ok (.value (.int .i64 ((min a b : Nat) : Int))) w := by
  have e2 : (if b < a then (b : Int) else (a : Int)) = ((min a b : Nat) : Int) := by split <;> omega
  simp [execOp, resolve, invoke, builtin, hx, hy, Builtin.min_, Builtin.min2, e2]
theorem mod_add_mul {d j i : Nat} (h : j % d = 0) : (j + i) % d = i % d := by
  rw [Nat.add_mod, h, Nat.zero_add, Nat.mod_mod]

theorem tw_no_a (E : Env) (w : World) (g hs bs cs : Nat → Value) (pos wr rd d n : Nat) (full : Bool) (out : List Nat) (hE : E.Ok) (hW : Wd E w g hs bs cs pos) (hD : DD E g wr rd full) (hV : Win out hs) (hw : wr = out.length % 32768) (hd : 0 < d) (hd2 : d ≤ out.length) (hd3 : d ≤ 32768) (hn : n ≤ 258) (hno : wr < d) :
    Ret 59 [ddp E, .int .i64 (d : Int), .int .i64 (n : Int)] w fun v w' => v = .int .i64 0 ∧ Wd E w' g hs bs cs pos ∧ Kp E.L w w' := by
  have kp := Kp.refl E.L w
  have hwl : wr < 32768 := by omega
  refine calls_fr (N := 61) Tryd.func59 rfl rfl (by simp [ddp]) rfl ?_
  refine wp_seq ?_
  -- region 0
  refine reg_lit ?_
  refine L1 (asg (v := .int _ _) rfl) ?_
  refine wpList_nil ?_
  refine then_n ?_
  refine wp_seq ?_
  -- region 1
  refine reg_lit ?_
  refine L1 (mv (v := .pointer _) rfl) ?_
  refine L1 (nilP rfl) ?_
  refine L1 (fd90_1 rfl) ?_
  refine L1 (ld3 rfl (hW.F.cellv (by decide) hD.wr)) ?_
  refine L1 (asg (v := .int _ _) rfl) ?_
  refine wpList_nil ?_
  refine then_n ?_
  refine wp_seq ?_
  -- region 2
  refine reg_lit ?_
  refine L1 (mv (v := .int _ _) rfl) ?_
  refine L1 (mv (v := .int _ _) rfl) ?_
  refine L1 (bi rfl rfl (bn_add (c := ((wr + n : Nat) : Int)) (by omega) (by omega) (by omega))) ?_
  refine L1 (asg (v := .int _ _) rfl) ?_
  refine wpList_nil ?_
  refine then_n ?_
  refine wp_seq ?_
  refine wp_seq ?_
  -- region 3
  refine reg_lit ?_
  refine L1 (mv (v := .int _ _) rfl) ?_
  refine L1 (mv (v := .int _ _) rfl) ?_
  refine L1 (bi rfl rfl (bn_lss (v := true) (decide_eq_true (by omega)))) ?_
  refine L1 (mv (v := .bool _) rfl) ?_
  refine Lskip (t := 21) (b := false) rfl (by decide) rfl ?_
  refine Lskip (t := 21) (b := false) rfl (by decide) rfl ?_
  refine Lskip (t := 21) (b := false) rfl (by decide) rfl ?_
  refine Lskip (t := 21) (b := false) rfl (by decide) rfl ?_
  refine Lskip (t := 21) (b := false) rfl (by decide) rfl ?_
  refine Lskip (t := 21) (b := false) rfl (by decide) rfl ?_
  refine Lskip (t := 21) (b := false) rfl (by decide) rfl ?_
  refine L1 (pk_t rfl rfl) ?_
  refine wpList_nil ?_
  refine then_n ?_
  refine cond_t rfl ?_
  refine wp_seq ?_
  -- region 4
  refine reg_lit ?_
  refine L1 (asg (v := .int _ _) rfl) ?_
  refine wpList_nil ?_
  refine then_n ?_
  refine wp_ret ?_
  refine then_r ?_
  refine ret1 rfl rfl ?_
  exact ⟨_, rfl, rfl, hW, kp⟩
theorem tw_no_b (E : Env) (w : World) (g hs bs cs : Nat → Value) (pos wr rd d n : Nat) (full : Bool) (out : List Nat) (hE : E.Ok) (hW : Wd E w g hs bs cs pos) (hD : DD E g wr rd full) (hV : Win out hs) (hw : wr = out.length % 32768) (hd : 0 < d) (hd2 : d ≤ out.length) (hd3 : d ≤ 32768) (hn : n ≤ 258) (hno : d ≤ wr ∧ 32768 < wr + n) :
    Ret 59 [ddp E, .int .i64 (d : Int), .int .i64 (n : Int)] w fun v w' => v = .int .i64 0 ∧ Wd E w' g hs bs cs pos ∧ Kp E.L w w' := by
  have kp := Kp.refl E.L w
  have hwl : wr < 32768 := by omega
  refine calls_fr (N := 61) Tryd.func59 rfl rfl (by simp [ddp]) rfl ?_
  refine wp_seq ?_
  -- region 0
  refine reg_lit ?_
  refine L1 (asg (v := .int _ _) rfl) ?_
  refine wpList_nil ?_
  refine then_n ?_
  refine wp_seq ?_
  -- region 1
  refine reg_lit ?_
  refine L1 (mv (v := .pointer _) rfl) ?_
  refine L1 (nilP rfl) ?_
  refine L1 (fd90_1 rfl) ?_
  refine L1 (ld3 rfl (hW.F.cellv (by decide) hD.wr)) ?_
  refine L1 (asg (v := .int _ _) rfl) ?_
  refine wpList_nil ?_
  refine then_n ?_
  refine wp_seq ?_
  -- region 2
  refine reg_lit ?_
  refine L1 (mv (v := .int _ _) rfl) ?_
  refine L1 (mv (v := .int _ _) rfl) ?_
  refine L1 (bi rfl rfl (bn_add (c := ((wr + n : Nat) : Int)) (by omega) (by omega) (by omega))) ?_
  refine L1 (asg (v := .int _ _) rfl) ?_
  refine wpList_nil ?_
  refine then_n ?_
  refine wp_seq ?_
  refine wp_seq ?_
  -- region 3
  refine reg_lit ?_
  refine L1 (mv (v := .int _ _) rfl) ?_
  refine L1 (mv (v := .int _ _) rfl) ?_
  refine L1 (bi rfl rfl (bn_lss (v := false) (decide_eq_false (by omega)))) ?_
  refine L1 (mv (v := .bool _) rfl) ?_
  refine L1g (t := 21) (b := false) rfl (by decide) rfl (mv (v := .int _ _) rfl) ?_
  refine L1g (t := 21) (b := false) rfl (by decide) rfl (mv (v := .pointer _) rfl) ?_
  refine L1g (t := 21) (b := false) rfl (by decide) rfl (nilP rfl) ?_
  refine L1g (t := 21) (b := false) rfl (by decide) rfl (fd90_0 rfl) ?_
  refine L1g (t := 21) (b := false) rfl (by decide) rfl (ld22 rfl (hW.F.cellv (by decide) hD.hist)) ?_
  refine L1g (t := 21) (b := false) rfl (by decide) rfl (ln und22 rfl) ?_
  refine L1g (t := 21) (b := false) rfl (by decide) rfl (bi rfl rfl (bn_gtr (v := true) (decide_eq_true (by omega)))) ?_
  refine L1 (pk_f rfl rfl) ?_
  refine wpList_nil ?_
  refine then_n ?_
  refine cond_t rfl ?_
  refine wp_seq ?_
  -- region 4
  refine reg_lit ?_
  refine L1 (asg (v := .int _ _) rfl) ?_
  refine wpList_nil ?_
  refine then_n ?_
  refine wp_ret ?_
  refine then_r ?_
  refine ret1 rfl rfl ?_
  exact ⟨_, rfl, rfl, hW, kp⟩
theorem tw_yes (E : Env) (w : World) (g hs bs cs : Nat → Value) (pos wr rd d n : Nat) (full : Bool) (out : List Nat) (hE : E.Ok) (hW : Wd E w g hs bs cs pos) (hD : DD E g wr rd full) (hV : Win out hs) (hw : wr = out.length % 32768) (hd : 0 < d) (hd2 : d ≤ out.length) (hd3 : d ≤ 32768) (hn : n ≤ 258) (hdw : d ≤ wr) (hfit : wr + n ≤ 32768) :
    Ret 59 [ddp E, .int .i64 (d : Int), .int .i64 (n : Int)] w fun v w' => v = .int .i64 (n : Int) ∧ ∃ g' hs', Wd E w' g' hs' bs cs pos ∧ Win (lz out d n) hs' ∧ g' 1038 = .int .i64 ((wr + n : Nat) : Int) ∧ Off [1038] g g' ∧ Kp E.L w w' := by
  have kp := Kp.refl E.L w
  have hwl : wr < 32768 := by omega
  obtain ⟨s0, hs0⟩ : ∃ s0, s0 = wr - d := ⟨_, rfl⟩
  obtain ⟨j0, hj0e⟩ : ∃ j0, j0 = 0 := ⟨_, rfl⟩
  have hjk : j0 ≤ n := by omega
  have hss : Value.int .i64 ((s0 : Nat) : Int) = .int .i64 ((s0 : Nat) : Int) := rfl
  have hsd : Value.int .i64 (wr : Int) = .int .i64 ((wr + j0 : Nat) : Int) := by rw [hj0e]; rfl
  have hV : Win (lz out d j0) hs := by rw [hj0e]; exact hV
  have hstep : ∀ j hs1 c, Win (lz out d j) hs1 → j0 ≤ j → (j - j0) % d = 0 → c ≤ d + (j - j0) → j + c ≤ n → Win (lz out d (j + c)) (cpg hs1 hs1 (wr + j) s0 c) := by
    intro j hs1 c hV1 _ hdv hc hjc
    refine win_step hd hd2 hd3 hw hV1 (by omega) (by omega) (fun i hi => ?_)
    rw [hs0, win_src hd hd2 hw hV1 (by omega) (by omega) (by omega), mod_add_mul (by rwa [hj0e, Nat.sub_zero] at hdv)]
  refine calls_fr (N := 61) Tryd.func59 rfl rfl (by simp [ddp]) rfl ?_
  refine wp_seq ?_
  -- region 0
  refine reg_lit ?_
  refine L1 (asg (v := .int _ _) rfl) ?_
  refine wpList_nil ?_
  refine then_n ?_
  refine wp_seq ?_
  -- region 1
  refine reg_lit ?_
  refine L1 (mv (v := .pointer _) rfl) ?_
  refine L1 (nilP rfl) ?_
  refine L1 (fd90_1 rfl) ?_
  refine L1 (ld3 rfl (hW.F.cellv (by decide) hD.wr)) ?_
  refine L1 (asg (v := .int _ _) rfl) ?_
  refine wpList_nil ?_
  refine then_n ?_
  refine wp_seq ?_
  -- region 2
  refine reg_lit ?_
  refine L1 (mv (v := .int _ _) rfl) ?_
  refine L1 (mv (v := .int _ _) rfl) ?_
  refine L1 (bi rfl rfl (bn_add (c := ((wr + n : Nat) : Int)) (by omega) (by omega) (by omega))) ?_
  refine L1 (asg (v := .int _ _) rfl) ?_
  refine wpList_nil ?_
  refine then_n ?_
  refine wp_seq ?_
  refine wp_seq ?_
  -- region 3
  refine reg_lit ?_
  refine L1 (mv (v := .int _ _) rfl) ?_
  refine L1 (mv (v := .int _ _) rfl) ?_
  refine L1 (bi rfl rfl (bn_lss (v := false) (decide_eq_false (by omega)))) ?_
  refine L1 (mv (v := .bool _) rfl) ?_
  refine L1g (t := 21) (b := false) rfl (by decide) rfl (mv (v := .int _ _) rfl) ?_
  refine L1g (t := 21) (b := false) rfl (by decide) rfl (mv (v := .pointer _) rfl) ?_
  refine L1g (t := 21) (b := false) rfl (by decide) rfl (nilP rfl) ?_
  refine L1g (t := 21) (b := false) rfl (by decide) rfl (fd90_0 rfl) ?_
  refine L1g (t := 21) (b := false) rfl (by decide) rfl (ld22 rfl (hW.F.cellv (by decide) hD.hist)) ?_
  refine L1g (t := 21) (b := false) rfl (by decide) rfl (ln und22 rfl) ?_
  refine L1g (t := 21) (b := false) rfl (by decide) rfl (bi rfl rfl (bn_gtr (v := false) (decide_eq_false (by omega)))) ?_
  refine L1 (pk_f rfl rfl) ?_
  refine wpList_nil ?_
  refine then_n ?_
  refine cond_f rfl ?_
  refine wp_skip ?_
  refine then_n ?_
  refine wp_seq ?_
  -- region 5
  refine reg_lit ?_
  refine L1 (mv (v := .int _ _) rfl) ?_
  refine L1 (asg (v := .int _ _) rfl) ?_
  refine wpList_nil ?_
  refine then_n ?_
  refine wp_seq ?_
  -- region 6
  refine reg_lit ?_
  refine L1 (mv (v := .int _ _) rfl) ?_
  refine L1 (mv (v := .int _ _) rfl) ?_
  refine L1 (bi rfl rfl (bn_sub (c := ((s0 : Nat) : Int)) (by omega) (by omega) (by omega))) ?_
  refine L1 (asg (v := .int _ _) rfl) ?_
  refine wpList_nil ?_
  refine then_n ?_
  refine wp_seq ?_
  refine wp_block ?_
  refine loop_fr (fun m f w' => f 0 = ddp E ∧ f 10 = .int .i64 ((s0 : Nat) : Int) ∧ f 8 = .int .i64 ((wr + n : Nat) : Int) ∧ f 9 = .int .i64 (wr : Int) ∧ ∃ j hs', m = n - j ∧ j0 ≤ j ∧ j ≤ n ∧ f 7 = .int .i64 ((wr + j : Nat) : Int) ∧ Wd E w' g hs' bs cs pos ∧ Win (lz out d j) hs' ∧ Kp E.L w w' ∧ (j = n ∨ (j - j0) % d = 0)) (n - j0) ⟨rfl, hss, rfl, rfl, j0, _, rfl, Nat.le_refl _, hjk, hsd, hW, hV, kp, .inr (by simp)⟩ ?_
  clear hW hV kp
  intro m f w0 HJ
  obtain ⟨s0', ss, se, sr, j, hs1, rfl, hj0, hj, sd, hW, hV, kp, hmul⟩ := HJ
  refine slots (fc s0' (fc ss (fc se (fc sr (fc sd fnil))))) ?_
  refine wp_seq ?_
  refine wp_seq ?_
  -- region 7
  refine reg_lit ?_
  refine L1 (mv (v := .int _ _) rfl) ?_
  refine L1 (mv (v := .int _ _) rfl) ?_
  refine L1 (bi rfl rfl (bn_lss (v := decide (j < n)) (decide_eq_decide.2 (by omega)))) ?_
  refine wpList_nil ?_
  refine then_n ?_
  refine cond_d (p := j < n) rfl (fun hlt => ?_) (fun hlt => ?_)
  · skip
    have hdv : (j - j0) % d = 0 := by rcases hmul with h | h; exact absurd h (by omega); exact h
    have hmin : min (d + (j - j0)) (n - j) ≤ d + (j - j0) := Nat.min_le_left _ _
    have hmin2 : min (d + (j - j0)) (n - j) ≤ n - j := Nat.min_le_right _ _
    have hD0 : Bk w0.drew E.F 1054 95 g := hW.F.drew
    refine wp_skip ?_
    refine then_n ?_
    refine wp_block ?_
    -- region 8 (its order is open)
    refine reg_mix [false, false, false, false, false, false, false, false, false, false, false, false, false, false, false, true, true, true] (fun w => Bk w E.F 1054 95 g) mixed (by kernel_rfl) ?_ ?_
    · exact hD0
    have hW := hW.drew
    have kp := kp.drew
    refine T1 (fun w hC => mv (v := .int _ _) rfl) ?_
    refine T1 (fun w hC => mv (v := .pointer _) rfl) ?_
    refine T1 (fun w hC => nilP rfl) ?_
    refine T1 (fun w hC => fd90_0 rfl) ?_
    refine T1 (fun w hC => ld22 rfl (hC.cellv (by decide) hD.hist)) ?_
    refine T1 (fun w hC => mv (v := .int _ _) rfl) ?_
    refine T1 (fun w hC => mv (v := .int _ _) rfl) ?_
    refine T1 (fun w hC => (slb_lh und22 sz5 rfl rfl rfl (l := wr + j) (h := wr + n) rfl rfl (by omega) (by omega) (by omega)).trans (by rw [Nat.zero_add, show wr + n - (wr + j) = n - j by omega])) ?_
    refine T1 (fun w hC => mv (v := .pointer _) rfl) ?_
    refine T1 (fun w hC => nilP rfl) ?_
    refine T1 (fun w hC => fd90_0 rfl) ?_
    refine T1 (fun w hC => ld22 rfl (hC.cellv (by decide) hD.hist)) ?_
    refine T1 (fun w hC => mv (v := .int _ _) rfl) ?_
    refine T1 (fun w hC => mv (v := .int _ _) rfl) ?_
    refine T1 (fun w hC => (slb_lh und22 sz5 rfl rfl rfl (l := s0) (h := wr + j) rfl rfl (by omega) (by omega) (by omega)).trans (by rw [Nat.zero_add, show wr + j - s0 = d + (j - j0) by omega])) ?_
    refine Ecp (b := E.H) (o := wr + j) (dl := n - j) (b2 := E.H) (o2 := s0) (sl := d + (j - j0)) rfl rfl hW.H hW.H (by omega) (by omega) (fun i hi => by obtain ⟨cc, _, hcc⟩ := hV.byte (s0 + i) (by omega); rw [hcc]; rfl) ?_
    intro w1 hH1 kp1
    refine ⟨hD0.kp kp1 (by simp; exact hE.FH), ?_⟩
    have hW := hW.setH hE hH1 kp1
    have kp := kp.H kp1
    refine E1 (bi rfl rfl (bn_add (c := ((wr + (j + min (d + (j - j0)) (n - j)) : Nat) : Int)) (by omega) (by omega) (by omega))) (hD0.kp kp1 (by simp; exact hE.FH)) ?_
    refine E1 (asg (v := .int _ _) rfl) (hD0.kp kp1 (by simp; exact hE.FH)) ?_
    refine mix_nil ?_
    refine inb_n ?_
    refine then_n ?_
    refine ⟨n - (j + min (d + (j - j0)) (n - j)), _, by omega, rfl, rfl, rfl, rfl, rfl, j + min (d + (j - j0)) (n - j), _, rfl, by omega, by omega, rfl, hW, ?_, kp, ?_⟩
    · exact hstep j hs1 (min (d + (j - j0)) (n - j)) hV hj0 hdv hmin (by omega)
    · by_cases hx : n - j ≤ d + (j - j0)
      · exact .inl (by rw [Nat.min_eq_right hx]; omega)
      · refine .inr ?_
        rw [Nat.min_eq_left (by omega), show j + (d + (j - j0)) - j0 = (j - j0) + (d + (j - j0)) by omega, mod_add_mul hdv, Nat.add_mod, Nat.mod_self, Nat.zero_add, Nat.mod_mod]
        exact hdv
  · skip
    obtain rfl : n = j := by omega
    refine wp_exit ?_
    refine then_e ?_
    refine then_e ?_
    refine inb_same ?_
    refine then_n ?_
    refine wp_seq ?_
    -- region 9
    refine reg_lit ?_
    refine L1 (mv (v := .pointer _) rfl) ?_
    refine L1 (mv (v := .int _ _) rfl) ?_
    refine L1 (nilP rfl) ?_
    refine L1 (fd90_1 rfl) ?_
    refine Lst3 (v := .int _ _) rfl rfl rfl hW.F (by decide) ?_
    intro w1 hb1 kp1
    have hW := hW.setF hE hb1 kp1
    have kp := kp.F kp1
    clear hb1 kp1
    refine wpList_nil ?_
    refine then_n ?_
    refine wp_seq ?_
    -- region 10
    refine reg_lit ?_
    refine L1 (mv (v := .int _ _) rfl) ?_
    refine L1 (mv (v := .int _ _) rfl) ?_
    refine L1 (bi rfl rfl (bn_sub (c := (n : Int)) (by omega) (by omega) (by omega))) ?_
    refine L1 (asg (v := .int _ _) rfl) ?_
    refine wpList_nil ?_
    refine then_n ?_
    refine wp_ret ?_
    refine ret1 rfl rfl ?_
    exact ⟨_, rfl, rfl, _, _, hW, hV, rfl, (Off.refl _ g).upd (by simp) _, kp⟩
theorem wc_s (E : Env) (w : World) (g hs bs cs : Nat → Value) (pos wr rd d n : Nat) (full : Bool) (out : List Nat) (hE : E.Ok) (hW : Wd E w g hs bs cs pos) (hD : DD E g wr rd full) (hV : Win out hs) (hw : wr = out.length % 32768) (hd : 0 < d) (hd2 : d ≤ out.length) (hd3 : d ≤ 32768) (hn : n ≤ 258) (hdw : d ≤ wr) :
    Ret 60 [ddp E, .int .i64 (d : Int), .int .i64 (n : Int)] w fun v w' => v = .int .i64 ((min n (32768 - wr) : Nat) : Int) ∧ ∃ g' hs', Wd E w' g' hs' bs cs pos ∧ Win (lz out d (min n (32768 - wr))) hs' ∧ g' 1038 = .int .i64 ((wr + min n (32768 - wr) : Nat) : Int) ∧ Off [1038] g g' ∧ Kp E.L w w' := by
  have kp := Kp.refl E.L w
  have hwl : wr < 32768 := by omega
  obtain ⟨k, hk⟩ : ∃ k, k = min n (32768 - wr) := ⟨_, rfl⟩
  obtain ⟨s0, hs0⟩ : ∃ s0, s0 = wr - d := ⟨_, rfl⟩
  obtain ⟨j0, hj0e⟩ : ∃ j0, j0 = 0 := ⟨_, rfl⟩
  have hjk : j0 ≤ k := by omega
  have hss : Value.int .i64 ((wr : Int) - (d : Int)) = .int .i64 ((s0 : Nat) : Int) := congrArg (Value.int .i64) (by omega)
  have hsd : Value.int .i64 (wr : Int) = .int .i64 ((wr + j0 : Nat) : Int) := by rw [hj0e]; rfl
  have hV : Win (lz out d j0) hs := by rw [hj0e]; exact hV
  have hstep : ∀ j hs1 c, Win (lz out d j) hs1 → j0 ≤ j → (j - j0) % d = 0 → c ≤ d + (j - j0) → j + c ≤ k → Win (lz out d (j + c)) (cpg hs1 hs1 (wr + j) s0 c) := by
    intro j hs1 c hV1 hj0 hdv hc hjc
    refine win_step hd hd2 hd3 hw hV1 (by omega) (by omega) (fun i hi => ?_)
    rw [hs0, win_src hd hd2 hw hV1 (by omega) (by omega) (by omega), mod_add_mul (by rwa [hj0e, Nat.sub_zero] at hdv)]
  refine calls_fr (N := 80) Tryd.func60 rfl rfl (by simp [ddp]) rfl ?_
  refine wp_seq ?_
  -- region 0
  refine reg_lit ?_
  refine L1 (asg (v := .int _ _) rfl) ?_
  refine wpList_nil ?_
  refine then_n ?_
  refine wp_seq ?_
  -- region 1
  refine reg_lit ?_
  refine L1 (mv (v := .pointer _) rfl) ?_
  refine L1 (nilP rfl) ?_
  refine L1 (fd90_1 rfl) ?_
  refine L1 (ld3 rfl (hW.F.cellv (by decide) hD.wr)) ?_
  refine L1 (asg (v := .int _ _) rfl) ?_
  refine wpList_nil ?_
  refine then_n ?_
  refine wp_seq ?_
  -- region 2
  refine reg_lit ?_
  refine L1 (mv (v := .int _ _) rfl) ?_
  refine L1 (asg (v := .int _ _) rfl) ?_
  refine wpList_nil ?_
  refine then_n ?_
  refine wp_seq ?_
  -- region 3
  refine reg_lit ?_
  refine L1 (mv (v := .int _ _) rfl) ?_
  refine L1 (mv (v := .int _ _) rfl) ?_
  refine L1 (bi rfl rfl (bn_sub (c := (wr : Int) - (d : Int)) rfl (by omega) (by omega))) ?_
  refine L1 (asg (v := .int _ _) rfl) ?_
  refine wpList_nil ?_
  refine then_n ?_
  refine wp_seq ?_
  -- region 4
  refine reg_lit ?_
  refine L1 (mv (v := .int _ _) rfl) ?_
  refine L1 (mv (v := .int _ _) rfl) ?_
  refine L1 (bi rfl rfl (bn_add (c := ((wr + n : Nat) : Int)) (by omega) (by omega) (by omega))) ?_
  refine L1 (mv (v := .pointer _) rfl) ?_
  refine L1 (nilP rfl) ?_
  refine L1 (fd90_0 rfl) ?_
  refine L1 (ld22 rfl (hW.F.cellv (by decide) hD.hist)) ?_
  refine L1 (ln und22 rfl) ?_
  refine L1 ((bmin rfl rfl).trans (by rw [show min (wr + n) 32768 = wr + k by omega])) ?_
  refine L1 (asg (v := .int _ _) rfl) ?_
  refine wpList_nil ?_
  refine then_n ?_
  refine wp_seq ?_
  refine wp_seq ?_
  -- region 5
  refine reg_lit ?_
  refine L1 (mv (v := .int _ _) rfl) ?_
  refine L1 (bi rfl rfl (bn_lss (v := false) (decide_eq_false (by omega)))) ?_
  refine wpList_nil ?_
  refine then_n ?_
  refine cond_f rfl ?_
  refine wp_skip ?_
  refine then_n ?_
  refine wp_seq ?_
  refine wp_block ?_
  refine loop_fr (fun m f w' => f 0 = ddp E ∧ f 9 = .int .i64 ((s0 : Nat) : Int) ∧ f 10 = .int .i64 ((wr + k : Nat) : Int) ∧ f 7 = .int .i64 (wr : Int) ∧ ∃ j hs', m = k - j ∧ j0 ≤ j ∧ j ≤ k ∧ f 8 = .int .i64 ((wr + j : Nat) : Int) ∧ Wd E w' g hs' bs cs pos ∧ Win (lz out d j) hs' ∧ Kp E.L w w' ∧ (j = k ∨ (j - j0) % d = 0)) (k - j0) ⟨rfl, hss, rfl, rfl, j0, _, rfl, Nat.le_refl _, hjk, hsd, hW, hV, kp, .inr (by simp)⟩ ?_
  clear hW hV kp
  intro m f w0 HJ
  obtain ⟨s0', ss, se, sr, j, hs1, rfl, hj0, hj, sd, hW, hV, kp, hmul⟩ := HJ
  refine slots (fc s0' (fc ss (fc se (fc sr (fc sd fnil))))) ?_
  refine wp_seq ?_
  refine wp_seq ?_
  -- region 9
  refine reg_lit ?_
  refine L1 (mv (v := .int _ _) rfl) ?_
  refine L1 (mv (v := .int _ _) rfl) ?_
  refine L1 (bi rfl rfl (bn_lss (v := decide (j < k)) (decide_eq_decide.2 (by omega)))) ?_
  refine wpList_nil ?_
  refine then_n ?_
  refine cond_d (p := j < k) rfl (fun hlt => ?_) (fun hlt => ?_)
  · skip
    have hdv : (j - j0) % d = 0 := by rcases hmul with h | h; exact absurd h (by omega); exact h
    have hmin : min (d + (j - j0)) (k - j) ≤ d + (j - j0) := Nat.min_le_left _ _
    have hmin2 : min (d + (j - j0)) (k - j) ≤ k - j := Nat.min_le_right _ _
    have hD0 : Bk w0.drew E.F 1054 95 g := hW.F.drew
    refine wp_skip ?_
    refine then_n ?_
    refine wp_block ?_
    -- region 10 (its order is open)
    refine reg_mix [false, false, false, false, false, false, false, false, false, false, false, false, false, false, false, true, true, true] (fun w => Bk w E.F 1054 95 g) mixed (by kernel_rfl) ?_ ?_
    · exact hD0
    have hW := hW.drew
    have kp := kp.drew
    refine T1 (fun w hC => mv (v := .int _ _) rfl) ?_
    refine T1 (fun w hC => mv (v := .pointer _) rfl) ?_
    refine T1 (fun w hC => nilP rfl) ?_
    refine T1 (fun w hC => fd90_0 rfl) ?_
    refine T1 (fun w hC => ld22 rfl (hC.cellv (by decide) hD.hist)) ?_
    refine T1 (fun w hC => mv (v := .int _ _) rfl) ?_
    refine T1 (fun w hC => mv (v := .int _ _) rfl) ?_
    refine T1 (fun w hC => (slb_lh und22 sz5 rfl rfl rfl (l := wr + j) (h := wr + k) rfl rfl (by omega) (by omega) (by omega)).trans (by rw [Nat.zero_add, show wr + k - (wr + j) = k - j by omega])) ?_
    refine T1 (fun w hC => mv (v := .pointer _) rfl) ?_
    refine T1 (fun w hC => nilP rfl) ?_
    refine T1 (fun w hC => fd90_0 rfl) ?_
    refine T1 (fun w hC => ld22 rfl (hC.cellv (by decide) hD.hist)) ?_
    refine T1 (fun w hC => mv (v := .int _ _) rfl) ?_
    refine T1 (fun w hC => mv (v := .int _ _) rfl) ?_
    refine T1 (fun w hC => (slb_lh und22 sz5 rfl rfl rfl (l := s0) (h := wr + j) rfl rfl (by omega) (by omega) (by omega)).trans (by rw [Nat.zero_add, show wr + j - s0 = d + (j - j0) by omega])) ?_
    refine Ecp (b := E.H) (o := wr + j) (dl := k - j) (b2 := E.H) (o2 := s0) (sl := d + (j - j0)) rfl rfl hW.H hW.H (by omega) (by omega) (fun i hi => by obtain ⟨cc, _, hcc⟩ := hV.byte (s0 + i) (by omega); rw [hcc]; rfl) ?_
    intro w1 hH1 kp1
    refine ⟨hD0.kp kp1 (by simp; exact hE.FH), ?_⟩
    have hW := hW.setH hE hH1 kp1
    have kp := kp.H kp1
    refine E1 (bi rfl rfl (bn_add (c := ((wr + (j + min (d + (j - j0)) (k - j)) : Nat) : Int)) (by omega) (by omega) (by omega))) (hD0.kp kp1 (by simp; exact hE.FH)) ?_
    refine E1 (asg (v := .int _ _) rfl) (hD0.kp kp1 (by simp; exact hE.FH)) ?_
    refine mix_nil ?_
    refine inb_n ?_
    refine then_n ?_
    refine ⟨k - (j + min (d + (j - j0)) (k - j)), _, by omega, rfl, rfl, rfl, rfl, rfl, j + min (d + (j - j0)) (k - j), _, rfl, by omega, by omega, rfl, hW, ?_, kp, ?_⟩
    · exact hstep j hs1 (min (d + (j - j0)) (k - j)) hV hj0 hdv hmin (by omega)
    · by_cases hx : k - j ≤ d + (j - j0)
      · exact .inl (by rw [Nat.min_eq_right hx]; omega)
      · refine .inr ?_
        rw [Nat.min_eq_left (by omega), show j + (d + (j - j0)) - j0 = (j - j0) + (d + (j - j0)) by omega, mod_add_mul hdv, Nat.add_mod, Nat.mod_self, Nat.zero_add, Nat.mod_mod]
        exact hdv
  · skip
    obtain rfl : k = j := by omega
    refine wp_exit ?_
    refine then_e ?_
    refine then_e ?_
    refine inb_same ?_
    refine then_n ?_
    refine wp_seq ?_
    -- region 11
    refine reg_lit ?_
    refine L1 (mv (v := .pointer _) rfl) ?_
    refine L1 (mv (v := .int _ _) rfl) ?_
    refine L1 (nilP rfl) ?_
    refine L1 (fd90_1 rfl) ?_
    refine Lst3 (v := .int _ _) rfl rfl rfl hW.F (by decide) ?_
    intro w1 hb1 kp1
    have hW := hW.setF hE hb1 kp1
    have kp := kp.F kp1
    clear hb1 kp1
    refine wpList_nil ?_
    refine then_n ?_
    refine wp_seq ?_
    -- region 12
    refine reg_lit ?_
    refine L1 (mv (v := .int _ _) rfl) ?_
    refine L1 (mv (v := .int _ _) rfl) ?_
    refine L1 (bi rfl rfl (bn_sub (c := (k : Int)) (by omega) (by omega) (by omega))) ?_
    refine L1 (asg (v := .int _ _) rfl) ?_
    refine wpList_nil ?_
    refine then_n ?_
    refine wp_ret ?_
    refine ret1 rfl rfl ?_
    rw [← hk]
    exact ⟨_, rfl, rfl, _, _, hW, hV, rfl, (Off.refl _ g).upd (by simp) _, kp⟩
theorem wc_w (E : Env) (w : World) (g hs bs cs : Nat → Value) (pos wr rd d n : Nat) (full : Bool) (out : List Nat) (hE : E.Ok) (hW : Wd E w g hs bs cs pos) (hD : DD E g wr rd full) (hV : Win out hs) (hw : wr = out.length % 32768) (hd : 0 < d) (hd2 : d ≤ out.length) (hd3 : d ≤ 32768) (hn : n ≤ 258) (hdw : wr < d) :
    Ret 60 [ddp E, .int .i64 (d : Int), .int .i64 (n : Int)] w fun v w' => v = .int .i64 ((min n (32768 - wr) : Nat) : Int) ∧ ∃ g' hs', Wd E w' g' hs' bs cs pos ∧ Win (lz out d (min n (32768 - wr))) hs' ∧ g' 1038 = .int .i64 ((wr + min n (32768 - wr) : Nat) : Int) ∧ Off [1038] g g' ∧ Kp E.L w w' := by
  have kp := Kp.refl E.L w
  have hwl : wr < 32768 := by omega
  obtain ⟨k, hk⟩ : ∃ k, k = min n (32768 - wr) := ⟨_, rfl⟩
  obtain ⟨s0, hs0⟩ : ∃ s0, s0 = 0 := ⟨_, rfl⟩
  obtain ⟨j0, hj0e⟩ : ∃ j0, min (d - wr) k = j0 := ⟨_, rfl⟩
  have hjk : j0 ≤ k := by omega
  have hss : Value.int .i64 0 = .int .i64 ((s0 : Nat) : Int) := by rw [hs0]; rfl
  have hsd : Value.int .i64 ((wr + j0 : Nat) : Int) = .int .i64 ((wr + j0 : Nat) : Int) := rfl
  have hwin1 : Win (lz out d j0) (cpg hs hs wr (wr + 32768 - d) j0) := by
    have := win_step (j := 0) (c := j0) (s := wr + 32768 - d) hd hd2 hd3 hw hV (by omega) (by omega) (fun i hi => by rw [win_src3 hd2 hd3 hw hV (by omega) (by omega), Nat.zero_add, Nat.mod_eq_of_lt (by omega)])
    rwa [Nat.zero_add, Nat.add_zero] at this
  have hstep : ∀ j hs1 c, Win (lz out d j) hs1 → j0 ≤ j → (j - j0) % d = 0 → c ≤ d + (j - j0) → j + c ≤ k → Win (lz out d (j + c)) (cpg hs1 hs1 (wr + j) s0 c) := by
    intro j hs1 c hV1 hj0 hdv hc hjc
    by_cases hc0 : c = 0
    · subst hc0
      have e : cpg hs1 hs1 (wr + j) s0 0 = hs1 := by funext x; unfold cpg; rw [if_neg (by omega)]
      rw [e, Nat.add_zero]; exact hV1
    refine win_step hd hd2 hd3 hw hV1 (by omega) (by omega) (fun i hi => ?_)
    have hj0d : j0 = d - wr := by omega
    rw [hs0, Nat.zero_add, win_src2 hd hd2 hw hV1 (by omega) (by omega) (by omega), show j + i = (j - j0) + (d - wr + i) by omega, mod_add_mul hdv]
  refine calls_fr (N := 80) Tryd.func60 rfl rfl (by simp [ddp]) rfl ?_
  refine wp_seq ?_
  -- region 0
  refine reg_lit ?_
  refine L1 (asg (v := .int _ _) rfl) ?_
  refine wpList_nil ?_
  refine then_n ?_
  refine wp_seq ?_
  -- region 1
  refine reg_lit ?_
  refine L1 (mv (v := .pointer _) rfl) ?_
  refine L1 (nilP rfl) ?_
  refine L1 (fd90_1 rfl) ?_
  refine L1 (ld3 rfl (hW.F.cellv (by decide) hD.wr)) ?_
  refine L1 (asg (v := .int _ _) rfl) ?_
  refine wpList_nil ?_
  refine then_n ?_
  refine wp_seq ?_
  -- region 2
  refine reg_lit ?_
  refine L1 (mv (v := .int _ _) rfl) ?_
  refine L1 (asg (v := .int _ _) rfl) ?_
  refine wpList_nil ?_
  refine then_n ?_
  refine wp_seq ?_
  -- region 3
  refine reg_lit ?_
  refine L1 (mv (v := .int _ _) rfl) ?_
  refine L1 (mv (v := .int _ _) rfl) ?_
  refine L1 (bi rfl rfl (bn_sub (c := (wr : Int) - (d : Int)) rfl (by omega) (by omega))) ?_
  refine L1 (asg (v := .int _ _) rfl) ?_
  refine wpList_nil ?_
  refine then_n ?_
  refine wp_seq ?_
  -- region 4
  refine reg_lit ?_
  refine L1 (mv (v := .int _ _) rfl) ?_
  refine L1 (mv (v := .int _ _) rfl) ?_
  refine L1 (bi rfl rfl (bn_add (c := ((wr + n : Nat) : Int)) (by omega) (by omega) (by omega))) ?_
  refine L1 (mv (v := .pointer _) rfl) ?_
  refine L1 (nilP rfl) ?_
  refine L1 (fd90_0 rfl) ?_
  refine L1 (ld22 rfl (hW.F.cellv (by decide) hD.hist)) ?_
  refine L1 (ln und22 rfl) ?_
  refine L1 ((bmin rfl rfl).trans (by rw [show min (wr + n) 32768 = wr + k by omega])) ?_
  refine L1 (asg (v := .int _ _) rfl) ?_
  refine wpList_nil ?_
  refine then_n ?_
  refine wp_seq ?_
  refine wp_seq ?_
  -- region 5
  refine reg_lit ?_
  refine L1 (mv (v := .int _ _) rfl) ?_
  refine L1 (bi rfl rfl (bn_lss (v := true) (decide_eq_true (by omega)))) ?_
  refine wpList_nil ?_
  refine then_n ?_
  refine cond_t rfl ?_
  refine wp_seq ?_
  -- region 6
  refine reg_lit ?_
  refine L1 (mv (v := .int _ _) rfl) ?_
  refine L1 (mv (v := .pointer _) rfl) ?_
  refine L1 (nilP rfl) ?_
  refine L1 (fd90_0 rfl) ?_
  refine L1 (ld22 rfl (hW.F.cellv (by decide) hD.hist)) ?_
  refine L1 (ln und22 rfl) ?_
  refine L1 (bi rfl rfl (bn_add (c := ((wr + 32768 - d : Nat) : Int)) (by omega) (by omega) (by omega))) ?_
  refine L1 (asg (v := .int _ _) rfl) ?_
  refine wpList_nil ?_
  refine then_n ?_
  refine wp_seq ?_
  have hD0 := hW.F.drew
  -- region 7 (its order is open)
  refine reg_mix [false, false, false, false, false, false, false, false, false, false, false, false, false, false, true, true, true] (fun w => Bk w E.F 1054 95 g) mixed (by kernel_rfl) ?_ ?_
  · exact hD0
  have hW := hW.drew
  have kp := kp.drew
  refine T1 (fun w hC => mv (v := .int _ _) rfl) ?_
  refine T1 (fun w hC => mv (v := .pointer _) rfl) ?_
  refine T1 (fun w hC => nilP rfl) ?_
  refine T1 (fun w hC => fd90_0 rfl) ?_
  refine T1 (fun w hC => ld22 rfl (hC.cellv (by decide) hD.hist)) ?_
  refine T1 (fun w hC => mv (v := .int _ _) rfl) ?_
  refine T1 (fun w hC => mv (v := .int _ _) rfl) ?_
  refine T1 (fun w hC => (slb_lh und22 sz5 rfl rfl rfl (l := wr) (h := wr + k) rfl rfl (by omega) (by omega) (by omega)).trans (by rw [Nat.zero_add, show wr + k - wr = k by omega])) ?_
  refine T1 (fun w hC => mv (v := .pointer _) rfl) ?_
  refine T1 (fun w hC => nilP rfl) ?_
  refine T1 (fun w hC => fd90_0 rfl) ?_
  refine T1 (fun w hC => ld22 rfl (hC.cellv (by decide) hD.hist)) ?_
  refine T1 (fun w hC => mv (v := .int _ _) rfl) ?_
  refine T1 (fun w hC => (slb_l und22 sz5 rfl rfl (l := wr + 32768 - d) rfl (by omega) (by omega)).trans (by rw [Nat.zero_add, show 32768 - (wr + 32768 - d) = d - wr by omega])) ?_
  refine Ecp (b := E.H) (o := wr) (dl := k) (b2 := E.H) (o2 := wr + 32768 - d) (sl := d - wr) rfl rfl hW.H hW.H (by omega) (by omega) (fun i hi => by obtain ⟨cc, _, hcc⟩ := hV.byte (wr + 32768 - d + i) (by omega); rw [hcc]; rfl) ?_
  rw [hj0e]
  intro w1 hH1 kp1
  refine ⟨hD0.kp kp1 (by simp; exact hE.FH), ?_⟩
  have hW := hW.setH hE hH1 kp1
  have kp := kp.H kp1
  have hV : Win (lz out d j0) _ := hwin1
  refine E1 (bi rfl rfl (bn_add (c := ((wr + j0 : Nat) : Int)) (by omega) (by omega) (by omega))) (hD0.kp kp1 (by simp; exact hE.FH)) ?_
  refine E1 (asg (v := .int _ _) rfl) (hD0.kp kp1 (by simp; exact hE.FH)) ?_
  refine mix_nil ?_
  refine then_n ?_
  -- region 8
  refine reg_lit ?_
  refine L1 (asg (v := .int _ _) rfl) ?_
  refine wpList_nil ?_
  refine then_n ?_
  refine wp_seq ?_
  refine wp_block ?_
  refine loop_fr (fun m f w' => f 0 = ddp E ∧ f 9 = .int .i64 ((s0 : Nat) : Int) ∧ f 10 = .int .i64 ((wr + k : Nat) : Int) ∧ f 7 = .int .i64 (wr : Int) ∧ ∃ j hs', m = k - j ∧ j0 ≤ j ∧ j ≤ k ∧ f 8 = .int .i64 ((wr + j : Nat) : Int) ∧ Wd E w' g hs' bs cs pos ∧ Win (lz out d j) hs' ∧ Kp E.L w w' ∧ (j = k ∨ (j - j0) % d = 0)) (k - j0) ⟨rfl, hss, rfl, rfl, j0, _, rfl, Nat.le_refl _, hjk, hsd, hW, hV, kp, .inr (by simp)⟩ ?_
  clear hW hV kp
  intro m f w0 HJ
  obtain ⟨s0', ss, se, sr, j, hs1, rfl, hj0, hj, sd, hW, hV, kp, hmul⟩ := HJ
  refine slots (fc s0' (fc ss (fc se (fc sr (fc sd fnil))))) ?_
  refine wp_seq ?_
  refine wp_seq ?_
  -- region 9
  refine reg_lit ?_
  refine L1 (mv (v := .int _ _) rfl) ?_
  refine L1 (mv (v := .int _ _) rfl) ?_
  refine L1 (bi rfl rfl (bn_lss (v := decide (j < k)) (decide_eq_decide.2 (by omega)))) ?_
  refine wpList_nil ?_
  refine then_n ?_
  refine cond_d (p := j < k) rfl (fun hlt => ?_) (fun hlt => ?_)
  · skip
    have hdv : (j - j0) % d = 0 := by rcases hmul with h | h; exact absurd h (by omega); exact h
    have hmin : min (d + (j - j0)) (k - j) ≤ d + (j - j0) := Nat.min_le_left _ _
    have hmin2 : min (d + (j - j0)) (k - j) ≤ k - j := Nat.min_le_right _ _
    have hD0 : Bk w0.drew E.F 1054 95 g := hW.F.drew
    refine wp_skip ?_
    refine then_n ?_
    refine wp_block ?_
    -- region 10 (its order is open)
    refine reg_mix [false, false, false, false, false, false, false, false, false, false, false, false, false, false, false, true, true, true] (fun w => Bk w E.F 1054 95 g) mixed (by kernel_rfl) ?_ ?_
    · exact hD0
    have hW := hW.drew
    have kp := kp.drew
    refine T1 (fun w hC => mv (v := .int _ _) rfl) ?_
    refine T1 (fun w hC => mv (v := .pointer _) rfl) ?_
    refine T1 (fun w hC => nilP rfl) ?_
    refine T1 (fun w hC => fd90_0 rfl) ?_
    refine T1 (fun w hC => ld22 rfl (hC.cellv (by decide) hD.hist)) ?_
    refine T1 (fun w hC => mv (v := .int _ _) rfl) ?_
    refine T1 (fun w hC => mv (v := .int _ _) rfl) ?_
    refine T1 (fun w hC => (slb_lh und22 sz5 rfl rfl rfl (l := wr + j) (h := wr + k) rfl rfl (by omega) (by omega) (by omega)).trans (by rw [Nat.zero_add, show wr + k - (wr + j) = k - j by omega])) ?_
    refine T1 (fun w hC => mv (v := .pointer _) rfl) ?_
    refine T1 (fun w hC => nilP rfl) ?_
    refine T1 (fun w hC => fd90_0 rfl) ?_
    refine T1 (fun w hC => ld22 rfl (hC.cellv (by decide) hD.hist)) ?_
    refine T1 (fun w hC => mv (v := .int _ _) rfl) ?_
    refine T1 (fun w hC => mv (v := .int _ _) rfl) ?_
    refine T1 (fun w hC => (slb_lh und22 sz5 rfl rfl rfl (l := s0) (h := wr + j) rfl rfl (by omega) (by omega) (by omega)).trans (by rw [Nat.zero_add, show wr + j - s0 = d + (j - j0) by omega])) ?_
    refine Ecp (b := E.H) (o := wr + j) (dl := k - j) (b2 := E.H) (o2 := s0) (sl := d + (j - j0)) rfl rfl hW.H hW.H (by omega) (by omega) (fun i hi => by obtain ⟨cc, _, hcc⟩ := hV.byte (s0 + i) (by omega); rw [hcc]; rfl) ?_
    intro w1 hH1 kp1
    refine ⟨hD0.kp kp1 (by simp; exact hE.FH), ?_⟩
    have hW := hW.setH hE hH1 kp1
    have kp := kp.H kp1
    refine E1 (bi rfl rfl (bn_add (c := ((wr + (j + min (d + (j - j0)) (k - j)) : Nat) : Int)) (by omega) (by omega) (by omega))) (hD0.kp kp1 (by simp; exact hE.FH)) ?_
    refine E1 (asg (v := .int _ _) rfl) (hD0.kp kp1 (by simp; exact hE.FH)) ?_
    refine mix_nil ?_
    refine inb_n ?_
    refine then_n ?_
    refine ⟨k - (j + min (d + (j - j0)) (k - j)), _, by omega, rfl, rfl, rfl, rfl, rfl, j + min (d + (j - j0)) (k - j), _, rfl, by omega, by omega, rfl, hW, ?_, kp, ?_⟩
    · exact hstep j hs1 (min (d + (j - j0)) (k - j)) hV hj0 hdv hmin (by omega)
    · by_cases hx : k - j ≤ d + (j - j0)
      · exact .inl (by rw [Nat.min_eq_right hx]; omega)
      · refine .inr ?_
        rw [Nat.min_eq_left (by omega), show j + (d + (j - j0)) - j0 = (j - j0) + (d + (j - j0)) by omega, mod_add_mul hdv, Nat.add_mod, Nat.mod_self, Nat.zero_add, Nat.mod_mod]
        exact hdv
  · skip
    obtain rfl : k = j := by omega
    refine wp_exit ?_
    refine then_e ?_
    refine then_e ?_
    refine inb_same ?_
    refine then_n ?_
    refine wp_seq ?_
    -- region 11
    refine reg_lit ?_
    refine L1 (mv (v := .pointer _) rfl) ?_
    refine L1 (mv (v := .int _ _) rfl) ?_
    refine L1 (nilP rfl) ?_
    refine L1 (fd90_1 rfl) ?_
    refine Lst3 (v := .int _ _) rfl rfl rfl hW.F (by decide) ?_
    intro w1 hb1 kp1
    have hW := hW.setF hE hb1 kp1
    have kp := kp.F kp1
    clear hb1 kp1
    refine wpList_nil ?_
    refine then_n ?_
    refine wp_seq ?_
    -- region 12
    refine reg_lit ?_
    refine L1 (mv (v := .int _ _) rfl) ?_
    refine L1 (mv (v := .int _ _) rfl) ?_
    refine L1 (bi rfl rfl (bn_sub (c := (k : Int)) (by omega) (by omega) (by omega))) ?_
    refine L1 (asg (v := .int _ _) rfl) ?_
    refine wpList_nil ?_
    refine then_n ?_
    refine wp_ret ?_
    refine ret1 rfl rfl ?_
    rw [← hk]
    exact ⟨_, rfl, rfl, _, _, hW, hV, rfl, (Off.refl _ g).upd (by simp) _, kp⟩
end Go.Proofs.YtejeloeaklpinaaDoor

/- What the walk of huffmanBlock wants: a scope with labels, the machine's rounds one by one, the reader's state between them. -/
namespace Go.Proofs.YtejeloeaklpinaaDoor
/-- As Q; by a goto: what J says of its label. -/
def jumps (J : Nat → Act → World → Prop) (Q : Exit → Act → World → Prop) : Exit → Act → World → Prop
  | .goto l, a, w => J l a w
  | e, a, w => Q e a w
section
variable {P : Program} {a : Act} {w : World} {Q : Exit → Act → World → Prop} {J : Nat → Act → World → Prop}
theorem jmp_g {l : Nat} (h : J l a w) : jumps J Q (.goto l) a w := h
theorem jmp_r (h : Q .ret a w) : jumps J Q .ret a w := h
theorem jmp_n (h : Q .normal a w) : jumps J Q .normal a w := h
/-- A scope in which the run jumps to labels: what holds at each label with a number that each pass lowers. -/
theorem wp_scope_labels {c : Code} (J : Nat → Nat → Act → World → Prop)
    (first : c.wp P (jumps (fun l a w => ∃ n, J l n a w) Q) a w)
    (pass : ∀ l n a w, J l n a w → ∃ rest, findLabel c l = some rest ∧ rest.wp P (jumps (fun l' a' w' => ∃ n', n' < n ∧ J l' n' a' w') Q) a w) : (Code.scope c).wp P Q a w := by
  intro b k cs
  have key : ∀ n l a w, J l n a w → ∃ rest, findLabel c l = some rest ∧ ∃ e a' w', Q e a' w' ∧ Arrives P (lone (b.at a (.code rest :: .inScope c :: k)) cs w) b k cs e a' w' := by
    intro n
    induction n using Nat.strongRecOn with
    | _ n ih =>
      intro l a w hJ
      obtain ⟨rest, hf, hp⟩ := pass l n a w hJ
      refine ⟨rest, hf, ?_⟩
      obtain ⟨e, a₁, w₁, hq, harr⟩ := hp b (.inScope c :: k) cs
      cases e with
      | normal => exact ⟨.normal, a₁, w₁, hq, Go.Steps.trans harr (.one step_inScope)⟩
      | exit id => exact ⟨.exit id, a₁, w₁, hq, fun k' hk => harr k' (by simp [exitTo, hk])⟩
      | goto l' =>
        obtain ⟨n', hlt, hJ'⟩ := hq
        obtain ⟨rest', hf', e₂, a₂, w₂, hq₂, harr₂⟩ := ih n' hlt l' a₁ w₁ hJ'
        exact ⟨e₂, a₂, w₂, hq₂, .of_steps (harr _ (by simp [gotoIn, hf'])) harr₂⟩
      | ret => exact ⟨_, a₁, w₁, hq, harr⟩
      | panic ch => exact ⟨_, a₁, w₁, hq, harr⟩
      | outgrown => exact ⟨_, a₁, w₁, hq, harr⟩
  obtain ⟨e, a₁, w₁, hq, harr⟩ := first b (.inScope c :: k) cs
  cases e with
  | normal => exact ⟨.normal, a₁, w₁, hq, .head step_scope (Go.Steps.trans harr (.one step_inScope))⟩
  | exit id => exact ⟨.exit id, a₁, w₁, hq, fun k' hk => .head step_scope (harr k' (by simp [exitTo, hk]))⟩
  | goto l' =>
    obtain ⟨n', hJ'⟩ := hq
    obtain ⟨rest', hf', e₂, a₂, w₂, hq₂, harr₂⟩ := key n' l' a₁ w₁ hJ'
    exact ⟨e₂, a₂, w₂, hq₂, .of_steps (.head step_scope (harr _ (by simp [gotoIn, hf']))) harr₂⟩
  | ret => exact ⟨_, a₁, w₁, hq, .of_steps (.one step_scope) harr⟩
  | panic ch => exact ⟨_, a₁, w₁, hq, .of_steps (.one step_scope) harr⟩
  | outgrown => exact ⟨_, a₁, w₁, hq, .of_steps (.one step_scope) harr⟩
end

section
variable {S : Src} {a : A} {hl : Cd} {hd : Option Cd} {v p pos p2 pos2 len dist p3 pos3 : Nat}
theorem mic_huff {c : Option (Nat × Nat)} (h : a.md = .huff hl hd c) : mic S a = mHuff S a hl hd c := by unfold mic; rw [h]
theorem mh_short (h : getSym S hl a.p a.pos = .short) : mHuff S a hl hd none = (a.short S, true) := by simp only [mHuff, h]
theorem mh_bad (h : getSym S hl a.p a.pos = .bad p pos) : mHuff S a hl hd none = ({ a with p := p, pos := pos }.bad, true) := by simp only [mHuff, h]
theorem mh_litF (h : getSym S hl a.p a.pos = .ok v p pos) (hv : v < 256) (hf : (a.out.length + 1) % 32768 = 0) : mHuff S a hl hd none = ({ a with p := p, pos := pos, out := a.out ++ [v], md := .huff hl hd none }.flush, true) := by simp only [mHuff, h]; rw [if_pos hv, if_pos hf]
theorem mh_lit (h : getSym S hl a.p a.pos = .ok v p pos) (hv : v < 256) (hf : (a.out.length + 1) % 32768 ≠ 0) : mHuff S a hl hd none = ({ a with p := p, pos := pos, out := a.out ++ [v], md := .huff hl hd none }, false) := by simp only [mHuff, h]; rw [if_pos hv, if_neg hf]
theorem mh_eob (h : getSym S hl a.p a.pos = .ok 256 p pos) : mHuff S a hl hd none = ({ a with p := p, pos := pos }.finish, true) := by simp only [mHuff, h]; rw [if_neg (by decide), if_pos trivial]
theorem mh_len (h : getSym S hl a.p a.pos = .ok v p pos) (h1 : ¬ v < 256) (h2 : v ≠ 256) : mHuff S a hl hd none = (match getLen S v p pos with
        | .short => (a.short S, true)
        | .bad p pos => ({ a with p := p, pos := pos }.bad, true)
        | .ok len p pos => match getDist S hd p pos with
          | .short => (a.short S, true)
          | .bad p pos => ({ a with p := p, pos := pos }.bad, true)
          | .ok dist p pos => if min a.out.length 32768 < dist then ({ a with p := p, pos := pos }.bad, true)
            else ({ a with p := p, pos := pos, md := .huff hl hd (some (len, dist)) }, false)) := by
  simp only [mHuff, h]; rw [if_neg h1, if_neg h2]
  rfl
theorem getLen_bad (h : 286 ≤ v) : getLen S v p pos = .bad p pos := by unfold getLen; rw [if_pos h]
theorem getLen_0 (h : ¬ 286 ≤ v) (h0 : (lenOf v).2 = 0) : getLen S v p pos = .ok (lenOf v).1 p pos := by unfold getLen; rw [if_neg h, if_pos h0]
theorem getLen_n (h : ¬ 286 ≤ v) (h0 : (lenOf v).2 ≠ 0) (h1 : p + (lenOf v).2 ≤ 8 * S.N) : getLen S v p pos = .ok ((lenOf v).1 + bv S.D p (lenOf v).2) (p + (lenOf v).2) (rdTo p pos (lenOf v).2) := by unfold getLen getBits; rw [if_neg h, if_neg h0, if_pos h1]; rfl
theorem getLen_short (h : ¬ 286 ≤ v) (h0 : (lenOf v).2 ≠ 0) (h1 : 8 * S.N < p + (lenOf v).2) : getLen S v p pos = .short := by unfold getLen getBits; rw [if_neg h, if_neg h0, if_neg (by omega)]; rfl
theorem lenOf_le (h : ¬ v < 257) (h2 : ¬ 286 ≤ v) : (lenOf v).2 ≤ 5 ∧ 3 ≤ (lenOf v).1 ∧ (lenOf v).1 + 2 ^ (lenOf v).2 ≤ 259 := by
  have key : ∀ v, v < 286 → 257 ≤ v → (lenOf v).2 ≤ 5 ∧ 3 ≤ (lenOf v).1 ∧ (lenOf v).1 + 2 ^ (lenOf v).2 ≤ 259 := by decide +kernel
  exact key v (by omega) (by omega)
/-- The first half of a distance: its symbol. -/
def getDs (S : Src) (hd : Option Cd) (p pos : Nat) : Got := match hd with
    | none => (getBits S p pos 5).bind fun x p pos => .ok (rev 5 x) p pos
    | some c => getSym S c p pos
theorem getDist_eq (hd : Option Cd) (p pos : Nat) : getDist S hd p pos = (getDs S hd p pos).bind fun d p pos =>
      if d < 4 then .ok (d + 1) p pos
      else if d < 30 then (getBits S p pos ((d - 2) / 2)).bind fun x p pos => .ok (2 ^ ((d - 2) / 2 + 1) + 1 + (d % 2 * 2 ^ ((d - 2) / 2) + x)) p pos
      else .bad p pos := by
  unfold getDist getDs
  cases hd <;> rfl
theorem gd_short (h : getDs S hd p pos = .short) : getDist S hd p pos = .short := by rw [getDist_eq, h]; rfl
theorem gd_bad (h : getDs S hd p pos = .bad p2 pos2) : getDist S hd p pos = .bad p2 pos2 := by rw [getDist_eq, h]; rfl
theorem gd_small (h : getDs S hd p pos = .ok v p2 pos2) (hv : v < 4) : getDist S hd p pos = .ok (v + 1) p2 pos2 := by rw [getDist_eq, h]; simp only [Got.bind]; rw [if_pos hv]
theorem gd_big (h : getDs S hd p pos = .ok v p2 pos2) (hv : ¬ v < 30) : getDist S hd p pos = .bad p2 pos2 := by rw [getDist_eq, h]; simp only [Got.bind]; rw [if_neg (by omega), if_neg hv]
theorem gd_n (h : getDs S hd p pos = .ok v p2 pos2) (h4 : ¬ v < 4) (hv : v < 30) (h1 : p2 + (v - 2) / 2 ≤ 8 * S.N) : getDist S hd p pos = .ok (2 ^ ((v - 2) / 2 + 1) + 1 + (v % 2 * 2 ^ ((v - 2) / 2) + bv S.D p2 ((v - 2) / 2))) (p2 + (v - 2) / 2) (rdTo p2 pos2 ((v - 2) / 2)) := by
  rw [getDist_eq, h]; simp only [Got.bind]; rw [if_neg h4, if_pos hv]; unfold getBits; rw [if_pos h1]
theorem gd_ns (h : getDs S hd p pos = .ok v p2 pos2) (h4 : ¬ v < 4) (hv : v < 30) (h1 : 8 * S.N < p2 + (v - 2) / 2) : getDist S hd p pos = .short := by
  rw [getDist_eq, h]; simp only [Got.bind]; rw [if_neg h4, if_pos hv]; unfold getBits; rw [if_neg (by omega)]
theorem ds_none (h : p + 5 ≤ 8 * S.N) : getDs S none p pos = .ok (rev 5 (bv S.D p 5)) (p + 5) (rdTo p pos 5) := by unfold getDs getBits; rw [if_pos h]; rfl
theorem ds_nones (h : 8 * S.N < p + 5) : getDs S none p pos = .short := by unfold getDs getBits; rw [if_neg (by omega)]; rfl
theorem dist_le (h : v < 30) (x : Nat) (hx : x < 2 ^ ((v - 2) / 2)) : 2 ^ ((v - 2) / 2 + 1) + 1 + (v % 2 * 2 ^ ((v - 2) / 2) + x) ≤ 32768 := by
  have h1 : 2 ^ ((v - 2) / 2) ≤ 2 ^ 13 := Nat.pow_le_pow_right (by decide) (by omega)
  have h2 : v % 2 * 2 ^ ((v - 2) / 2) ≤ 1 * 2 ^ ((v - 2) / 2) := Nat.mul_le_mul_right _ (by omega)
  rw [Nat.pow_succ]
  omega
theorem mh_cpF (h : avail a.out ≤ len) : mHuff S a hl hd (some (len, dist)) = ({ a with out := lz a.out dist (avail a.out), md := .huff hl hd (some (len - avail a.out, dist)) }.flush, true) := by simp only [mHuff]; rw [if_pos h]
theorem mh_cp (h : ¬ avail a.out ≤ len) : mHuff S a hl hd (some (len, dist)) = ({ a with out := lz a.out dist len, md := .huff hl hd none }, false) := by simp only [mHuff]; rw [if_neg h]
end
theorem SymPost.cases {E : Env} {w w' : World} {g hs bs cs : Nat → Value} {r : Got} {v : Value} (h : SymPost E w g hs bs cs r v w') : ∃ (s : Nat) (ev : Value), v = .tuple #[.int .i64 (s : Int), ev] ∧ Kp E.L w w' ∧
    ((∃ p' pos' g', r = .ok s p' pos' ∧ ev = .nilIface ∧ Wd E w' g' hs bs cs pos' ∧ Bt E g' p' pos' ∧ Off [2, 3, 4] g g') ∨ (∃ g', r = .short ∧ ev = UEOFv E ∧ Wd E w' g' hs bs cs E.N ∧ Off [2, 3, 4] g g') ∨
     (∃ p' pos' g' x, r = .bad p' pos' ∧ ev = .iface 107 (.int .i64 x) ∧ Wd E w' g' hs bs cs pos' ∧ Off [2, 3, 4, 1048] g g')) := by
  obtain ⟨g', kp, h⟩ := h
  cases r with
  | ok s p' pos' => obtain ⟨rfl, h1, h2, h3⟩ := h; exact ⟨s, _, rfl, kp, .inl ⟨p', pos', g', rfl, rfl, h1, h2, h3⟩⟩
  | short => obtain ⟨rfl, h1, h2⟩ := h; exact ⟨0, _, rfl, kp, .inr (.inl ⟨g', rfl, rfl, h1, h2⟩)⟩
  | bad p' pos' => obtain ⟨⟨x, rfl⟩, h1, h2⟩ := h; exact ⟨0, _, rfl, kp, .inr (.inr ⟨p', pos', g', x, rfl, rfl, h1, h2⟩)⟩
theorem getSym_lt {S : Src} {c : Cd} (hc : LkOk c) {p pos v p' pos' : Nat} (h : getSym S c p pos = .ok v p' pos') : v < 512 := by
  unfold getSym at h
  simp only at h
  split at h
  · split at h <;> cases h
  · split at h
    · cases h; have := hc.small (S.D / 2 ^ p); omega
    · cases h
theorem HMode.l {E : Env} {w : World} {g : Nat → Value} {hl : Cd} {hd : Option Cd} (h : HMode E w g hl hd) : LkOk hl ∧ ∃ hb ho, g 1050 = .pointer (some ⟨hb, ho, none⟩) ∧ HAt E w g hb ho hl := by
  cases hd with
  | none => obtain ⟨h1, _, X, gx, h3, h4, h5, h6⟩ := h; exact ⟨h1, X, 0, h3, .inr ⟨h4, rfl, gx, h5, h6⟩⟩
  | some hd => obtain ⟨h1, _, h3, _, h5, _⟩ := h; exact ⟨h1, E.F, 5, h3, .inl ⟨rfl, .inl rfl, h5⟩⟩
theorem HMode.d {E : Env} {w : World} {g : Nat → Value} {hl hd : Cd} (h : HMode E w g hl (some hd)) : LkOk hd ∧ g 1051 = .pointer (some ⟨E.F, 520, none⟩) ∧ HAt E w g E.F 520 hd := by
  obtain ⟨_, h1, _, h4, _, h6⟩ := h; exact ⟨h1, h4, .inl ⟨rfl, .inr rfl, h6⟩⟩
theorem getD_app1 {xs ys : List Nat} {k : Nat} : (xs ++ ys).getD k 0 = if k < xs.length then xs.getD k 0 else ys.getD (k - xs.length) 0 := by
  split
  · rename_i h; rw [List.getD_eq_getElem?_getD, List.getElem?_append_left h, ← List.getD_eq_getElem?_getD]
  · rename_i h; rw [List.getD_eq_getElem?_getD, List.getElem?_append_right (by omega), ← List.getD_eq_getElem?_getD]
theorem win_push {out : List Nat} {hs : Nat → Value} {c wr : Nat} (h : Win out hs) (hw : wr = out.length % 32768) (hc : c < 256) : Win (out ++ [c]) (upd hs wr (.int .u8 (c : Int))) := by
  refine ⟨fun k hk => ?_, fun i hi hi2 => ?_, fun i hi => ?_⟩
  · unfold upd
    split
    · exact ⟨c, hc, rfl⟩
    · exact h.byte k hk
  · rw [List.length_append] at hi hi2
    simp only [List.length_singleton] at hi hi2
    rw [getD_app1]
    unfold upd
    by_cases h1 : i < out.length
    · rw [if_neg (by omega), if_pos h1]; exact h.last i h1 (by omega)
    · obtain rfl : i = out.length := by omega
      rw [if_pos hw.symm, if_neg (by omega)]
      simp
  · rw [List.length_append, List.length_singleton] at hi
    rw [getD_app1]
    split
    · rename_i h1; exact h.small i h1
    · obtain rfl : i = out.length := by omega
      simpa using hc
/-- The reader within a block with codes. -/
structure HS (E : Env) (w : World) (g hs bs cs : Nat → Value) (a : A) (hl : Cd) (hd : Option Cd) : Prop where
  C : Cr E w g hs bs cs a.pos a.out a.fl (a.out.length % 32768) a.e
  B : Bt E g a.p a.pos
  fin : g 1047 = .bool a.fin
  err : g 1048 = .nilIface
  M : HMode E w g hl hd
  ss : SS g
theorem HS.next {E : Env} {w w' : World} {g g' hs hs' bs cs : Nat → Value} {a b : A} {hl : Cd} {hd : Option Cd} {L : List Nat} (h : HS E w g hs bs cs a hl hd) (hW : Wd E w' g' hs' bs cs b.pos) (hB : Bt E g' b.p b.pos) (o : Off L g g') (hL : ∀ j, j ∈ L → j = 2 ∨ j = 3 ∨ j = 4 ∨ 1038 ≤ j) (hL2 : 1047 ∉ L ∧ 1048 ∉ L ∧ 1050 ∉ L ∧ 1051 ∉ L) (k : Kp E.L w w')
    (hV : Win b.out hs') (hD : Dw E g' b.out.length b.fl (b.out.length % 32768)) (hT : TR E g' b.e b.fl) (hss : SS g') (hf : b.fin = a.fin) : HS E w' g' hs' bs cs b hl hd := by
  have n : ∀ j, j ≠ 2 → j ≠ 3 → j ≠ 4 → j < 1038 → j ∉ L := fun j h2 h3 h4 h5 hm => by have := hL j hm; omega
  refine ⟨⟨hW, h.C.S.off o ⟨n _ ?_ ?_ ?_ ?_, n _ ?_ ?_ ?_ ?_, n _ ?_ ?_ ?_ ?_, n _ ?_ ?_ ?_ ?_, n _ ?_ ?_ ?_ ?_⟩, hV, hD, hT, HZ.offs h.C.Z o fun j hj => by have := hL j hj; omega⟩, hB, by rw [o _ hL2.1, h.fin, hf], (o _ hL2.2.1).trans h.err, h.M.keep k.X o (fun j hj => by have := hL j hj; omega) ⟨hL2.2.2.1, hL2.2.2.2⟩, hss⟩ <;> omega
theorem HS.rep {E : Env} {w : World} {g hs bs cs : Nat → Value} {a : A} {hl : Cd} {hd : Option Cd} (h : HS E w g hs bs cs a hl hd) (he : a.err = 0) (hm : Md E w g a.out a.md) (h45 : g 1045 = fnv (stepOf a.md)) (hsm : SSm g a.md) : Rep E w a :=
  ⟨g, hs, bs, cs, h.C, .inl ⟨he, h.err⟩, fun _ => ⟨⟨h.B, h.fin, h.err, hm⟩, h45, hsm⟩⟩
theorem rep_err {E : Env} {w w' : World} {g g' hs bs cs : Nat → Value} {a : A} {L : List Nat} {hl : Cd} {hd : Option Cd} (h : HS E w g hs bs cs a hl hd) (b : A) (hW : Wd E w' g' hs bs cs b.pos) (o : Off L g g') (hL : ∀ j, j ∈ L → j = 2 ∨ j = 3 ∨ j = 4 ∨ 1041 ≤ j ∧ j ≠ 1049) (ho : b.out = a.out) (hf : b.fl = a.fl) (he : b.e = a.e) (her : b.err ≠ 0) (hv : ErrV E b.err (g' 1048)) : Rep E w' b := by
  refine ⟨g', hs, bs, cs, ?_, hv, fun h0 => absurd h0 her⟩
  rw [ho, hf, he]
  exact h.C.off hW o hL
/-- A window as long as it may be. -/
theorem win_full {out : List Nat} {hs : Nat → Value} (h : Win out hs) : ∃ outX : List Nat, Win outX hs ∧ outX.length % 32768 = out.length % 32768 ∧ 32768 ≤ outX.length ∧ ∀ hs', Win outX hs' → Win out hs' := by
  have hb := h.byte
  have hex : ∃ vf : Nat → Nat, ∀ k, k < 32768 → vf k < 256 ∧ hs k = .int .u8 (vf k) := by
    refine ⟨fun k => if hk : k < 32768 then (hb k hk).choose else 0, fun k hk => ?_⟩
    simp only [dif_pos hk]
    exact (hb k hk).choose_spec
  obtain ⟨vf, hvf⟩ := hex
  have hlen : ((List.range (32768 + out.length % 32768)).map fun i => vf (i % 32768)).length = 32768 + out.length % 32768 := by simp
  have hget : ∀ i, i < 32768 + out.length % 32768 → ((List.range (32768 + out.length % 32768)).map fun i => vf (i % 32768)).getD i 0 = vf (i % 32768) := fun i hi => by
    rw [List.getD_eq_getElem?_getD, List.getElem?_map, List.getElem?_range hi]; rfl
  refine ⟨(List.range (32768 + out.length % 32768)).map fun i => vf (i % 32768), ⟨hb, fun i hi _ => ?_, fun i hi => ?_⟩, by rw [hlen]; omega, by rw [hlen]; omega, fun hs' h' => ?_⟩
  · rw [hlen] at hi
    rw [hget i hi]
    exact (hvf _ (Nat.mod_lt _ (by decide))).2
  · rw [hlen] at hi
    rw [hget i hi]
    exact (hvf _ (Nat.mod_lt _ (by decide))).1
  · have hsame : ∀ k, k < 32768 → hs' k = hs k := by
      intro k hk
      have hw := Nat.mod_lt out.length (show 32768 > 0 by decide)
      by_cases hkw : k < out.length % 32768
      · have := h'.last (32768 + k) (by rw [hlen]; omega) (by rw [hlen]; omega)
        rw [hget _ (by omega), show (32768 + k) % 32768 = k by omega] at this
        rw [this, (hvf k hk).2]
      · have := h'.last k (by rw [hlen]; omega) (by rw [hlen]; omega)
        rw [hget _ (by omega), Nat.mod_eq_of_lt hk] at this
        rw [this, (hvf k hk).2]
    exact ⟨h'.byte, fun i hi hi2 => by rw [hsame _ (Nat.mod_lt _ (by decide))]; exact h.last i hi hi2, h.small⟩
end Go.Proofs.YtejeloeaklpinaaDoor

/- What is read does not depend on how great the buffers are: the run of the machine without them. Plain lists and numbers. -/
namespace Go.Proofs.YtejeloeaklpinaaDoor
/-- What is told is only added to. -/
def Pre (a b : List Nat) : Prop := ∃ r, b = a ++ r
theorem Pre.refl (a : List Nat) : Pre a a := ⟨[], by simp⟩
theorem Pre.trans {a b c : List Nat} (h : Pre a b) (k : Pre b c) : Pre a c := by
  obtain ⟨r, rfl⟩ := h
  obtain ⟨s, rfl⟩ := k
  exact ⟨r ++ s, by simp⟩
theorem Pre.app (a r : List Nat) : Pre a (a ++ r) := ⟨r, rfl⟩
theorem Pre.len {a b : List Nat} (h : Pre a b) : a.length ≤ b.length := by obtain ⟨r, rfl⟩ := h; simp
theorem lz_pre (out : List Nat) (d : Nat) : ∀ k, Pre out (lz out d k)
  | 0 => Pre.refl _
  | k + 1 => (lz_pre out d k).trans ⟨_, rfl⟩
theorem finish_out (a : A) : a.finish.out = a.out := by unfold A.finish; split <;> rfl
theorem mDyn_out (S : Src) (a : A) : (mDyn S a).1.out = a.out := by
  unfold mDyn
  split
  · rfl
  · simp only
    split
    · rfl
    · split
      · rfl
      · split
        · rfl
        · split
          · rfl
          · rfl
          · split <;> rfl
theorem mStored_out (S : Src) (a : A) : (mStored S a).1.out = a.out := by
  unfold mStored
  split
  · rfl
  · split
    · rfl
    · split
      · show A.out (A.finish _) = _; rw [finish_out]; rfl
      · rfl
theorem mic_pre (S : Src) (a : A) : Pre a.out (mic S a).1.out := by
  unfold mic
  split
  · unfold mNext
    split
    · exact Pre.refl _
    · simp only
      split
      · rw [mStored_out]; exact Pre.refl _
      · split
        · exact Pre.refl _
        · split
          · rw [mDyn_out]; exact Pre.refl _
          · exact Pre.refl _
  · rename_i n _
    unfold mData
    split
    · exact Pre.app _ _
    · split
      · exact Pre.app _ _
      · show Pre _ (A.out (A.finish _)); rw [finish_out]; exact Pre.app _ _
  · rename_i hl hd c _
    cases c with
    | none =>
      simp only [mHuff]
      split
      · exact Pre.refl _
      · exact Pre.refl _
      · split
        · split
          · exact Pre.app _ _
          · exact Pre.app _ _
        · split
          · show Pre _ (A.out (A.finish _)); rw [finish_out]; exact Pre.refl _
          · split
            · exact Pre.refl _
            · exact Pre.refl _
            · split
              · exact Pre.refl _
              · exact Pre.refl _
              · split <;> exact Pre.refl _
    | some x =>
      obtain ⟨len, dist⟩ := x
      simp only [mHuff]
      split <;> exact lz_pre _ _ _
theorem Runs.pre {S : Src} {a b : A} (h : Runs S a b) : Pre a.out b.out := by
  induction h with
  | @stop a b h => have := mic_pre S a; rw [h] at this; exact this
  | @more a b c h _ ih => have := mic_pre S a; rw [h] at this; exact Pre.trans this ih
theorem late_out (a : A) : a.late.out = a.out := by unfold A.late; split <;> rfl
theorem late_e (a : A) : a.late.e = a.e := by unfold A.late; split <;> rfl
theorem late_err (a : A) : a.late.err = a.err := by unfold A.late; split <;> rfl
theorem late_pos (a : A) : a.late.pos = a.pos := by unfold A.late; split <;> rfl
theorem late_ge (a : A) (h : a.fl ≤ a.out.length) : a.fl ≤ a.late.fl := by unfold A.late; split; exact h; exact Nat.le_refl _
/-- The run to its end. -/
inductive Ch (S : Src) : A → A → Prop where
  | done {a : A} : a.err ≠ 0 → Ch S a { a with e := a.fl }
  | step {a b z : A} : a.err = 0 → Runs S { a with e := a.fl } b → Ch S b.late z → Ch S a z
theorem Ch.det {S : Src} {a y z : A} (h : Ch S a y) (k : Ch S a z) : y = z := by
  induction h with
  | done h => cases k with
    | done => rfl
    | step h2 => exact absurd h2 h
  | step h1 h2 _ ih => cases k with
    | done h => exact absurd h1 h
    | step _ k2 k3 => rw [h2.det k2] at ih; exact ih k3
theorem Ch.e {S : Src} {a z : A} {e : Nat} (h : Ch S { a with e := e } z) : Ch S a z := by
  cases h with
  | done h => exact .done (a := a) h
  | step h1 h2 h3 => exact .step (a := a) h1 h2 h3
/-- What holds at the end. -/
theorem Ch.fin {S : Src} {a z : A} (h : Ch S a z) : a.fl ≤ a.out.length → z.err ≠ 0 ∧ Pre a.out z.out ∧ a.fl ≤ z.fl ∧ z.fl ≤ z.out.length := by
  induction h with
  | done h => intro h0; exact ⟨h, Pre.refl _, Nat.le_refl _, h0⟩
  | @step a b z h1 h2 _ ih =>
    intro h0
    obtain ⟨g1, g2, g3, _, _⟩ := h2.goes h0
    obtain ⟨i1, i2, i3, i4⟩ := ih (late_fl _ g3)
    have := late_ge b g3
    rw [late_out] at i2
    exact ⟨i1, Pre.trans h2.pre i2, by show a.fl ≤ z.fl; have : a.fl ≤ b.fl := g2; omega, i4⟩
theorem A.eta_e {a : A} (h : a.e = a.fl) : ({ a with e := a.fl } : A) = a := by
  cases a
  cases h
  rfl
theorem Reads.ch {S : Src} {n : Nat} {a b : A} {k er : Nat} (h : Reads S n a k er b) : a.e ≤ a.fl → a.fl ≤ a.out.length →
    (∀ z, Ch S b z → Ch S a z) ∧ b.e = a.e + k ∧ b.e ≤ b.fl ∧ b.fl ≤ b.out.length ∧ (er ≠ 0 → b.e = b.fl ∧ b.err = er) ∧ (er = 0 → 0 < n → 0 < k) := by
  induction h with
  | @give a h =>
    intro h1 h2
    refine ⟨fun z hz => hz.e, rfl, by simp only; omega, h2, fun her => ?_, fun _ hn => by omega⟩
    split at her
    · rename_i hle; rw [if_pos hle]; exact ⟨by simp only; omega, rfl⟩
    · exact absurd rfl her
  | @done a h1 h2 => intro h3 h4; exact ⟨fun z hz => hz, by omega, h3, h4, fun _ => ⟨h1, rfl⟩, fun h => absurd h h2⟩
  | @step a b c k er h1 h2 hr _ ih =>
    intro h3 h4
    obtain ⟨g1, g2, g3, _, _⟩ := hr.goes h4
    have hl := late_ge b g3
    obtain ⟨i1, i2, i3, i4, i5, i6⟩ := ih (by rw [late_e]; omega) (late_fl _ g3)
    refine ⟨fun z hz => .step h2 ?_ (i1 z hz), by rw [i2, late_e, g1], i3, i4, i5, i6⟩
    rw [A.eta_e h1]
    exact hr
theorem take_more {b z : List Nat} (h : Pre b z) {e k f : Nat} (h1 : e + k ≤ b.length) (h2 : e + k ≤ f) : (b.drop e).take k ++ (z.drop (e + k)).take (f - (e + k)) = (z.drop e).take (f - e) := by
  obtain ⟨r, rfl⟩ := h
  have e1 : (b.drop e).take k = ((b ++ r).drop e).take k := by
    rw [List.drop_append_of_le_length (by omega), List.take_append_of_le_length (by rw [List.length_drop]; omega)]
  rw [e1, ← List.drop_drop, show f - e = k + (f - (e + k)) by omega, List.take_add]
theorem code_ne3 (er : Nat) : code er ≠ 3 := by unfold code; split; decide; split <;> decide
/-- What is drained is what the run tells. -/
theorem Dr.ch {S : Src} {szs : List Int} {i c : Nat} {a b : A} {acc r : List Nat} (h : Dr S szs i a acc r c b) : c ≠ 3 → a.e ≤ a.fl → a.fl ≤ a.out.length →
    ∃ z, Ch S a z ∧ c = code z.err ∧ b.pos = z.pos ∧ a.e ≤ z.fl ∧ r = acc ++ (z.out.drop a.e).take (z.fl - a.e) := by
  induction h with
  | stop => intro h; exact absurd rfl h
  | over => intro h; exact absurd rfl h
  | @fin i k er a a' acc h1 h2 h3 h0 =>
    intro _ h4 h5
    obtain ⟨g1, g2, g3, g4, g5, _⟩ := h2.ch h4 h5
    obtain ⟨g6, g7⟩ := g5 h0
    have hz : Ch S a' a' := by
      have := Ch.done (S := S) (a := a') (by rw [g7]; exact h0)
      rw [A.eta_e g6] at this
      exact this
    refine ⟨a', g1 _ hz, by rw [g7], rfl, by omega, ?_⟩
    rw [show a'.e - k = a.e by omega, show a'.fl - a.e = k by omega]
  | @next i k a a' b acc r c h1 h2 h3 _ ih =>
    intro hc h4 h5
    obtain ⟨g1, g2, g3, g4, _⟩ := h2.ch h4 h5
    obtain ⟨z, i1, i2, i3, i4, i5⟩ := ih hc g3 g4
    obtain ⟨_, j2, _, j4⟩ := i1.fin g4
    refine ⟨z, g1 _ i1, i2, i3, by omega, ?_⟩
    rw [i5, g2, List.append_assoc, show a.e + k - k = a.e by omega, take_more j2 (by omega) (by omega)]
theorem a0_e (dict : List Nat) : (A0 dict).e = (A0 dict).fl ∧ (A0 dict).fl = (A0 dict).out.length := ⟨rfl, rfl⟩
/-- What is read of a stream, whatever the buffers. -/
theorem InfR.det {data dict : List Nat} {szs szs' : List Int} {r r' : List Nat} {c c' left left' : Nat} (h : InfR data dict szs r c left) (h' : InfR data dict szs' r' c' left') (hc : c ≠ 3) (hc' : c' ≠ 3) : r = r' ∧ c = c' ∧ left = left' := by
  obtain ⟨a, hd, hl⟩ := h
  obtain ⟨a', hd', hl'⟩ := h'
  obtain ⟨z, z1, z2, z3, _, z5⟩ := hd.ch hc (Nat.le_refl _) (Nat.le_refl _)
  obtain ⟨z', y1, y2, y3, _, y5⟩ := hd'.ch hc' (Nat.le_refl _) (Nat.le_refl _)
  obtain rfl := z1.det y1
  exact ⟨by rw [z5, y5], by rw [z2, y2], by rw [hl, hl', z3, y3]⟩
/-- The same sizes: the same, stopped or not. -/
theorem Dr.det {S : Src} {szs : List Int} {i c c' : Nat} {a b b' : A} {acc r r' : List Nat} (h : Dr S szs i a acc r c b) (h' : Dr S szs i a acc r' c' b') : r = r' ∧ c = c' ∧ b = b' := by
  induction h with
  | stop h => cases h' with
    | stop => exact ⟨rfl, rfl, rfl⟩
    | over h1 => omega
    | fin h1 => omega
    | next h1 => omega
  | over h1 h2 h3 => cases h' with
    | stop h => omega
    | over k1 k2 k3 => obtain ⟨rfl, rfl, rfl⟩ := h2.det k2; exact ⟨rfl, rfl, rfl⟩
    | fin k1 k2 k3 => obtain ⟨rfl, rfl, rfl⟩ := h2.det k2; omega
    | next k1 k2 k3 => obtain ⟨rfl, rfl, rfl⟩ := h2.det k2; omega
  | fin h1 h2 h3 h4 => cases h' with
    | stop h => omega
    | over k1 k2 k3 => obtain ⟨rfl, rfl, rfl⟩ := h2.det k2; omega
    | fin k1 k2 k3 => obtain ⟨rfl, rfl, rfl⟩ := h2.det k2; exact ⟨rfl, rfl, rfl⟩
    | next k1 k2 k3 => obtain ⟨_, rfl, _⟩ := h2.det k2; exact absurd rfl h4
  | next h1 h2 h3 _ ih => cases h' with
    | stop h => omega
    | over k1 k2 k3 => obtain ⟨rfl, rfl, rfl⟩ := h2.det k2; omega
    | fin k1 k2 k3 k4 => obtain ⟨_, rfl, _⟩ := h2.det k2; exact absurd rfl k4
    | next k1 k2 k3 k4 => obtain ⟨rfl, _, rfl⟩ := h2.det k2; exact ih k4

/-- How much may be told: at most 129 bytes a bit. -/
def pend (a : A) : Nat := match a.md with
  | .huff _ _ (some (len, _)) => len
  | _ => 0
structure BI (S : Src) (base : Nat) (a : A) : Prop where
  q : qv a ≤ 8 * S.N
  o : a.out.length + pend a ≤ base + 129 * qv a
def BO (S : Src) (base : Nat) (a : A) : Prop := a.out.length ≤ base + 129 * (8 * S.N) ∧ (a.err = 0 → BI S base a)
theorem BI.bo {S : Src} {base : Nat} {a : A} (h : BI S base a) : BO S base a := ⟨by have := h.q; have := h.o; omega, fun _ => h⟩
theorem bo_err {S : Src} {base : Nat} {a b : A} (h : BI S base a) (ho : b.out.length ≤ a.out.length) (he : b.err ≠ 0) : BO S base b := ⟨by have := h.q; have := h.o; omega, fun h0 => absurd h0 he⟩
theorem bi_fin {S : Src} {base : Nat} {a : A} (h1 : a.p ≤ 8 * S.N) (h2 : a.out.length ≤ base + 129 * a.p) : BO S base a.finish := by
  unfold A.finish
  split
  · exact ⟨by show a.out.length ≤ _; omega, fun h => by cases h⟩
  · exact BI.bo ⟨h1, h2⟩
theorem getLen_ok2 {S : Src} {x p pos v p' pos' : Nat} (h : getLen S x p pos = .ok v p' pos') (hp : p ≤ 8 * S.N) (hx : ¬ x < 257) : p ≤ p' ∧ p' ≤ 8 * S.N ∧ v ≤ 258 := by
  unfold getLen at h
  split at h
  · cases h
  · rename_i h286
    obtain ⟨l1, l2, l3⟩ := lenOf_le hx h286
    split at h
    · rename_i h0; cases h
      rw [h0] at l3
      exact ⟨Nat.le_refl _, hp, by simp at l3; omega⟩
    · cases hg : getBits S p pos (lenOf x).2 with
      | ok a b c =>
        rw [hg] at h; simp only [Got.bind] at h; cases h
        have hk := getBits_ok hg
        unfold getBits at hg
        split at hg
        · cases hg
          have := bv_lt S.D p (lenOf x).2
          exact ⟨by omega, by omega, by omega⟩
        · cases hg
      | short => rw [hg] at h; cases h
      | bad => rw [hg] at h; cases h
theorem getDist_ok2 {S : Src} {hd : Option Cd} {p pos v p' pos' : Nat} (h : getDist S hd p pos = .ok v p' pos') : p < p' ∧ p' ≤ 8 * S.N := by
  unfold getDist at h
  have key : ∀ (x : Got), (∀ a b c, x = .ok a b c → p < b ∧ b ≤ 8 * S.N) → (x.bind fun d p pos =>
      if d < 4 then .ok (d + 1) p pos
      else if d < 30 then (getBits S p pos ((d - 2) / 2)).bind fun x p pos => .ok (2 ^ ((d - 2) / 2 + 1) + 1 + (d % 2 * 2 ^ ((d - 2) / 2) + x)) p pos
      else .bad p pos) = .ok v p' pos' → p < p' ∧ p' ≤ 8 * S.N := by
    intro x hx h
    cases x with
    | short => cases h
    | bad => cases h
    | ok a b c =>
      have h0 := hx a b c rfl
      simp only [Got.bind] at h
      split at h
      · cases h; exact h0
      · split at h
        · split at h
          · rename_i hg; cases h; have := getBits_ok hg; omega
          · cases h
          · cases h
        · cases h
  refine key _ ?_ h
  intro a b c hx
  cases hd with
  | none =>
    simp only at hx
    cases hg : getBits S p pos 5 with
    | ok a b c => rw [hg] at hx; simp only [Got.bind] at hx; cases hx; have := getBits_ok hg; omega
    | short => rw [hg] at hx; cases hx
    | bad => rw [hg] at hx; cases hx
  | some cd => have := getSym_ok hx; omega
theorem clLens_ok2 {S : Src} : ∀ (k p pos : Nat) (f f' : Nat → Nat) (p' pos' : Nat), clLens S k p pos f = some (f', p', pos') → p ≤ 8 * S.N → p' ≤ 8 * S.N
  | 0, p, pos, f, f', p', pos', h => by intro hp; simp only [clLens, Option.some.injEq, Prod.mk.injEq] at h; omega
  | k + 1, p, pos, f, f', p', pos', h => by
    intro hp
    simp only [clLens] at h
    cases hc : clLens S k p pos f with
    | none => rw [hc] at h; cases h
    | some x =>
      obtain ⟨f1, p1, q1⟩ := x
      rw [hc] at h
      simp only at h
      split at h
      · simp only [Option.some.injEq, Prod.mk.injEq] at h; omega
      · cases h
theorem rdLens_ok2 {S : Src} {c : Cd} {n : Nat} : ∀ (k : Nat) (l : List Nat) (p pos : Nat) (l' : List Nat) (p' pos' : Nat), rdLens S c n k l p pos = .ok l' p' pos' → p ≤ 8 * S.N → p' ≤ 8 * S.N
  | 0, l, p, pos, l', p', pos', h => by intro hp; simp only [rdLens, Lens.ok.injEq] at h; omega
  | k + 1, l, p, pos, l', p', pos', h => by
    intro hp
    simp only [rdLens] at h
    split at h
    · simp only [Lens.ok.injEq] at h; omega
    · cases hg : getSym S c p pos with
      | short => rw [hg] at h; cases h
      | bad => rw [hg] at h; cases h
      | ok x p1 q1 =>
        rw [hg] at h
        have h1 := getSym_ok hg
        simp only at h
        split at h
        · exact rdLens_ok2 k _ _ _ _ _ _ h h1.2
        · split at h
          · cases h
          · cases hb : getBits S p1 q1 (if x = 16 then 2 else if x = 17 then 3 else 7) with
            | short => rw [hb] at h; cases h
            | bad => rw [hb] at h; cases h
            | ok r p2 q2 =>
              rw [hb] at h
              have h2 := getBits_ok hb
              simp only at h
              generalize (if x = 18 then 11 else 3) + r = rep at h
              split at h
              · cases h
              · exact rdLens_ok2 k _ _ _ _ _ _ h (by omega)
theorem bi_dyn {S : Src} {base : Nat} {a b0 : A} (h : BI S base a) (h0 : a.p ≤ b0.p) (h1 : qv a = a.p) (h2 : b0.out = a.out) (hp : pend a = 0) : BO S base (mDyn S b0).1 := by
  have ho := h.o
  have hq := h.q
  rw [h1, hp] at ho
  rw [h1] at hq
  have hl : b0.out.length ≤ a.out.length := by rw [h2]; exact Nat.le_refl _
  unfold mDyn
  split
  · exact bo_err h hl (by simp [A.short])
  · rename_i h14
    simp only
    split
    · exact bo_err h hl (by simp [A.bad])
    · split
      · exact bo_err h hl (by simp [A.short])
      · rename_i f p pos hc
        have h3 := clLens_ok _ _ _ _ _ _ _ hc
        have h3' := clLens_ok2 _ _ _ _ _ _ _ hc (by omega)
        split
        · exact bo_err h hl (by simp [A.bad])
        · split
          · exact bo_err h hl (by simp [A.short])
          · exact bo_err h hl (by simp [A.bad])
          · rename_i l p2 pos2 hrl
            have h4 := rdLens_ok _ _ _ _ _ _ _ hrl
            have h4' := rdLens_ok2 _ _ _ _ _ _ _ hrl h3'
            split
            · exact bo_err h hl (by simp [A.bad])
            · exact BI.bo ⟨h4', by show b0.out.length + 0 ≤ base + 129 * p2; omega⟩
theorem bi_stored {S : Src} {base : Nat} {a b0 : A} (h : BI S base a) (h0 : a.p ≤ 8 * b0.pos) (h1 : qv a = a.p) (h2 : b0.out = a.out) (hp : pend a = 0) : BO S base (mStored S b0).1 := by
  have ho := h.o
  have hq := h.q
  rw [h1, hp] at ho
  rw [h1] at hq
  have hl : b0.out.length ≤ a.out.length := by rw [h2]; exact Nat.le_refl _
  unfold mStored
  split
  · exact bo_err h hl (by simp [A.short])
  · rename_i h4
    split
    · exact bo_err h hl (by simp [A.bad])
    · split
      · exact bi_fin (by show 8 * (b0.pos + 4) ≤ _; omega) (by show b0.out.length ≤ base + 129 * (8 * (b0.pos + 4)); omega)
      · exact BI.bo ⟨by show 8 * (b0.pos + 4) ≤ _; omega, by show b0.out.length + 0 ≤ base + 129 * (8 * (b0.pos + 4)); omega⟩
theorem bi_mic {S : Src} {base : Nat} {a : A} (h : BI S base a) : BO S base (mic S a).1 := by
  have ho := h.o
  have hq := h.q
  cases hm : a.md with
  | next =>
    have h1 : qv a = a.p := by unfold qv; rw [hm]
    have hp : pend a = 0 := by unfold pend; rw [hm]
    rw [mic_next hm]
    rw [h1, hp] at ho
    rw [h1] at hq
    unfold mNext
    split
    · exact bo_err h (Nat.le_refl _) (by simp [A.short])
    · rename_i h3
      simp only
      split
      · exact bi_stored h (by show a.p ≤ 8 * rdTo a.p a.pos 3; unfold rdTo; omega) h1 rfl hp
      · split
        · exact BI.bo ⟨by show a.p + 3 ≤ _; omega, by show a.out.length + 0 ≤ base + 129 * (a.p + 3); omega⟩
        · split
          · exact bi_dyn h (by show a.p ≤ a.p + 3; omega) h1 rfl hp
          · exact bo_err h (Nat.le_refl _) (by simp [A.bad])
  | data n =>
    have h1 : qv a = 8 * a.pos := by unfold qv; rw [hm]
    have hp : pend a = 0 := by unfold pend; rw [hm]
    rw [h1, hp] at ho
    rw [h1] at hq
    unfold mic
    rw [hm]
    simp only [mData]
    split
    · refine ⟨?_, fun h => by cases h⟩
      show (a.out ++ bytesAt S a.pos (S.N - a.pos)).length ≤ _
      rw [List.length_append, bytesAt_length]
      omega
    · rename_i h2
      split
      · refine BI.bo ⟨?_, ?_⟩
        · show 8 * (a.pos + avail a.out) ≤ _; omega
        · show (a.out ++ bytesAt S a.pos (avail a.out)).length + 0 ≤ base + 129 * (8 * (a.pos + avail a.out))
          rw [List.length_append, bytesAt_length]; omega
      · refine bi_fin ?_ ?_
        · show 8 * (a.pos + n) ≤ _; omega
        · show (a.out ++ bytesAt S a.pos n).length ≤ base + 129 * (8 * (a.pos + n))
          rw [List.length_append, bytesAt_length]; omega
  | huff hl hd c =>
    have h1 : qv a = a.p := by unfold qv; rw [hm]
    rw [h1] at ho hq
    unfold mic
    rw [hm]
    cases c with
    | none =>
      have hp : pend a = 0 := by unfold pend; rw [hm]
      rw [hp] at ho
      simp only [mHuff]
      split
      · exact bo_err h (Nat.le_refl _) (by simp [A.short])
      · exact bo_err h (Nat.le_refl _) (by simp [A.bad])
      · rename_i v p pos hg
        have h2 := getSym_ok hg
        split
        · split
          · refine BI.bo ⟨h2.2, ?_⟩
            show (a.out ++ [v]).length + 0 ≤ base + 129 * p
            rw [List.length_append, List.length_singleton]; omega
          · refine BI.bo ⟨h2.2, ?_⟩
            show (a.out ++ [v]).length + 0 ≤ base + 129 * p
            rw [List.length_append, List.length_singleton]; omega
        · split
          · exact bi_fin h2.2 (by show a.out.length ≤ base + 129 * p; omega)
          · split
            · exact bo_err h (Nat.le_refl _) (by simp [A.short])
            · exact bo_err h (Nat.le_refl _) (by simp [A.bad])
            · rename_i len p2 pos2 hg2
              have h3 := getLen_ok2 hg2 h2.2 (by omega)
              split
              · exact bo_err h (Nat.le_refl _) (by simp [A.short])
              · exact bo_err h (Nat.le_refl _) (by simp [A.bad])
              · rename_i dist p3 pos3 hg3
                have h4 := getDist_ok2 hg3
                split
                · exact bo_err h (Nat.le_refl _) (by simp [A.bad])
                · exact BI.bo ⟨h4.2, by show a.out.length + len ≤ base + 129 * p3; omega⟩
    | some x =>
      obtain ⟨len, dist⟩ := x
      have hp : pend a = len := by unfold pend; rw [hm]
      rw [hp] at ho
      simp only [mHuff]
      split
      · refine BI.bo ⟨hq, ?_⟩
        show (lz a.out dist (avail a.out)).length + (len - avail a.out) ≤ base + 129 * a.p
        rw [lz_length]; omega
      · refine BI.bo ⟨hq, ?_⟩
        show (lz a.out dist len).length + 0 ≤ base + 129 * a.p
        rw [lz_length]; omega
theorem bi_runs {S : Src} {base : Nat} {a b : A} (h : Runs S a b) : a.err = 0 → BI S base a → BO S base b := by
  induction h with
  | @stop a b h => intro _ hB; have := bi_mic hB; rw [h] at this; exact this
  | @more a b c h _ ih =>
    intro he hB
    have h1 := bi_mic hB
    have hg := (goes_mic S a).fal (by rw [h])
    rw [h] at h1 hg
    exact ih (hg.1.trans he) (h1.2 (hg.1.trans he))
theorem BI.e {S : Src} {base : Nat} {a : A} (h : BI S base a) (e : Nat) : BI S base { a with e := e } := ⟨h.q, h.o⟩
theorem BO.late {S : Src} {base : Nat} {a : A} (h : BO S base a) : BO S base a.late := by
  refine ⟨by rw [late_out]; exact h.1, fun h0 => ?_⟩
  rw [late_err] at h0
  have : a.late = a := by unfold A.late; rw [if_neg (by omega)]
  rw [this]; exact h.2 h0
theorem bi_reads {S : Src} {base n : Nat} {a b : A} {k er : Nat} (h : Reads S n a k er b) : BO S base a → BO S base b := by
  induction h with
  | give => intro hB; exact ⟨hB.1, fun h0 => (hB.2 h0).e _⟩
  | done => exact id
  | step h1 h2 hr _ ih => intro hB; exact ih (bi_runs hr h2 (hB.2 h2)).late
theorem szAt_pos (szs : List Int) (i : Nat) : 0 < szAt szs i := by
  unfold szAt
  split
  · decide
  · split
    · omega
    · decide
/-- A short stream is never stopped. -/
theorem Dr.no3 {S : Src} {szs : List Int} {i c base : Nat} {a b : A} {acc r : List Nat} (hN : S.N ≤ 8) (h : Dr S szs i a acc r c b) : BO S base a → a.e ≤ a.fl → a.fl ≤ a.out.length → base + i ≤ a.e → base + acc.length = a.e → c ≠ 3 := by
  induction h with
  | stop h => intro hB h1 h2 h3 h4; have := hB.1; omega
  | over h1 h2 h3 =>
    intro hB h4 h5 h6 h7
    obtain ⟨_, g2, g3, g4, _⟩ := h2.ch h4 h5
    have := (bi_reads h2 hB).1
    omega
  | fin => intros; exact code_ne3 _
  | next h1 h2 h3 _ ih =>
    intro hB h4 h5 h6 h7
    obtain ⟨_, g2, g3, g4, _, g6⟩ := h2.ch h4 h5
    have hk := g6 rfl (szAt_pos _ _)
    refine ih (bi_reads h2 hB) g3 g4 (by omega) ?_
    rw [List.length_append, List.length_take, List.length_drop]
    omega
theorem Dr.no3_start {S : Src} {szs : List Int} {c : Nat} {a b : A} {r : List Nat} (hN : S.N ≤ 8) (h : Dr S szs 0 a [] r c b) (h1 : a.md = .next) (h2 : a.p = 0) (h3 : a.e = a.fl) (h4 : a.fl = a.out.length) : c ≠ 3 := by
  have hq : qv a = 0 := by unfold qv; rw [h1]; exact h2
  have hp : pend a = 0 := by unfold pend; rw [h1]
  exact h.no3 (base := a.e) hN (BI.bo ⟨by omega, by omega⟩) (by omega) (by omega) (by omega) (by simp)
theorem InfR.no3 {data dict : List Nat} {szs : List Int} {r : List Nat} {c left : Nat} (h : InfR data dict szs r c left) (hl : data.length ≤ 8) : c ≠ 3 := by
  obtain ⟨a, hd, _⟩ := h
  exact hd.no3_start hl rfl rfl rfl rfl
end Go.Proofs.YtejeloeaklpinaaDoor
