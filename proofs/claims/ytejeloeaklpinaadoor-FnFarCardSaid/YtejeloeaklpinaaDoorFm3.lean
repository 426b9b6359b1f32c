/- Texts of this claim, merged and shortened by gen/pack.py: Copy, Huff0, Ch, Huff, Code, Init0, Init1, Init2, Init3, Init, Fix. -/
import Derived.Test.YtejeloeaklpinaaDoorFm2
import Derived.Scope
namespace Go.Proofs.YtejeloeaklpinaaDoor
attribute [local irreducible] wpList wpStill wpMix Code.wp Calls fr
/-- What a copy tells, in closed form. -/
theorem lz_len (out : List Nat) (d : Nat) : ∀ k, (lz out d k).length = out.length + k
 | 0 => rfl
 | k + 1 => by simp [lz, lz_len out d k]; omega
theorem lz_old (out : List Nat) (d : Nat) : ∀ k i, i < out.length → (lz out d k).getD i 0 = out.getD i 0
 | 0, _, _ => rfl
 | k + 1, i, h => by
  have hl := lz_len out d k
  rw [lz, List.getD_eq_getElem?_getD, List.getElem?_append_left (by omega), ← List.getD_eq_getElem?_getD]
  exact lz_old out d k i h
theorem lz_new (out : List Nat) (d : Nat) (hd : 0 < d) (hd2 : d ≤ out.length) : ∀ k t, t < k → (lz out d k).getD (out.length + t) 0 = out.getD (out.length - d + t % d) 0
 | 0, _, h => by omega
 | k + 1, t, h => by
  have hl := lz_len out d k
  by_cases ht : t < k
  ·rw [lz, List.getD_eq_getElem?_getD, List.getElem?_append_left (by omega), ← List.getD_eq_getElem?_getD]
   exact lz_new out d hd hd2 k t ht
  ·have : t = k := by omega
   subst this
   rw [lz, List.getD_eq_getElem?_getD, List.getElem?_append_right (by omega), hl, Nat.sub_self]
   simp only [List.getElem?_cons_zero, Option.getD_some]
   have hmd := Nat.mod_add_div t d
   have hml := Nat.mod_lt t hd
   by_cases h0 : t < d
   ·rw [lz_old out d t _ (by omega), Nat.mod_eq_of_lt h0, show out.length + t - d = out.length - d + t by omega]
   ·rw [show out.length + t - d = out.length + (t - d) by omega, lz_new out d hd hd2 t (t - d) (by omega), ← Nat.mod_eq_sub_mod (show t ≥ d by omega)]
/-- The byte of a copy at any place behind its start. -/
theorem lz_at (out : List Nat) (d : Nat) (hd : 0 < d) (hd2 : d ≤ out.length) (k i : Nat) (h : i < d + k) : (lz out d k).getD (out.length - d + i) 0 = out.getD (out.length - d + i % d) 0 := by
 by_cases h0 : i < d
 ·rw [lz_old out d k _ (by omega), Nat.mod_eq_of_lt h0]
 ·rw [show out.length - d + i = out.length + (i - d) by omega, lz_new out d hd hd2 k (i - d) (by omega), ← Nat.mod_eq_sub_mod (show i ≥ d by omega)]
theorem lz_small (out : List Nat) (d : Nat) (hd : 0 < d) (hd2 : d ≤ out.length) (hs : ∀ i, i < out.length → out.getD i 0 < 256) (k i : Nat) (hi : i < out.length + k) : (lz out d k).getD i 0 < 256 := by
 by_cases h0 : i < out.length
 ·rw [lz_old out d k i h0]; exact hs i h0
 ·have := lz_new out d hd hd2 k (i - out.length) (by omega)
  rw [show out.length + (i - out.length) = i by omega] at this
  rw [this]
  have hm := Nat.mod_lt (i - out.length) hd
  exact hs _ (by omega)
/-- One more copy: c bytes from place s (of the window) to place wr + j, where they are the bytes that the copy tells next. -/
theorem win_step {out : List Nat} {hs : Nat → Value} {d j c wr s : Nat} (hd : 0 < d) (hd2 : d ≤ out.length) (hd3 : d ≤ 32768) (hw : wr = out.length % 32768) (h : Win (lz out d j) hs) (hc : wr + j + c ≤ 32768)
  (hsc : s + c ≤ 32768)
  (hval : ∀ i, i < c → hs (s + i) = .int .u8 (out.getD (out.length - d + (j + i) % d) 0)) :
  Win (lz out d (j + c)) (cpg hs hs (wr + j) s c) := by
 have hl1 := lz_len out d j
 have hl2 := lz_len out d (j + c)
 refine ⟨fun x hx => ?_, fun i hi hi2 => ?_, fun i hi => lz_small out d hd hd2 (fun i hi => by have := h.small i (by omega); rwa [lz_old out d j i hi] at this) (j + c) i (by omega)⟩
 ·unfold cpg
  split
  ·exact h.byte _ (by omega)
  ·exact h.byte x hx
 ·rw [hl2] at hi hi2
  unfold cpg
  by_cases h0 : i < out.length + j
  ·rw [if_neg (by omega)]
   have := h.last i (by omega) (by omega)
   rw [this]
   congr 2
   by_cases h1 : i < out.length
   ·rw [lz_old out d _ i h1, lz_old out d _ i h1]
   ·have e1 := lz_new out d hd hd2 j (i - out.length) (by omega)
    have e2 := lz_new out d hd hd2 (j + c) (i - out.length) (by omega)
    rw [show out.length + (i - out.length) = i by omega] at e1 e2
    rw [e1, e2]
  ·rw [if_pos (by omega), hval _ (by omega)]
   have e2 := lz_new out d hd hd2 (j + c) (i - out.length) (by omega)
   rw [show out.length + (i - out.length) = i by omega] at e2
   rw [e2, show j + (i % 32768 - (wr + j)) = i - out.length by omega]
/-- The bytes that lie in the window at the place from which a copy takes them. -/
theorem win_src {out : List Nat} {hs : Nat → Value} {d j wr i : Nat} (hd : 0 < d) (hd2 : d ≤ out.length) (hw : wr = out.length % 32768) (h : Win (lz out d j) hs) (hdw : d ≤ wr) (hj : wr + j ≤ 32768) (hi : i < d + j) :
  hs (wr - d + i) = .int .u8 (out.getD (out.length - d + i % d) 0) := by
 have hl1 := lz_len out d j
 have := h.last (out.length - d + i) (by omega) (by omega)
 rw [lz_at out d hd hd2 j i hi] at this
 rw [← this, show (out.length - d + i) % 32768 = wr - d + i by omega]
/-- The same, where the place has wrapped. -/
theorem win_src2 {out : List Nat} {hs : Nat → Value} {d j wr i : Nat} (hd : 0 < d) (hd2 : d ≤ out.length) (hw : wr = out.length % 32768) (h : Win (lz out d j) hs) (hdw : wr ≤ d) (hj : wr + j ≤ 32768) (hi : i < wr + j) :
  hs i = .int .u8 (out.getD (out.length - d + (d - wr + i) % d) 0) := by
 have hl1 := lz_len out d j
 have := h.last (out.length - d + (d - wr + i)) (by omega) (by omega)
 rw [lz_at out d hd hd2 j (d - wr + i) (by omega)] at this
 rw [← this, show (out.length - d + (d - wr + i)) % 32768 = i by omega]
theorem win_src3 {out : List Nat} {hs : Nat → Value} {d wr i : Nat} (hd2 : d ≤ out.length) (hd3 : d ≤ 32768) (hw : wr = out.length % 32768) (h : Win out hs) (hdw : wr < d) (hi : i < d - wr) :
  hs (wr + 32768 - d + i) = .int .u8 (out.getD (out.length - d + i) 0) := by
 have := h.last (out.length - d + i) (by omega) (by omega)
 rw [← this, show (out.length - d + i) % 32768 = wr + 32768 - d + i by omega]
theorem bmin {ρ : Operand → Value} {dd : Option Nat} {x y : Operand} {ty : TypeId} {pos : String} {af : Array Edge} {gd : Option (Nat × Bool)} {w : World} {a b : Nat} (hx : ρ x = .int .i64 (a : Int)) (hy : ρ y = .int .i64 (b : Int)) :
  (execOp ρ ⟨dd, .call ⟨.builtin .min, #[x, y], #[3, 3]⟩, ty, pos, af, gd⟩).run Tryd.prog w = .ok (.value (.int .i64 ((min a b : Nat) : Int))) w := by
 have e2 : (if b < a then (b : Int) else (a : Int)) = ((min a b : Nat) : Int) := by split <;> omega
 simp [execOp, resolve, invoke, builtin, hx, hy, Builtin.min_, Builtin.min2, e2]
theorem mod_add_mul {d j i : Nat} (h : j % d = 0) : (j + i) % d = i % d := by
 rw [Nat.add_mod, h, Nat.zero_add, Nat.mod_mod]
theorem tw_no_a (E : Env) (w : World) (g hs bs cs : Nat → Value) (pos wr rd d n : Nat) (full : Bool) (out : List Nat) (hE : E.Ok) (hW : Wd E w g hs bs cs pos) (hD : DD E g wr rd full) (hV : Win out hs) (hw : wr = out.length % 32768) (hd : 0 < d) (hd2 : d ≤ out.length) (hd3 : d ≤ 32768) (hn : n ≤ 258) (hno : wr < d) :
  Ret 59 [ddp E, .int .i64 (d : Int), .int .i64 (n : Int)] w fun v w' => v = .int .i64 0 ∧ Wd E w' g hs bs cs pos ∧ Kp E.L w w' := by
 have kp := Kp.refl E.L w
 have hwl : wr < 32768 := by omega
 refine calls_fr (N := 61) Tryd.func59 rfl rfl (by simp [ddp]) rfl ?_
 refine sqr ?_
 refine Ai rfl ?_
 refine nt ?_
 refine sqr ?_
 refine Mp rfl ?_
 refine Np rfl ?_
 refine L1 (fd90_1 rfl) ?_
 refine L1 (ld3 rfl (hW.F.cellv (by decide) hD.wr)) ?_
 refine Ai rfl ?_
 refine nt ?_
 refine sqr ?_
 refine Mi rfl ?_
 refine Mi rfl ?_
 refine L1 (bi rfl rfl (bn_add (c := ((wr + n : Nat) : Int)) (by omega) (by omega) (by omega))) ?_
 refine Ai rfl ?_
 refine nt ?_
 refine wp_seq ?_
 refine sqr ?_
 refine Mi rfl ?_
 refine Mi rfl ?_
 refine L1 (bi rfl rfl (bn_lss (v := true) (decide_eq_true (by omega)))) ?_
 refine Mb rfl ?_
 refine Lskip (t := 21) (b := false) rfl (by decide) rfl ?_
 refine Lskip (t := 21) (b := false) rfl (by decide) rfl ?_
 refine Lskip (t := 21) (b := false) rfl (by decide) rfl ?_
 refine Lskip (t := 21) (b := false) rfl (by decide) rfl ?_
 refine Lskip (t := 21) (b := false) rfl (by decide) rfl ?_
 refine Lskip (t := 21) (b := false) rfl (by decide) rfl ?_
 refine Lskip (t := 21) (b := false) rfl (by decide) rfl ?_
 refine L1 (pk_t rfl rfl) ?_
 refine nt ?_
 refine cond_t rfl ?_
 refine sqr ?_
 refine Ai rfl ?_
 refine nt ?_
 refine wp_ret ?_
 refine then_r ?_
 refine ret1 rfl rfl ?_
 exact ⟨_, rfl, rfl, hW, kp⟩
theorem tw_no_b (E : Env) (w : World) (g hs bs cs : Nat → Value) (pos wr rd d n : Nat) (full : Bool) (out : List Nat) (hE : E.Ok) (hW : Wd E w g hs bs cs pos) (hD : DD E g wr rd full) (hV : Win out hs) (hw : wr = out.length % 32768) (hd : 0 < d) (hd2 : d ≤ out.length) (hd3 : d ≤ 32768) (hn : n ≤ 258) (hno : d ≤ wr ∧ 32768 < wr + n) :
  Ret 59 [ddp E, .int .i64 (d : Int), .int .i64 (n : Int)] w fun v w' => v = .int .i64 0 ∧ Wd E w' g hs bs cs pos ∧ Kp E.L w w' := by
 have kp := Kp.refl E.L w
 have hwl : wr < 32768 := by omega
 refine calls_fr (N := 61) Tryd.func59 rfl rfl (by simp [ddp]) rfl ?_
 refine sqr ?_
 refine Ai rfl ?_
 refine nt ?_
 refine sqr ?_
 refine Mp rfl ?_
 refine Np rfl ?_
 refine L1 (fd90_1 rfl) ?_
 refine L1 (ld3 rfl (hW.F.cellv (by decide) hD.wr)) ?_
 refine Ai rfl ?_
 refine nt ?_
 refine sqr ?_
 refine Mi rfl ?_
 refine Mi rfl ?_
 refine L1 (bi rfl rfl (bn_add (c := ((wr + n : Nat) : Int)) (by omega) (by omega) (by omega))) ?_
 refine Ai rfl ?_
 refine nt ?_
 refine wp_seq ?_
 refine sqr ?_
 refine Mi rfl ?_
 refine Mi rfl ?_
 refine L1 (bi rfl rfl (bn_lss (v := false) (decide_eq_false (by omega)))) ?_
 refine Mb rfl ?_
 refine L1g (t := 21) (b := false) rfl (by decide) rfl (mv (v := .int _ _) rfl) ?_
 refine L1g (t := 21) (b := false) rfl (by decide) rfl (mv (v := .pointer _) rfl) ?_
 refine L1g (t := 21) (b := false) rfl (by decide) rfl (nilP rfl) ?_
 refine L1g (t := 21) (b := false) rfl (by decide) rfl (fd90_0 rfl) ?_
 refine L1g (t := 21) (b := false) rfl (by decide) rfl (ld22 rfl (hW.F.cellv (by decide) hD.hist)) ?_
 refine L1g (t := 21) (b := false) rfl (by decide) rfl (ln und22 rfl) ?_
 refine L1g (t := 21) (b := false) rfl (by decide) rfl (bi rfl rfl (bn_gtr (v := true) (decide_eq_true (by omega)))) ?_
 refine L1 (pk_f rfl rfl) ?_
 refine nt ?_
 refine cond_t rfl ?_
 refine sqr ?_
 refine Ai rfl ?_
 refine nt ?_
 refine wp_ret ?_
 refine then_r ?_
 refine ret1 rfl rfl ?_
 exact ⟨_, rfl, rfl, hW, kp⟩
theorem tw_yes (E : Env) (w : World) (g hs bs cs : Nat → Value) (pos wr rd d n : Nat) (full : Bool) (out : List Nat) (hE : E.Ok) (hW : Wd E w g hs bs cs pos) (hD : DD E g wr rd full) (hV : Win out hs) (hw : wr = out.length % 32768) (hd : 0 < d) (hd2 : d ≤ out.length) (hd3 : d ≤ 32768) (hn : n ≤ 258) (hdw : d ≤ wr) (hfit : wr + n ≤ 32768) :
  Ret 59 [ddp E, .int .i64 (d : Int), .int .i64 (n : Int)] w fun v w' => v = .int .i64 (n : Int) ∧ ∃ g' hs', Wd E w' g' hs' bs cs pos ∧ Win (lz out d n) hs' ∧ g' 1038 = .int .i64 ((wr + n : Nat) : Int) ∧ Off [1038] g g' ∧ Kp E.L w w' := by
 have kp := Kp.refl E.L w
 have hwl : wr < 32768 := by omega
 obtain ⟨s0, hs0⟩ : ∃ s0, s0 = wr - d := ⟨_, rfl⟩
 obtain ⟨j0, hj0e⟩ : ∃ j0, j0 = 0 := ⟨_, rfl⟩
 have hjk : j0 ≤ n := by omega
 have hss : Value.int .i64 ((s0 : Nat) : Int) = .int .i64 ((s0 : Nat) : Int) := rfl
 have hsd : Value.int .i64 (wr : Int) = .int .i64 ((wr + j0 : Nat) : Int) := by rw [hj0e]; rfl
 have hV : Win (lz out d j0) hs := by rw [hj0e]; exact hV
 have hstep : ∀ j hs1 c, Win (lz out d j) hs1 → j0 ≤ j → (j - j0) % d = 0 → c ≤ d + (j - j0) → j + c ≤ n → Win (lz out d (j + c)) (cpg hs1 hs1 (wr + j) s0 c) := by
  intro j hs1 c hV1 _ hdv hc hjc
  refine win_step hd hd2 hd3 hw hV1 (by omega) (by omega) (fun i hi => ?_)
  rw [hs0, win_src hd hd2 hw hV1 (by omega) (by omega) (by omega), mod_add_mul (by rwa [hj0e, Nat.sub_zero] at hdv)]
 refine calls_fr (N := 61) Tryd.func59 rfl rfl (by simp [ddp]) rfl ?_
 refine sqr ?_
 refine Ai rfl ?_
 refine nt ?_
 refine sqr ?_
 refine Mp rfl ?_
 refine Np rfl ?_
 refine L1 (fd90_1 rfl) ?_
 refine L1 (ld3 rfl (hW.F.cellv (by decide) hD.wr)) ?_
 refine Ai rfl ?_
 refine nt ?_
 refine sqr ?_
 refine Mi rfl ?_
 refine Mi rfl ?_
 refine L1 (bi rfl rfl (bn_add (c := ((wr + n : Nat) : Int)) (by omega) (by omega) (by omega))) ?_
 refine Ai rfl ?_
 refine nt ?_
 refine wp_seq ?_
 refine sqr ?_
 refine Mi rfl ?_
 refine Mi rfl ?_
 refine L1 (bi rfl rfl (bn_lss (v := false) (decide_eq_false (by omega)))) ?_
 refine Mb rfl ?_
 refine L1g (t := 21) (b := false) rfl (by decide) rfl (mv (v := .int _ _) rfl) ?_
 refine L1g (t := 21) (b := false) rfl (by decide) rfl (mv (v := .pointer _) rfl) ?_
 refine L1g (t := 21) (b := false) rfl (by decide) rfl (nilP rfl) ?_
 refine L1g (t := 21) (b := false) rfl (by decide) rfl (fd90_0 rfl) ?_
 refine L1g (t := 21) (b := false) rfl (by decide) rfl (ld22 rfl (hW.F.cellv (by decide) hD.hist)) ?_
 refine L1g (t := 21) (b := false) rfl (by decide) rfl (ln und22 rfl) ?_
 refine L1g (t := 21) (b := false) rfl (by decide) rfl (bi rfl rfl (bn_gtr (v := false) (decide_eq_false (by omega)))) ?_
 refine L1 (pk_f rfl rfl) ?_
 refine nt ?_
 refine cond_f rfl ?_
 refine skn ?_
 refine sqr ?_
 refine Mi rfl ?_
 refine Ai rfl ?_
 refine nt ?_
 refine sqr ?_
 refine Mi rfl ?_
 refine Mi rfl ?_
 refine L1 (bi rfl rfl (bn_sub (c := ((s0 : Nat) : Int)) (by omega) (by omega) (by omega))) ?_
 refine Ai rfl ?_
 refine nt ?_
 refine wp_seq ?_
 refine wp_block ?_
 refine loop_fr (fun m f w' => f 0 = ddp E ∧ f 10 = .int .i64 ((s0 : Nat) : Int) ∧ f 8 = .int .i64 ((wr + n : Nat) : Int) ∧ f 9 = .int .i64 (wr : Int) ∧ ∃ j hs', m = n - j ∧ j0 ≤ j ∧ j ≤ n ∧ f 7 = .int .i64 ((wr + j : Nat) : Int) ∧ Wd E w' g hs' bs cs pos ∧ Win (lz out d j) hs' ∧ Kp E.L w w' ∧ (j = n ∨ (j - j0) % d = 0)) (n - j0) ⟨rfl, hss, rfl, rfl, j0, _, rfl, Nat.le_refl _, hjk, hsd, hW, hV, kp, .inr (by simp)⟩ ?_
 clear hW hV kp
 intro m f w0 HJ
 obtain ⟨s0', ss, se, sr, j, hs1, rfl, hj0, hj, sd, hW, hV, kp, hmul⟩ := HJ
 refine slots (fc s0' (fc ss (fc se (fc sr (fc sd fnil))))) ?_
 refine wp_seq ?_
 refine sqr ?_
 refine Mi rfl ?_
 refine Mi rfl ?_
 refine L1 (bi rfl rfl (bn_lss (v := decide (j < n)) (decide_eq_decide.2 (by omega)))) ?_
 refine nt ?_
 refine cond_d (p := j < n) rfl (fun hlt => ?_) (fun hlt => ?_)
 ·skip
  have hdv : (j - j0) % d = 0 := by rcases hmul with h | h; exact absurd h (by omega); exact h
  have hmin : min (d + (j - j0)) (n - j) ≤ d + (j - j0) := Nat.min_le_left _ _
  have hmin2 : min (d + (j - j0)) (n - j) ≤ n - j := Nat.min_le_right _ _
  have hD0 : Bk w0.drew E.F 1054 95 g := hW.F.drew
  refine skn ?_
  refine wp_block ?_
  refine reg_mix [false, false, false, false, false, false, false, false, false, false, false, false, false, false, false, true, true, true] (fun w => Bk w E.F 1054 95 g) mixed (by kernel_rfl) ?_ ?_
  ·exact hD0
  have hW := hW.drew
  have kp := kp.drew
  refine T1 (fun w hC => mv (v := .int _ _) rfl) ?_
  refine T1 (fun w hC => mv (v := .pointer _) rfl) ?_
  refine T1 (fun w hC => nilP rfl) ?_
  refine T1 (fun w hC => fd90_0 rfl) ?_
  refine T1 (fun w hC => ld22 rfl (hC.cellv (by decide) hD.hist)) ?_
  refine T1 (fun w hC => mv (v := .int _ _) rfl) ?_
  refine T1 (fun w hC => mv (v := .int _ _) rfl) ?_
  refine T1 (fun w hC => (slb_lh und22 sz5 rfl rfl rfl (l := wr + j) (h := wr + n) rfl rfl (by omega) (by omega) (by omega)).trans (by rw [Nat.zero_add, show wr + n - (wr + j) = n - j by omega])) ?_
  refine T1 (fun w hC => mv (v := .pointer _) rfl) ?_
  refine T1 (fun w hC => nilP rfl) ?_
  refine T1 (fun w hC => fd90_0 rfl) ?_
  refine T1 (fun w hC => ld22 rfl (hC.cellv (by decide) hD.hist)) ?_
  refine T1 (fun w hC => mv (v := .int _ _) rfl) ?_
  refine T1 (fun w hC => mv (v := .int _ _) rfl) ?_
  refine T1 (fun w hC => (slb_lh und22 sz5 rfl rfl rfl (l := s0) (h := wr + j) rfl rfl (by omega) (by omega) (by omega)).trans (by rw [Nat.zero_add, show wr + j - s0 = d + (j - j0) by omega])) ?_
  refine Ecp (b := E.H) (o := wr + j) (dl := n - j) (b2 := E.H) (o2 := s0) (sl := d + (j - j0)) rfl rfl hW.H hW.H (by omega) (by omega) (fun i hi => by obtain ⟨cc, _, hcc⟩ := hV.byte (s0 + i) (by omega); rw [hcc]; rfl) ?_
  intro w1 hH1 kp1
  refine ⟨hD0.kp kp1 (by simp; exact hE.FH), ?_⟩
  have hW := hW.setH hE hH1 kp1
  have kp := kp.H kp1
  refine E1 (bi rfl rfl (bn_add (c := ((wr + (j + min (d + (j - j0)) (n - j)) : Nat) : Int)) (by omega) (by omega) (by omega))) (hD0.kp kp1 (by simp; exact hE.FH)) ?_
  refine E1 (asg (v := .int _ _) rfl) (hD0.kp kp1 (by simp; exact hE.FH)) ?_
  refine mix_nil ?_
  refine inb_n ?_
  refine then_n ?_
  refine ⟨n - (j + min (d + (j - j0)) (n - j)), _, by omega, rfl, rfl, rfl, rfl, rfl, j + min (d + (j - j0)) (n - j), _, rfl, by omega, by omega, rfl, hW, ?_, kp, ?_⟩
  ·exact hstep j hs1 (min (d + (j - j0)) (n - j)) hV hj0 hdv hmin (by omega)
  ·by_cases hx : n - j ≤ d + (j - j0)
   ·exact .inl (by rw [Nat.min_eq_right hx]; omega)
   ·refine .inr ?_
    rw [Nat.min_eq_left (by omega), show j + (d + (j - j0)) - j0 = (j - j0) + (d + (j - j0)) by omega, mod_add_mul hdv, Nat.add_mod, Nat.mod_self, Nat.zero_add, Nat.mod_mod]
    exact hdv
 ·skip
  obtain rfl : n = j := by omega
  refine wp_exit ?_
  refine then_e ?_
  refine then_e ?_
  refine inb_same ?_
  refine then_n ?_
  refine sqr ?_
  refine Mp rfl ?_
  refine Mi rfl ?_
  refine Np rfl ?_
  refine L1 (fd90_1 rfl) ?_
  refine Lst3 (v := .int _ _) rfl rfl rfl hW.F (by decide) ?_
  intro w1 hb1 kp1
  have hW := hW.setF hE hb1 kp1
  have kp := kp.F kp1
  clear hb1 kp1
  refine nt ?_
  refine sqr ?_
  refine Mi rfl ?_
  refine Mi rfl ?_
  refine L1 (bi rfl rfl (bn_sub (c := (n : Int)) (by omega) (by omega) (by omega))) ?_
  refine Ai rfl ?_
  refine nt ?_
  refine wp_ret ?_
  refine ret1 rfl rfl ?_
  exact ⟨_, rfl, rfl, _, _, hW, hV, rfl, (Off.refl _ g).upd (by simp) _, kp⟩
theorem wc_s (E : Env) (w : World) (g hs bs cs : Nat → Value) (pos wr rd d n : Nat) (full : Bool) (out : List Nat) (hE : E.Ok) (hW : Wd E w g hs bs cs pos) (hD : DD E g wr rd full) (hV : Win out hs) (hw : wr = out.length % 32768) (hd : 0 < d) (hd2 : d ≤ out.length) (hd3 : d ≤ 32768) (hn : n ≤ 258) (hdw : d ≤ wr) :
  Ret 60 [ddp E, .int .i64 (d : Int), .int .i64 (n : Int)] w fun v w' => v = .int .i64 ((min n (32768 - wr) : Nat) : Int) ∧ ∃ g' hs', Wd E w' g' hs' bs cs pos ∧ Win (lz out d (min n (32768 - wr))) hs' ∧ g' 1038 = .int .i64 ((wr + min n (32768 - wr) : Nat) : Int) ∧ Off [1038] g g' ∧ Kp E.L w w' := by
 have kp := Kp.refl E.L w
 have hwl : wr < 32768 := by omega
 obtain ⟨k, hk⟩ : ∃ k, k = min n (32768 - wr) := ⟨_, rfl⟩
 obtain ⟨s0, hs0⟩ : ∃ s0, s0 = wr - d := ⟨_, rfl⟩
 obtain ⟨j0, hj0e⟩ : ∃ j0, j0 = 0 := ⟨_, rfl⟩
 have hjk : j0 ≤ k := by omega
 have hss : Value.int .i64 ((wr : Int) - (d : Int)) = .int .i64 ((s0 : Nat) : Int) := congrArg (Value.int .i64) (by omega)
 have hsd : Value.int .i64 (wr : Int) = .int .i64 ((wr + j0 : Nat) : Int) := by rw [hj0e]; rfl
 have hV : Win (lz out d j0) hs := by rw [hj0e]; exact hV
 have hstep : ∀ j hs1 c, Win (lz out d j) hs1 → j0 ≤ j → (j - j0) % d = 0 → c ≤ d + (j - j0) → j + c ≤ k → Win (lz out d (j + c)) (cpg hs1 hs1 (wr + j) s0 c) := by
  intro j hs1 c hV1 hj0 hdv hc hjc
  refine win_step hd hd2 hd3 hw hV1 (by omega) (by omega) (fun i hi => ?_)
  rw [hs0, win_src hd hd2 hw hV1 (by omega) (by omega) (by omega), mod_add_mul (by rwa [hj0e, Nat.sub_zero] at hdv)]
 refine calls_fr (N := 80) Tryd.func60 rfl rfl (by simp [ddp]) rfl ?_
 refine sqr ?_
 refine Ai rfl ?_
 refine nt ?_
 refine sqr ?_
 refine Mp rfl ?_
 refine Np rfl ?_
 refine L1 (fd90_1 rfl) ?_
 refine L1 (ld3 rfl (hW.F.cellv (by decide) hD.wr)) ?_
 refine Ai rfl ?_
 refine nt ?_
 refine sqr ?_
 refine Mi rfl ?_
 refine Ai rfl ?_
 refine nt ?_
 refine sqr ?_
 refine Mi rfl ?_
 refine Mi rfl ?_
 refine L1 (bi rfl rfl (bn_sub (c := (wr : Int) - (d : Int)) rfl (by omega) (by omega))) ?_
 refine Ai rfl ?_
 refine nt ?_
 refine sqr ?_
 refine Mi rfl ?_
 refine Mi rfl ?_
 refine L1 (bi rfl rfl (bn_add (c := ((wr + n : Nat) : Int)) (by omega) (by omega) (by omega))) ?_
 refine Mp rfl ?_
 refine Np rfl ?_
 refine L1 (fd90_0 rfl) ?_
 refine L1 (ld22 rfl (hW.F.cellv (by decide) hD.hist)) ?_
 refine L1 (ln und22 rfl) ?_
 refine L1 ((bmin rfl rfl).trans (by rw [show min (wr + n) 32768 = wr + k by omega])) ?_
 refine Ai rfl ?_
 refine nt ?_
 refine wp_seq ?_
 refine sqr ?_
 refine Mi rfl ?_
 refine L1 (bi rfl rfl (bn_lss (v := false) (decide_eq_false (by omega)))) ?_
 refine nt ?_
 refine cond_f rfl ?_
 refine skn ?_
 refine wp_seq ?_
 refine wp_block ?_
 refine loop_fr (fun m f w' => f 0 = ddp E ∧ f 9 = .int .i64 ((s0 : Nat) : Int) ∧ f 10 = .int .i64 ((wr + k : Nat) : Int) ∧ f 7 = .int .i64 (wr : Int) ∧ ∃ j hs', m = k - j ∧ j0 ≤ j ∧ j ≤ k ∧ f 8 = .int .i64 ((wr + j : Nat) : Int) ∧ Wd E w' g hs' bs cs pos ∧ Win (lz out d j) hs' ∧ Kp E.L w w' ∧ (j = k ∨ (j - j0) % d = 0)) (k - j0) ⟨rfl, hss, rfl, rfl, j0, _, rfl, Nat.le_refl _, hjk, hsd, hW, hV, kp, .inr (by simp)⟩ ?_
 clear hW hV kp
 intro m f w0 HJ
 obtain ⟨s0', ss, se, sr, j, hs1, rfl, hj0, hj, sd, hW, hV, kp, hmul⟩ := HJ
 refine slots (fc s0' (fc ss (fc se (fc sr (fc sd fnil))))) ?_
 refine wp_seq ?_
 refine sqr ?_
 refine Mi rfl ?_
 refine Mi rfl ?_
 refine L1 (bi rfl rfl (bn_lss (v := decide (j < k)) (decide_eq_decide.2 (by omega)))) ?_
 refine nt ?_
 refine cond_d (p := j < k) rfl (fun hlt => ?_) (fun hlt => ?_)
 ·skip
  have hdv : (j - j0) % d = 0 := by rcases hmul with h | h; exact absurd h (by omega); exact h
  have hmin : min (d + (j - j0)) (k - j) ≤ d + (j - j0) := Nat.min_le_left _ _
  have hmin2 : min (d + (j - j0)) (k - j) ≤ k - j := Nat.min_le_right _ _
  have hD0 : Bk w0.drew E.F 1054 95 g := hW.F.drew
  refine skn ?_
  refine wp_block ?_
  refine reg_mix [false, false, false, false, false, false, false, false, false, false, false, false, false, false, false, true, true, true] (fun w => Bk w E.F 1054 95 g) mixed (by kernel_rfl) ?_ ?_
  ·exact hD0
  have hW := hW.drew
  have kp := kp.drew
  refine T1 (fun w hC => mv (v := .int _ _) rfl) ?_
  refine T1 (fun w hC => mv (v := .pointer _) rfl) ?_
  refine T1 (fun w hC => nilP rfl) ?_
  refine T1 (fun w hC => fd90_0 rfl) ?_
  refine T1 (fun w hC => ld22 rfl (hC.cellv (by decide) hD.hist)) ?_
  refine T1 (fun w hC => mv (v := .int _ _) rfl) ?_
  refine T1 (fun w hC => mv (v := .int _ _) rfl) ?_
  refine T1 (fun w hC => (slb_lh und22 sz5 rfl rfl rfl (l := wr + j) (h := wr + k) rfl rfl (by omega) (by omega) (by omega)).trans (by rw [Nat.zero_add, show wr + k - (wr + j) = k - j by omega])) ?_
  refine T1 (fun w hC => mv (v := .pointer _) rfl) ?_
  refine T1 (fun w hC => nilP rfl) ?_
  refine T1 (fun w hC => fd90_0 rfl) ?_
  refine T1 (fun w hC => ld22 rfl (hC.cellv (by decide) hD.hist)) ?_
  refine T1 (fun w hC => mv (v := .int _ _) rfl) ?_
  refine T1 (fun w hC => mv (v := .int _ _) rfl) ?_
  refine T1 (fun w hC => (slb_lh und22 sz5 rfl rfl rfl (l := s0) (h := wr + j) rfl rfl (by omega) (by omega) (by omega)).trans (by rw [Nat.zero_add, show wr + j - s0 = d + (j - j0) by omega])) ?_
  refine Ecp (b := E.H) (o := wr + j) (dl := k - j) (b2 := E.H) (o2 := s0) (sl := d + (j - j0)) rfl rfl hW.H hW.H (by omega) (by omega) (fun i hi => by obtain ⟨cc, _, hcc⟩ := hV.byte (s0 + i) (by omega); rw [hcc]; rfl) ?_
  intro w1 hH1 kp1
  refine ⟨hD0.kp kp1 (by simp; exact hE.FH), ?_⟩
  have hW := hW.setH hE hH1 kp1
  have kp := kp.H kp1
  refine E1 (bi rfl rfl (bn_add (c := ((wr + (j + min (d + (j - j0)) (k - j)) : Nat) : Int)) (by omega) (by omega) (by omega))) (hD0.kp kp1 (by simp; exact hE.FH)) ?_
  refine E1 (asg (v := .int _ _) rfl) (hD0.kp kp1 (by simp; exact hE.FH)) ?_
  refine mix_nil ?_
  refine inb_n ?_
  refine then_n ?_
  refine ⟨k - (j + min (d + (j - j0)) (k - j)), _, by omega, rfl, rfl, rfl, rfl, rfl, j + min (d + (j - j0)) (k - j), _, rfl, by omega, by omega, rfl, hW, ?_, kp, ?_⟩
  ·exact hstep j hs1 (min (d + (j - j0)) (k - j)) hV hj0 hdv hmin (by omega)
  ·by_cases hx : k - j ≤ d + (j - j0)
   ·exact .inl (by rw [Nat.min_eq_right hx]; omega)
   ·refine .inr ?_
    rw [Nat.min_eq_left (by omega), show j + (d + (j - j0)) - j0 = (j - j0) + (d + (j - j0)) by omega, mod_add_mul hdv, Nat.add_mod, Nat.mod_self, Nat.zero_add, Nat.mod_mod]
    exact hdv
 ·skip
  obtain rfl : k = j := by omega
  refine wp_exit ?_
  refine then_e ?_
  refine then_e ?_
  refine inb_same ?_
  refine then_n ?_
  refine sqr ?_
  refine Mp rfl ?_
  refine Mi rfl ?_
  refine Np rfl ?_
  refine L1 (fd90_1 rfl) ?_
  refine Lst3 (v := .int _ _) rfl rfl rfl hW.F (by decide) ?_
  intro w1 hb1 kp1
  have hW := hW.setF hE hb1 kp1
  have kp := kp.F kp1
  clear hb1 kp1
  refine nt ?_
  refine sqr ?_
  refine Mi rfl ?_
  refine Mi rfl ?_
  refine L1 (bi rfl rfl (bn_sub (c := (k : Int)) (by omega) (by omega) (by omega))) ?_
  refine Ai rfl ?_
  refine nt ?_
  refine wp_ret ?_
  refine ret1 rfl rfl ?_
  rw [← hk]
  exact ⟨_, rfl, rfl, _, _, hW, hV, rfl, (Off.refl _ g).upd (by simp) _, kp⟩
theorem wc_w (E : Env) (w : World) (g hs bs cs : Nat → Value) (pos wr rd d n : Nat) (full : Bool) (out : List Nat) (hE : E.Ok) (hW : Wd E w g hs bs cs pos) (hD : DD E g wr rd full) (hV : Win out hs) (hw : wr = out.length % 32768) (hd : 0 < d) (hd2 : d ≤ out.length) (hd3 : d ≤ 32768) (hn : n ≤ 258) (hdw : wr < d) :
  Ret 60 [ddp E, .int .i64 (d : Int), .int .i64 (n : Int)] w fun v w' => v = .int .i64 ((min n (32768 - wr) : Nat) : Int) ∧ ∃ g' hs', Wd E w' g' hs' bs cs pos ∧ Win (lz out d (min n (32768 - wr))) hs' ∧ g' 1038 = .int .i64 ((wr + min n (32768 - wr) : Nat) : Int) ∧ Off [1038] g g' ∧ Kp E.L w w' := by
 have kp := Kp.refl E.L w
 have hwl : wr < 32768 := by omega
 obtain ⟨k, hk⟩ : ∃ k, k = min n (32768 - wr) := ⟨_, rfl⟩
 obtain ⟨s0, hs0⟩ : ∃ s0, s0 = 0 := ⟨_, rfl⟩
 obtain ⟨j0, hj0e⟩ : ∃ j0, min (d - wr) k = j0 := ⟨_, rfl⟩
 have hjk : j0 ≤ k := by omega
 have hss : Value.int .i64 0 = .int .i64 ((s0 : Nat) : Int) := by rw [hs0]; rfl
 have hsd : Value.int .i64 ((wr + j0 : Nat) : Int) = .int .i64 ((wr + j0 : Nat) : Int) := rfl
 have hwin1 : Win (lz out d j0) (cpg hs hs wr (wr + 32768 - d) j0) := by
  have := win_step (j := 0) (c := j0) (s := wr + 32768 - d) hd hd2 hd3 hw hV (by omega) (by omega) (fun i hi => by rw [win_src3 hd2 hd3 hw hV (by omega) (by omega), Nat.zero_add, Nat.mod_eq_of_lt (by omega)])
  rwa [Nat.zero_add, Nat.add_zero] at this
 have hstep : ∀ j hs1 c, Win (lz out d j) hs1 → j0 ≤ j → (j - j0) % d = 0 → c ≤ d + (j - j0) → j + c ≤ k → Win (lz out d (j + c)) (cpg hs1 hs1 (wr + j) s0 c) := by
  intro j hs1 c hV1 hj0 hdv hc hjc
  by_cases hc0 : c = 0
  ·subst hc0
   have e : cpg hs1 hs1 (wr + j) s0 0 = hs1 := by funext x; unfold cpg; rw [if_neg (by omega)]
   rw [e, Nat.add_zero]; exact hV1
  refine win_step hd hd2 hd3 hw hV1 (by omega) (by omega) (fun i hi => ?_)
  have hj0d : j0 = d - wr := by omega
  rw [hs0, Nat.zero_add, win_src2 hd hd2 hw hV1 (by omega) (by omega) (by omega), show j + i = (j - j0) + (d - wr + i) by omega, mod_add_mul hdv]
 refine calls_fr (N := 80) Tryd.func60 rfl rfl (by simp [ddp]) rfl ?_
 refine sqr ?_
 refine Ai rfl ?_
 refine nt ?_
 refine sqr ?_
 refine Mp rfl ?_
 refine Np rfl ?_
 refine L1 (fd90_1 rfl) ?_
 refine L1 (ld3 rfl (hW.F.cellv (by decide) hD.wr)) ?_
 refine Ai rfl ?_
 refine nt ?_
 refine sqr ?_
 refine Mi rfl ?_
 refine Ai rfl ?_
 refine nt ?_
 refine sqr ?_
 refine Mi rfl ?_
 refine Mi rfl ?_
 refine L1 (bi rfl rfl (bn_sub (c := (wr : Int) - (d : Int)) rfl (by omega) (by omega))) ?_
 refine Ai rfl ?_
 refine nt ?_
 refine sqr ?_
 refine Mi rfl ?_
 refine Mi rfl ?_
 refine L1 (bi rfl rfl (bn_add (c := ((wr + n : Nat) : Int)) (by omega) (by omega) (by omega))) ?_
 refine Mp rfl ?_
 refine Np rfl ?_
 refine L1 (fd90_0 rfl) ?_
 refine L1 (ld22 rfl (hW.F.cellv (by decide) hD.hist)) ?_
 refine L1 (ln und22 rfl) ?_
 refine L1 ((bmin rfl rfl).trans (by rw [show min (wr + n) 32768 = wr + k by omega])) ?_
 refine Ai rfl ?_
 refine nt ?_
 refine wp_seq ?_
 refine sqr ?_
 refine Mi rfl ?_
 refine L1 (bi rfl rfl (bn_lss (v := true) (decide_eq_true (by omega)))) ?_
 refine nt ?_
 refine cond_t rfl ?_
 refine sqr ?_
 refine Mi rfl ?_
 refine Mp rfl ?_
 refine Np rfl ?_
 refine L1 (fd90_0 rfl) ?_
 refine L1 (ld22 rfl (hW.F.cellv (by decide) hD.hist)) ?_
 refine L1 (ln und22 rfl) ?_
 refine L1 (bi rfl rfl (bn_add (c := ((wr + 32768 - d : Nat) : Int)) (by omega) (by omega) (by omega))) ?_
 refine Ai rfl ?_
 refine nt ?_
 refine wp_seq ?_
 have hD0 := hW.F.drew
 refine reg_mix [false, false, false, false, false, false, false, false, false, false, false, false, false, false, true, true, true] (fun w => Bk w E.F 1054 95 g) mixed (by kernel_rfl) ?_ ?_
 ·exact hD0
 have hW := hW.drew
 have kp := kp.drew
 refine T1 (fun w hC => mv (v := .int _ _) rfl) ?_
 refine T1 (fun w hC => mv (v := .pointer _) rfl) ?_
 refine T1 (fun w hC => nilP rfl) ?_
 refine T1 (fun w hC => fd90_0 rfl) ?_
 refine T1 (fun w hC => ld22 rfl (hC.cellv (by decide) hD.hist)) ?_
 refine T1 (fun w hC => mv (v := .int _ _) rfl) ?_
 refine T1 (fun w hC => mv (v := .int _ _) rfl) ?_
 refine T1 (fun w hC => (slb_lh und22 sz5 rfl rfl rfl (l := wr) (h := wr + k) rfl rfl (by omega) (by omega) (by omega)).trans (by rw [Nat.zero_add, show wr + k - wr = k by omega])) ?_
 refine T1 (fun w hC => mv (v := .pointer _) rfl) ?_
 refine T1 (fun w hC => nilP rfl) ?_
 refine T1 (fun w hC => fd90_0 rfl) ?_
 refine T1 (fun w hC => ld22 rfl (hC.cellv (by decide) hD.hist)) ?_
 refine T1 (fun w hC => mv (v := .int _ _) rfl) ?_
 refine T1 (fun w hC => (slb_l und22 sz5 rfl rfl (l := wr + 32768 - d) rfl (by omega) (by omega)).trans (by rw [Nat.zero_add, show 32768 - (wr + 32768 - d) = d - wr by omega])) ?_
 refine Ecp (b := E.H) (o := wr) (dl := k) (b2 := E.H) (o2 := wr + 32768 - d) (sl := d - wr) rfl rfl hW.H hW.H (by omega) (by omega) (fun i hi => by obtain ⟨cc, _, hcc⟩ := hV.byte (wr + 32768 - d + i) (by omega); rw [hcc]; rfl) ?_
 rw [hj0e]
 intro w1 hH1 kp1
 refine ⟨hD0.kp kp1 (by simp; exact hE.FH), ?_⟩
 have hW := hW.setH hE hH1 kp1
 have kp := kp.H kp1
 have hV : Win (lz out d j0) _ := hwin1
 refine E1 (bi rfl rfl (bn_add (c := ((wr + j0 : Nat) : Int)) (by omega) (by omega) (by omega))) (hD0.kp kp1 (by simp; exact hE.FH)) ?_
 refine E1 (asg (v := .int _ _) rfl) (hD0.kp kp1 (by simp; exact hE.FH)) ?_
 refine mix_nil ?_
 refine then_n ?_
 refine reg_lit ?_
 refine Ai rfl ?_
 refine nt ?_
 refine wp_seq ?_
 refine wp_block ?_
 refine loop_fr (fun m f w' => f 0 = ddp E ∧ f 9 = .int .i64 ((s0 : Nat) : Int) ∧ f 10 = .int .i64 ((wr + k : Nat) : Int) ∧ f 7 = .int .i64 (wr : Int) ∧ ∃ j hs', m = k - j ∧ j0 ≤ j ∧ j ≤ k ∧ f 8 = .int .i64 ((wr + j : Nat) : Int) ∧ Wd E w' g hs' bs cs pos ∧ Win (lz out d j) hs' ∧ Kp E.L w w' ∧ (j = k ∨ (j - j0) % d = 0)) (k - j0) ⟨rfl, hss, rfl, rfl, j0, _, rfl, Nat.le_refl _, hjk, hsd, hW, hV, kp, .inr (by simp)⟩ ?_
 clear hW hV kp
 intro m f w0 HJ
 obtain ⟨s0', ss, se, sr, j, hs1, rfl, hj0, hj, sd, hW, hV, kp, hmul⟩ := HJ
 refine slots (fc s0' (fc ss (fc se (fc sr (fc sd fnil))))) ?_
 refine wp_seq ?_
 refine sqr ?_
 refine Mi rfl ?_
 refine Mi rfl ?_
 refine L1 (bi rfl rfl (bn_lss (v := decide (j < k)) (decide_eq_decide.2 (by omega)))) ?_
 refine nt ?_
 refine cond_d (p := j < k) rfl (fun hlt => ?_) (fun hlt => ?_)
 ·skip
  have hdv : (j - j0) % d = 0 := by rcases hmul with h | h; exact absurd h (by omega); exact h
  have hmin : min (d + (j - j0)) (k - j) ≤ d + (j - j0) := Nat.min_le_left _ _
  have hmin2 : min (d + (j - j0)) (k - j) ≤ k - j := Nat.min_le_right _ _
  have hD0 : Bk w0.drew E.F 1054 95 g := hW.F.drew
  refine skn ?_
  refine wp_block ?_
  refine reg_mix [false, false, false, false, false, false, false, false, false, false, false, false, false, false, false, true, true, true] (fun w => Bk w E.F 1054 95 g) mixed (by kernel_rfl) ?_ ?_
  ·exact hD0
  have hW := hW.drew
  have kp := kp.drew
  refine T1 (fun w hC => mv (v := .int _ _) rfl) ?_
  refine T1 (fun w hC => mv (v := .pointer _) rfl) ?_
  refine T1 (fun w hC => nilP rfl) ?_
  refine T1 (fun w hC => fd90_0 rfl) ?_
  refine T1 (fun w hC => ld22 rfl (hC.cellv (by decide) hD.hist)) ?_
  refine T1 (fun w hC => mv (v := .int _ _) rfl) ?_
  refine T1 (fun w hC => mv (v := .int _ _) rfl) ?_
  refine T1 (fun w hC => (slb_lh und22 sz5 rfl rfl rfl (l := wr + j) (h := wr + k) rfl rfl (by omega) (by omega) (by omega)).trans (by rw [Nat.zero_add, show wr + k - (wr + j) = k - j by omega])) ?_
  refine T1 (fun w hC => mv (v := .pointer _) rfl) ?_
  refine T1 (fun w hC => nilP rfl) ?_
  refine T1 (fun w hC => fd90_0 rfl) ?_
  refine T1 (fun w hC => ld22 rfl (hC.cellv (by decide) hD.hist)) ?_
  refine T1 (fun w hC => mv (v := .int _ _) rfl) ?_
  refine T1 (fun w hC => mv (v := .int _ _) rfl) ?_
  refine T1 (fun w hC => (slb_lh und22 sz5 rfl rfl rfl (l := s0) (h := wr + j) rfl rfl (by omega) (by omega) (by omega)).trans (by rw [Nat.zero_add, show wr + j - s0 = d + (j - j0) by omega])) ?_
  refine Ecp (b := E.H) (o := wr + j) (dl := k - j) (b2 := E.H) (o2 := s0) (sl := d + (j - j0)) rfl rfl hW.H hW.H (by omega) (by omega) (fun i hi => by obtain ⟨cc, _, hcc⟩ := hV.byte (s0 + i) (by omega); rw [hcc]; rfl) ?_
  intro w1 hH1 kp1
  refine ⟨hD0.kp kp1 (by simp; exact hE.FH), ?_⟩
  have hW := hW.setH hE hH1 kp1
  have kp := kp.H kp1
  refine E1 (bi rfl rfl (bn_add (c := ((wr + (j + min (d + (j - j0)) (k - j)) : Nat) : Int)) (by omega) (by omega) (by omega))) (hD0.kp kp1 (by simp; exact hE.FH)) ?_
  refine E1 (asg (v := .int _ _) rfl) (hD0.kp kp1 (by simp; exact hE.FH)) ?_
  refine mix_nil ?_
  refine inb_n ?_
  refine then_n ?_
  refine ⟨k - (j + min (d + (j - j0)) (k - j)), _, by omega, rfl, rfl, rfl, rfl, rfl, j + min (d + (j - j0)) (k - j), _, rfl, by omega, by omega, rfl, hW, ?_, kp, ?_⟩
  ·exact hstep j hs1 (min (d + (j - j0)) (k - j)) hV hj0 hdv hmin (by omega)
  ·by_cases hx : k - j ≤ d + (j - j0)
   ·exact .inl (by rw [Nat.min_eq_right hx]; omega)
   ·refine .inr ?_
    rw [Nat.min_eq_left (by omega), show j + (d + (j - j0)) - j0 = (j - j0) + (d + (j - j0)) by omega, mod_add_mul hdv, Nat.add_mod, Nat.mod_self, Nat.zero_add, Nat.mod_mod]
    exact hdv
 ·skip
  obtain rfl : k = j := by omega
  refine wp_exit ?_
  refine then_e ?_
  refine then_e ?_
  refine inb_same ?_
  refine then_n ?_
  refine sqr ?_
  refine Mp rfl ?_
  refine Mi rfl ?_
  refine Np rfl ?_
  refine L1 (fd90_1 rfl) ?_
  refine Lst3 (v := .int _ _) rfl rfl rfl hW.F (by decide) ?_
  intro w1 hb1 kp1
  have hW := hW.setF hE hb1 kp1
  have kp := kp.F kp1
  clear hb1 kp1
  refine nt ?_
  refine sqr ?_
  refine Mi rfl ?_
  refine Mi rfl ?_
  refine L1 (bi rfl rfl (bn_sub (c := (k : Int)) (by omega) (by omega) (by omega))) ?_
  refine Ai rfl ?_
  refine nt ?_
  refine wp_ret ?_
  refine ret1 rfl rfl ?_
  rw [← hk]
  exact ⟨_, rfl, rfl, _, _, hW, hV, rfl, (Off.refl _ g).upd (by simp) _, kp⟩
end Go.Proofs.YtejeloeaklpinaaDoor
namespace Go.Proofs.YtejeloeaklpinaaDoor
/-- As Q; by a goto: what J says of its label. -/
def jumps (J : Nat → Act → World → Prop) (Q : Exit → Act → World → Prop) : Exit → Act → World → Prop
 | .goto l, a, w => J l a w
 | e, a, w => Q e a w
section
variable {P : Program} {a : Act} {w : World} {Q : Exit → Act → World → Prop} {J : Nat → Act → World → Prop}
theorem jmp_g {l : Nat} (h : J l a w) : jumps J Q (.goto l) a w := h
theorem jmp_r (h : Q .ret a w) : jumps J Q .ret a w := h
/-- A scope in which the run jumps to labels: what holds at each label with a number that each pass lowers. -/
theorem wp_scope_labels {c : Code} (J : Nat → Nat → Act → World → Prop)
  (first : c.wp P (jumps (fun l a w => ∃ n, J l n a w) Q) a w)
  (pass : ∀ l n a w, J l n a w → ∃ rest, findLabel c l = some rest ∧ rest.wp P (jumps (fun l' a' w' => ∃ n', n' < n ∧ J l' n' a' w') Q) a w) : (Code.scope c).wp P Q a w := by
 intro b k cs
 have key : ∀ n l a w, J l n a w → ∃ rest, findLabel c l = some rest ∧ ∃ e a' w', Q e a' w' ∧ Arrives P (lone (b.at a (.code rest :: .inScope c :: k)) cs w) b k cs e a' w' := by
  intro n
  induction n using Nat.strongRecOn with
  | _ n ih =>
   intro l a w hJ
   obtain ⟨rest, hf, hp⟩ := pass l n a w hJ
   refine ⟨rest, hf, ?_⟩
   obtain ⟨e, a₁, w₁, hq, harr⟩ := hp b (.inScope c :: k) cs
   cases e with
   | normal => exact ⟨.normal, a₁, w₁, hq, Go.Steps.trans harr (.one step_inScope)⟩
   | exit id => exact ⟨.exit id, a₁, w₁, hq, fun k' hk => harr k' (by simp [exitTo, hk])⟩
   | goto l' =>
    obtain ⟨n', hlt, hJ'⟩ := hq
    obtain ⟨rest', hf', e₂, a₂, w₂, hq₂, harr₂⟩ := ih n' hlt l' a₁ w₁ hJ'
    exact ⟨e₂, a₂, w₂, hq₂, .of_steps (harr _ (by simp [gotoIn, hf'])) harr₂⟩
   | ret => exact ⟨_, a₁, w₁, hq, harr⟩
   | panic ch => exact ⟨_, a₁, w₁, hq, harr⟩
   | outgrown => exact ⟨_, a₁, w₁, hq, harr⟩
 obtain ⟨e, a₁, w₁, hq, harr⟩ := first b (.inScope c :: k) cs
 cases e with
 | normal => exact ⟨.normal, a₁, w₁, hq, .head step_scope (Go.Steps.trans harr (.one step_inScope))⟩
 | exit id => exact ⟨.exit id, a₁, w₁, hq, fun k' hk => .head step_scope (harr k' (by simp [exitTo, hk]))⟩
 | goto l' =>
  obtain ⟨n', hJ'⟩ := hq
  obtain ⟨rest', hf', e₂, a₂, w₂, hq₂, harr₂⟩ := key n' l' a₁ w₁ hJ'
  exact ⟨e₂, a₂, w₂, hq₂, .of_steps (.head step_scope (harr _ (by simp [gotoIn, hf']))) harr₂⟩
 | ret => exact ⟨_, a₁, w₁, hq, .of_steps (.one step_scope) harr⟩
 | panic ch => exact ⟨_, a₁, w₁, hq, .of_steps (.one step_scope) harr⟩
 | outgrown => exact ⟨_, a₁, w₁, hq, .of_steps (.one step_scope) harr⟩
end
section
variable {S : Src} {a : A} {hl : Cd} {hd : Option Cd} {v p pos p2 pos2 len dist p3 pos3 : Nat}
theorem mic_huff {c : Option (Nat × Nat)} (h : a.md = .huff hl hd c) : mic S a = mHuff S a hl hd c := by unfold mic; rw [h]
theorem mh_short (h : getSym S hl a.p a.pos = .short) : mHuff S a hl hd none = (a.short S, true) := by simp only [mHuff, h]
theorem mh_bad (h : getSym S hl a.p a.pos = .bad p pos) : mHuff S a hl hd none = ({ a with p := p, pos := pos }.bad, true) := by simp only [mHuff, h]
theorem mh_litF (h : getSym S hl a.p a.pos = .ok v p pos) (hv : v < 256) (hf : (a.out.length + 1) % 32768 = 0) : mHuff S a hl hd none = ({ a with p := p, pos := pos, out := a.out ++ [v], md := .huff hl hd none }.flush, true) := by simp only [mHuff, h]; rw [if_pos hv, if_pos hf]
theorem mh_lit (h : getSym S hl a.p a.pos = .ok v p pos) (hv : v < 256) (hf : (a.out.length + 1) % 32768 ≠ 0) : mHuff S a hl hd none = ({ a with p := p, pos := pos, out := a.out ++ [v], md := .huff hl hd none }, false) := by simp only [mHuff, h]; rw [if_pos hv, if_neg hf]
theorem mh_eob (h : getSym S hl a.p a.pos = .ok 256 p pos) : mHuff S a hl hd none = ({ a with p := p, pos := pos }.finish, true) := by simp only [mHuff, h]; rw [if_neg (by decide), if_pos trivial]
theorem mh_len (h : getSym S hl a.p a.pos = .ok v p pos) (h1 : ¬ v < 256) (h2 : v ≠ 256) : mHuff S a hl hd none = (match getLen S v p pos with
    | .short => (a.short S, true)
    | .bad p pos => ({ a with p := p, pos := pos }.bad, true)
    | .ok len p pos => match getDist S hd p pos with
     | .short => (a.short S, true)
     | .bad p pos => ({ a with p := p, pos := pos }.bad, true)
     | .ok dist p pos => if min a.out.length 32768 < dist then ({ a with p := p, pos := pos }.bad, true)
      else ({ a with p := p, pos := pos, md := .huff hl hd (some (len, dist)) }, false)) := by
 simp only [mHuff, h]; rw [if_neg h1, if_neg h2]
 rfl
theorem getLen_bad (h : 286 ≤ v) : getLen S v p pos = .bad p pos := by unfold getLen; rw [if_pos h]
theorem getLen_0 (h : ¬ 286 ≤ v) (h0 : (lenOf v).2 = 0) : getLen S v p pos = .ok (lenOf v).1 p pos := by unfold getLen; rw [if_neg h, if_pos h0]
theorem getLen_n (h : ¬ 286 ≤ v) (h0 : (lenOf v).2 ≠ 0) (h1 : p + (lenOf v).2 ≤ 8 * S.N) : getLen S v p pos = .ok ((lenOf v).1 + bv S.D p (lenOf v).2) (p + (lenOf v).2) (rdTo p pos (lenOf v).2) := by unfold getLen getBits; rw [if_neg h, if_neg h0, if_pos h1]; rfl
theorem getLen_short (h : ¬ 286 ≤ v) (h0 : (lenOf v).2 ≠ 0) (h1 : 8 * S.N < p + (lenOf v).2) : getLen S v p pos = .short := by unfold getLen getBits; rw [if_neg h, if_neg h0, if_neg (by omega)]; rfl
theorem lenOf_le (h : ¬ v < 257) (h2 : ¬ 286 ≤ v) : (lenOf v).2 ≤ 5 ∧ 3 ≤ (lenOf v).1 ∧ (lenOf v).1 + 2 ^ (lenOf v).2 ≤ 259 := by
 have key : ∀ v, v < 286 → 257 ≤ v → (lenOf v).2 ≤ 5 ∧ 3 ≤ (lenOf v).1 ∧ (lenOf v).1 + 2 ^ (lenOf v).2 ≤ 259 := by decide +kernel
 exact key v (by omega) (by omega)
/-- The first half of a distance: its symbol. -/
def getDs (S : Src) (hd : Option Cd) (p pos : Nat) : Got := match hd with
  | none => (getBits S p pos 5).bind fun x p pos => .ok (rev 5 x) p pos
  | some c => getSym S c p pos
theorem getDist_eq (hd : Option Cd) (p pos : Nat) : getDist S hd p pos = (getDs S hd p pos).bind fun d p pos =>
   if d < 4 then .ok (d + 1) p pos
   else if d < 30 then (getBits S p pos ((d - 2) / 2)).bind fun x p pos => .ok (2 ^ ((d - 2) / 2 + 1) + 1 + (d % 2 * 2 ^ ((d - 2) / 2) + x)) p pos
   else .bad p pos := by
 unfold getDist getDs
 cases hd <;> rfl
theorem gd_short (h : getDs S hd p pos = .short) : getDist S hd p pos = .short := by rw [getDist_eq, h]; rfl
theorem gd_bad (h : getDs S hd p pos = .bad p2 pos2) : getDist S hd p pos = .bad p2 pos2 := by rw [getDist_eq, h]; rfl
theorem gd_small (h : getDs S hd p pos = .ok v p2 pos2) (hv : v < 4) : getDist S hd p pos = .ok (v + 1) p2 pos2 := by rw [getDist_eq, h]; simp only [Got.bind]; rw [if_pos hv]
theorem gd_big (h : getDs S hd p pos = .ok v p2 pos2) (hv : ¬ v < 30) : getDist S hd p pos = .bad p2 pos2 := by rw [getDist_eq, h]; simp only [Got.bind]; rw [if_neg (by omega), if_neg hv]
theorem gd_n (h : getDs S hd p pos = .ok v p2 pos2) (h4 : ¬ v < 4) (hv : v < 30) (h1 : p2 + (v - 2) / 2 ≤ 8 * S.N) : getDist S hd p pos = .ok (2 ^ ((v - 2) / 2 + 1) + 1 + (v % 2 * 2 ^ ((v - 2) / 2) + bv S.D p2 ((v - 2) / 2))) (p2 + (v - 2) / 2) (rdTo p2 pos2 ((v - 2) / 2)) := by
 rw [getDist_eq, h]; simp only [Got.bind]; rw [if_neg h4, if_pos hv]; unfold getBits; rw [if_pos h1]
theorem gd_ns (h : getDs S hd p pos = .ok v p2 pos2) (h4 : ¬ v < 4) (hv : v < 30) (h1 : 8 * S.N < p2 + (v - 2) / 2) : getDist S hd p pos = .short := by
 rw [getDist_eq, h]; simp only [Got.bind]; rw [if_neg h4, if_pos hv]; unfold getBits; rw [if_neg (by omega)]
theorem ds_none (h : p + 5 ≤ 8 * S.N) : getDs S none p pos = .ok (rev 5 (bv S.D p 5)) (p + 5) (rdTo p pos 5) := by unfold getDs getBits; rw [if_pos h]; rfl
theorem ds_nones (h : 8 * S.N < p + 5) : getDs S none p pos = .short := by unfold getDs getBits; rw [if_neg (by omega)]; rfl
theorem dist_le (h : v < 30) (x : Nat) (hx : x < 2 ^ ((v - 2) / 2)) : 2 ^ ((v - 2) / 2 + 1) + 1 + (v % 2 * 2 ^ ((v - 2) / 2) + x) ≤ 32768 := by
 have h1 : 2 ^ ((v - 2) / 2) ≤ 2 ^ 13 := Nat.pow_le_pow_right (by decide) (by omega)
 have h2 : v % 2 * 2 ^ ((v - 2) / 2) ≤ 1 * 2 ^ ((v - 2) / 2) := Nat.mul_le_mul_right _ (by omega)
 rw [Nat.pow_succ]
 omega
theorem mh_cpF (h : avail a.out ≤ len) : mHuff S a hl hd (some (len, dist)) = ({ a with out := lz a.out dist (avail a.out), md := .huff hl hd (some (len - avail a.out, dist)) }.flush, true) := by simp only [mHuff]; rw [if_pos h]
theorem mh_cp (h : ¬ avail a.out ≤ len) : mHuff S a hl hd (some (len, dist)) = ({ a with out := lz a.out dist len, md := .huff hl hd none }, false) := by simp only [mHuff]; rw [if_neg h]
end
theorem SymPost.cases {E : Env} {w w' : World} {g hs bs cs : Nat → Value} {r : Got} {v : Value} (h : SymPost E w g hs bs cs r v w') : ∃ (s : Nat) (ev : Value), v = .tuple #[.int .i64 (s : Int), ev] ∧ Kp E.L w w' ∧
  ((∃ p' pos' g', r = .ok s p' pos' ∧ ev = .nilIface ∧ Wd E w' g' hs bs cs pos' ∧ Bt E g' p' pos' ∧ Off [2, 3, 4] g g') ∨ (∃ g', r = .short ∧ ev = UEOFv E ∧ Wd E w' g' hs bs cs E.N ∧ Off [2, 3, 4] g g') ∨
   (∃ p' pos' g' x, r = .bad p' pos' ∧ ev = .iface 107 (.int .i64 x) ∧ Wd E w' g' hs bs cs pos' ∧ Off [2, 3, 4, 1048] g g')) := by
 obtain ⟨g', kp, h⟩ := h
 cases r with
 | ok s p' pos' => obtain ⟨rfl, h1, h2, h3⟩ := h; exact ⟨s, _, rfl, kp, .inl ⟨p', pos', g', rfl, rfl, h1, h2, h3⟩⟩
 | short => obtain ⟨rfl, h1, h2⟩ := h; exact ⟨0, _, rfl, kp, .inr (.inl ⟨g', rfl, rfl, h1, h2⟩)⟩
 | bad p' pos' => obtain ⟨⟨x, rfl⟩, h1, h2⟩ := h; exact ⟨0, _, rfl, kp, .inr (.inr ⟨p', pos', g', x, rfl, rfl, h1, h2⟩)⟩
theorem getSym_lt {S : Src} {c : Cd} (hc : LkOk c) {p pos v p' pos' : Nat} (h : getSym S c p pos = .ok v p' pos') : v < 512 := by
 unfold getSym at h
 simp only at h
 split at h
 ·split at h <;> cases h
 ·split at h
  ·cases h; have := hc.small (S.D / 2 ^ p); omega
  ·cases h
theorem HMode.l {E : Env} {w : World} {g : Nat → Value} {hl : Cd} {hd : Option Cd} (h : HMode E w g hl hd) : LkOk hl ∧ ∃ hb ho, g 1050 = .pointer (some ⟨hb, ho, none⟩) ∧ HAt E w g hb ho hl := by
 cases hd with
 | none => obtain ⟨h1, _, X, gx, h3, h4, h5, h6⟩ := h; exact ⟨h1, X, 0, h3, .inr ⟨h4, rfl, gx, h5, h6⟩⟩
 | some hd => obtain ⟨h1, _, h3, _, h5, _⟩ := h; exact ⟨h1, E.F, 5, h3, .inl ⟨rfl, .inl rfl, h5⟩⟩
theorem HMode.d {E : Env} {w : World} {g : Nat → Value} {hl hd : Cd} (h : HMode E w g hl (some hd)) : LkOk hd ∧ g 1051 = .pointer (some ⟨E.F, 520, none⟩) ∧ HAt E w g E.F 520 hd := by
 obtain ⟨_, h1, _, h4, _, h6⟩ := h; exact ⟨h1, h4, .inl ⟨rfl, .inr rfl, h6⟩⟩
theorem getD_app1 {xs ys : List Nat} {k : Nat} : (xs ++ ys).getD k 0 = if k < xs.length then xs.getD k 0 else ys.getD (k - xs.length) 0 := by
 split
 ·rename_i h; rw [List.getD_eq_getElem?_getD, List.getElem?_append_left h, ← List.getD_eq_getElem?_getD]
 ·rename_i h; rw [List.getD_eq_getElem?_getD, List.getElem?_append_right (by omega), ← List.getD_eq_getElem?_getD]
theorem win_push {out : List Nat} {hs : Nat → Value} {c wr : Nat} (h : Win out hs) (hw : wr = out.length % 32768) (hc : c < 256) : Win (out ++ [c]) (upd hs wr (.int .u8 (c : Int))) := by
 refine ⟨fun k hk => ?_, fun i hi hi2 => ?_, fun i hi => ?_⟩
 ·unfold upd
  split
  ·exact ⟨c, hc, rfl⟩
  ·exact h.byte k hk
 ·rw [List.length_append] at hi hi2
  simp only [List.length_singleton] at hi hi2
  rw [getD_app1]
  unfold upd
  by_cases h1 : i < out.length
  ·rw [if_neg (by omega), if_pos h1]; exact h.last i h1 (by omega)
  ·obtain rfl : i = out.length := by omega
   rw [if_pos hw.symm, if_neg (by omega)]
   simp
 ·rw [List.length_append, List.length_singleton] at hi
  rw [getD_app1]
  split
  ·rename_i h1; exact h.small i h1
  ·obtain rfl : i = out.length := by omega
   simpa using hc
/-- The reader within a block with codes. -/
structure HS (E : Env) (w : World) (g hs bs cs : Nat → Value) (a : A) (hl : Cd) (hd : Option Cd) : Prop where
 C : Cr E w g hs bs cs a.pos a.out a.fl (a.out.length % 32768) a.e
 B : Bt E g a.p a.pos
 fin : g 1047 = .bool a.fin
 err : g 1048 = .nilIface
 M : HMode E w g hl hd
 ss : SS g
theorem HS.next {E : Env} {w w' : World} {g g' hs hs' bs cs : Nat → Value} {a b : A} {hl : Cd} {hd : Option Cd} {L : List Nat} (h : HS E w g hs bs cs a hl hd) (hW : Wd E w' g' hs' bs cs b.pos) (hB : Bt E g' b.p b.pos) (o : Off L g g') (hL : ∀ j, j ∈ L → j = 2 ∨ j = 3 ∨ j = 4 ∨ 1038 ≤ j) (hL2 : 1047 ∉ L ∧ 1048 ∉ L ∧ 1050 ∉ L ∧ 1051 ∉ L) (k : Kp E.L w w')
  (hV : Win b.out hs') (hD : Dw E g' b.out.length b.fl (b.out.length % 32768)) (hT : TR E g' b.e b.fl) (hss : SS g') (hf : b.fin = a.fin) : HS E w' g' hs' bs cs b hl hd := by
 have n : ∀ j, j ≠ 2 → j ≠ 3 → j ≠ 4 → j < 1038 → j ∉ L := fun j h2 h3 h4 h5 hm => by have := hL j hm; omega
 refine ⟨⟨hW, h.C.S.off o ⟨n _ ?_ ?_ ?_ ?_, n _ ?_ ?_ ?_ ?_, n _ ?_ ?_ ?_ ?_, n _ ?_ ?_ ?_ ?_, n _ ?_ ?_ ?_ ?_⟩, hV, hD, hT, HZ.offs h.C.Z o fun j hj => by have := hL j hj; omega⟩, hB, by rw [o _ hL2.1, h.fin, hf], (o _ hL2.2.1).trans h.err, h.M.keep k.X o (fun j hj => by have := hL j hj; omega) ⟨hL2.2.2.1, hL2.2.2.2⟩, hss⟩ <;> omega
theorem HS.rep {E : Env} {w : World} {g hs bs cs : Nat → Value} {a : A} {hl : Cd} {hd : Option Cd} (h : HS E w g hs bs cs a hl hd) (he : a.err = 0) (hm : Md E w g a.out a.md) (h45 : g 1045 = fnv (stepOf a.md)) (hsm : SSm g a.md) : Rep E w a :=
 ⟨g, hs, bs, cs, h.C, .inl ⟨he, h.err⟩, fun _ => ⟨⟨h.B, h.fin, h.err, hm⟩, h45, hsm⟩⟩
theorem rep_err {E : Env} {w w' : World} {g g' hs bs cs : Nat → Value} {a : A} {L : List Nat} {hl : Cd} {hd : Option Cd} (h : HS E w g hs bs cs a hl hd) (b : A) (hW : Wd E w' g' hs bs cs b.pos) (o : Off L g g') (hL : ∀ j, j ∈ L → j = 2 ∨ j = 3 ∨ j = 4 ∨ 1041 ≤ j ∧ j ≠ 1049) (ho : b.out = a.out) (hf : b.fl = a.fl) (he : b.e = a.e) (her : b.err ≠ 0) (hv : ErrV E b.err (g' 1048)) : Rep E w' b := by
 refine ⟨g', hs, bs, cs, ?_, hv, fun h0 => absurd h0 her⟩
 rw [ho, hf, he]
 exact h.C.off hW o hL
/-- A window as long as it may be. -/
theorem win_full {out : List Nat} {hs : Nat → Value} (h : Win out hs) : ∃ outX : List Nat, Win outX hs ∧ outX.length % 32768 = out.length % 32768 ∧ 32768 ≤ outX.length ∧ ∀ hs', Win outX hs' → Win out hs' := by
 have hb := h.byte
 have hex : ∃ vf : Nat → Nat, ∀ k, k < 32768 → vf k < 256 ∧ hs k = .int .u8 (vf k) := by
  refine ⟨fun k => if hk : k < 32768 then (hb k hk).choose else 0, fun k hk => ?_⟩
  simp only [dif_pos hk]
  exact (hb k hk).choose_spec
 obtain ⟨vf, hvf⟩ := hex
 have hlen : ((List.range (32768 + out.length % 32768)).map fun i => vf (i % 32768)).length = 32768 + out.length % 32768 := by simp
 have hget : ∀ i, i < 32768 + out.length % 32768 → ((List.range (32768 + out.length % 32768)).map fun i => vf (i % 32768)).getD i 0 = vf (i % 32768) := fun i hi => by
  rw [List.getD_eq_getElem?_getD, List.getElem?_map, List.getElem?_range hi]; rfl
 refine ⟨(List.range (32768 + out.length % 32768)).map fun i => vf (i % 32768), ⟨hb, fun i hi _ => ?_, fun i hi => ?_⟩, by rw [hlen]; omega, by rw [hlen]; omega, fun hs' h' => ?_⟩
 ·rw [hlen] at hi
  rw [hget i hi]
  exact (hvf _ (Nat.mod_lt _ (by decide))).2
 ·rw [hlen] at hi
  rw [hget i hi]
  exact (hvf _ (Nat.mod_lt _ (by decide))).1
 ·have hsame : ∀ k, k < 32768 → hs' k = hs k := by
   intro k hk
   have hw := Nat.mod_lt out.length (show 32768 > 0 by decide)
   by_cases hkw : k < out.length % 32768
   ·have := h'.last (32768 + k) (by rw [hlen]; omega) (by rw [hlen]; omega)
    rw [hget _ (by omega), show (32768 + k) % 32768 = k by omega] at this
    rw [this, (hvf k hk).2]
   ·have := h'.last k (by rw [hlen]; omega) (by rw [hlen]; omega)
    rw [hget _ (by omega), Nat.mod_eq_of_lt hk] at this
    rw [this, (hvf k hk).2]
  exact ⟨h'.byte, fun i hi hi2 => by rw [hsame _ (Nat.mod_lt _ (by decide))]; exact h.last i hi hi2, h.small⟩
end Go.Proofs.YtejeloeaklpinaaDoor
namespace Go.Proofs.YtejeloeaklpinaaDoor
/-- What is told is only added to. -/
def Pre (a b : List Nat) : Prop := ∃ r, b = a ++ r
theorem Pre.refl (a : List Nat) : Pre a a := ⟨[], by simp⟩
theorem Pre.trans {a b c : List Nat} (h : Pre a b) (k : Pre b c) : Pre a c := by
 obtain ⟨r, rfl⟩ := h
 obtain ⟨s, rfl⟩ := k
 exact ⟨r ++ s, by simp⟩
theorem Pre.app (a r : List Nat) : Pre a (a ++ r) := ⟨r, rfl⟩
theorem Pre.len {a b : List Nat} (h : Pre a b) : a.length ≤ b.length := by obtain ⟨r, rfl⟩ := h; simp
theorem lz_pre (out : List Nat) (d : Nat) : ∀ k, Pre out (lz out d k)
 | 0 => Pre.refl _
 | k + 1 => (lz_pre out d k).trans ⟨_, rfl⟩
theorem finish_out (a : A) : a.finish.out = a.out := by unfold A.finish; split <;> rfl
theorem mDyn_out (S : Src) (a : A) : (mDyn S a).1.out = a.out := by
 unfold mDyn
 split
 ·rfl
 ·simp only
  split
  ·rfl
  ·split
   ·rfl
   ·split
    ·rfl
    ·split
     ·rfl
     ·rfl
     ·split <;> rfl
theorem mStored_out (S : Src) (a : A) : (mStored S a).1.out = a.out := by
 unfold mStored
 split
 ·rfl
 ·split
  ·rfl
  ·split
   ·show A.out (A.finish _) = _; rw [finish_out]; rfl
   ·rfl
theorem mic_pre (S : Src) (a : A) : Pre a.out (mic S a).1.out := by
 unfold mic
 split
 ·unfold mNext
  split
  ·exact Pre.refl _
  ·simp only
   split
   ·rw [mStored_out]; exact Pre.refl _
   ·split
    ·exact Pre.refl _
    ·split
     ·rw [mDyn_out]; exact Pre.refl _
     ·exact Pre.refl _
 ·rename_i n _
  unfold mData
  split
  ·exact Pre.app _ _
  ·split
   ·exact Pre.app _ _
   ·show Pre _ (A.out (A.finish _)); rw [finish_out]; exact Pre.app _ _
 ·rename_i hl hd c _
  cases c with
  | none =>
   simp only [mHuff]
   split
   ·exact Pre.refl _
   ·exact Pre.refl _
   ·split
    ·split
     ·exact Pre.app _ _
     ·exact Pre.app _ _
    ·split
     ·show Pre _ (A.out (A.finish _)); rw [finish_out]; exact Pre.refl _
     ·split
      ·exact Pre.refl _
      ·exact Pre.refl _
      ·split
       ·exact Pre.refl _
       ·exact Pre.refl _
       ·split <;> exact Pre.refl _
  | some x =>
   obtain ⟨len, dist⟩ := x
   simp only [mHuff]
   split <;> exact lz_pre _ _ _
theorem Runs.pre {S : Src} {a b : A} (h : Runs S a b) : Pre a.out b.out := by
 induction h with
 | @stop a b h => have := mic_pre S a; rw [h] at this; exact this
 | @more a b c h _ ih => have := mic_pre S a; rw [h] at this; exact Pre.trans this ih
theorem late_out (a : A) : a.late.out = a.out := by unfold A.late; split <;> rfl
theorem late_e (a : A) : a.late.e = a.e := by unfold A.late; split <;> rfl
theorem late_err (a : A) : a.late.err = a.err := by unfold A.late; split <;> rfl
theorem late_ge (a : A) (h : a.fl ≤ a.out.length) : a.fl ≤ a.late.fl := by unfold A.late; split; exact h; exact Nat.le_refl _
/-- The run to its end. -/
inductive Ch (S : Src) : A → A → Prop where
 | done {a : A} : a.err ≠ 0 → Ch S a { a with e := a.fl }
 | step {a b z : A} : a.err = 0 → Runs S { a with e := a.fl } b → Ch S b.late z → Ch S a z
theorem Ch.det {S : Src} {a y z : A} (h : Ch S a y) (k : Ch S a z) : y = z := by
 induction h with
 | done h => cases k with
  | done => rfl
  | step h2 => exact absurd h2 h
 | step h1 h2 _ ih => cases k with
  | done h => exact absurd h1 h
  | step _ k2 k3 => rw [h2.det k2] at ih; exact ih k3
theorem Ch.e {S : Src} {a z : A} {e : Nat} (h : Ch S { a with e := e } z) : Ch S a z := by
 cases h with
 | done h => exact .done (a := a) h
 | step h1 h2 h3 => exact .step (a := a) h1 h2 h3
/-- What holds at the end. -/
theorem Ch.fin {S : Src} {a z : A} (h : Ch S a z) : a.fl ≤ a.out.length → z.err ≠ 0 ∧ Pre a.out z.out ∧ a.fl ≤ z.fl ∧ z.fl ≤ z.out.length := by
 induction h with
 | done h => intro h0; exact ⟨h, Pre.refl _, Nat.le_refl _, h0⟩
 | @step a b z h1 h2 _ ih =>
  intro h0
  obtain ⟨g1, g2, g3, _, _⟩ := h2.goes h0
  obtain ⟨i1, i2, i3, i4⟩ := ih (late_fl _ g3)
  have := late_ge b g3
  rw [late_out] at i2
  exact ⟨i1, Pre.trans h2.pre i2, by show a.fl ≤ z.fl; have : a.fl ≤ b.fl := g2; omega, i4⟩
theorem A.eta_e {a : A} (h : a.e = a.fl) : ({ a with e := a.fl } : A) = a := by
 cases a
 cases h
 rfl
theorem Reads.ch {S : Src} {n : Nat} {a b : A} {k er : Nat} (h : Reads S n a k er b) : a.e ≤ a.fl → a.fl ≤ a.out.length →
  (∀ z, Ch S b z → Ch S a z) ∧ b.e = a.e + k ∧ b.e ≤ b.fl ∧ b.fl ≤ b.out.length ∧ (er ≠ 0 → b.e = b.fl ∧ b.err = er) ∧ (er = 0 → 0 < n → 0 < k) := by
 induction h with
 | @give a h =>
  intro h1 h2
  refine ⟨fun z hz => hz.e, rfl, by simp only; omega, h2, fun her => ?_, fun _ hn => by omega⟩
  split at her
  ·rename_i hle; rw [if_pos hle]; exact ⟨by simp only; omega, rfl⟩
  ·exact absurd rfl her
 | @done a h1 h2 => intro h3 h4; exact ⟨fun z hz => hz, by omega, h3, h4, fun _ => ⟨h1, rfl⟩, fun h => absurd h h2⟩
 | @step a b c k er h1 h2 hr _ ih =>
  intro h3 h4
  obtain ⟨g1, g2, g3, _, _⟩ := hr.goes h4
  have hl := late_ge b g3
  obtain ⟨i1, i2, i3, i4, i5, i6⟩ := ih (by rw [late_e]; omega) (late_fl _ g3)
  refine ⟨fun z hz => .step h2 ?_ (i1 z hz), by rw [i2, late_e, g1], i3, i4, i5, i6⟩
  rw [A.eta_e h1]
  exact hr
theorem take_more {b z : List Nat} (h : Pre b z) {e k f : Nat} (h1 : e + k ≤ b.length) (h2 : e + k ≤ f) : (b.drop e).take k ++ (z.drop (e + k)).take (f - (e + k)) = (z.drop e).take (f - e) := by
 obtain ⟨r, rfl⟩ := h
 have e1 : (b.drop e).take k = ((b ++ r).drop e).take k := by
  rw [List.drop_append_of_le_length (by omega), List.take_append_of_le_length (by rw [List.length_drop]; omega)]
 rw [e1, ← List.drop_drop, show f - e = k + (f - (e + k)) by omega, List.take_add]
theorem code_ne3 (er : Nat) : code er ≠ 3 := by unfold code; split; decide; split <;> decide
/-- What is drained is what the run tells. -/
theorem Dr.ch {S : Src} {szs : List Int} {i c : Nat} {a b : A} {acc r : List Nat} (h : Dr S szs i a acc r c b) : c ≠ 3 → a.e ≤ a.fl → a.fl ≤ a.out.length →
  ∃ z, Ch S a z ∧ c = code z.err ∧ b.pos = z.pos ∧ a.e ≤ z.fl ∧ r = acc ++ (z.out.drop a.e).take (z.fl - a.e) := by
 induction h with
 | stop => intro h; exact absurd rfl h
 | over => intro h; exact absurd rfl h
 | @fin i k er a a' acc h1 h2 h3 h0 =>
  intro _ h4 h5
  obtain ⟨g1, g2, g3, g4, g5, _⟩ := h2.ch h4 h5
  obtain ⟨g6, g7⟩ := g5 h0
  have hz : Ch S a' a' := by
   have := Ch.done (S := S) (a := a') (by rw [g7]; exact h0)
   rw [A.eta_e g6] at this
   exact this
  refine ⟨a', g1 _ hz, by rw [g7], rfl, by omega, ?_⟩
  rw [show a'.e - k = a.e by omega, show a'.fl - a.e = k by omega]
 | @next i k a a' b acc r c h1 h2 h3 _ ih =>
  intro hc h4 h5
  obtain ⟨g1, g2, g3, g4, _⟩ := h2.ch h4 h5
  obtain ⟨z, i1, i2, i3, i4, i5⟩ := ih hc g3 g4
  obtain ⟨_, j2, _, j4⟩ := i1.fin g4
  refine ⟨z, g1 _ i1, i2, i3, by omega, ?_⟩
  rw [i5, g2, List.append_assoc, show a.e + k - k = a.e by omega, take_more j2 (by omega) (by omega)]
/-- What is read of a stream, whatever the buffers. -/
theorem InfR.det {data dict : List Nat} {szs szs' : List Int} {r r' : List Nat} {c c' left left' : Nat} (h : InfR data dict szs r c left) (h' : InfR data dict szs' r' c' left') (hc : c ≠ 3) (hc' : c' ≠ 3) : r = r' ∧ c = c' ∧ left = left' := by
 obtain ⟨a, hd, hl⟩ := h
 obtain ⟨a', hd', hl'⟩ := h'
 obtain ⟨z, z1, z2, z3, _, z5⟩ := hd.ch hc (Nat.le_refl _) (Nat.le_refl _)
 obtain ⟨z', y1, y2, y3, _, y5⟩ := hd'.ch hc' (Nat.le_refl _) (Nat.le_refl _)
 obtain rfl := z1.det y1
 exact ⟨by rw [z5, y5], by rw [z2, y2], by rw [hl, hl', z3, y3]⟩
/-- The same sizes: the same, stopped or not. -/
theorem Dr.det {S : Src} {szs : List Int} {i c c' : Nat} {a b b' : A} {acc r r' : List Nat} (h : Dr S szs i a acc r c b) (h' : Dr S szs i a acc r' c' b') : r = r' ∧ c = c' ∧ b = b' := by
 induction h with
 | stop h => cases h' with
  | stop => exact ⟨rfl, rfl, rfl⟩
  | over h1 => omega
  | fin h1 => omega
  | next h1 => omega
 | over h1 h2 h3 => cases h' with
  | stop h => omega
  | over k1 k2 k3 => obtain ⟨rfl, rfl, rfl⟩ := h2.det k2; exact ⟨rfl, rfl, rfl⟩
  | fin k1 k2 k3 => obtain ⟨rfl, rfl, rfl⟩ := h2.det k2; omega
  | next k1 k2 k3 => obtain ⟨rfl, rfl, rfl⟩ := h2.det k2; omega
 | fin h1 h2 h3 h4 => cases h' with
  | stop h => omega
  | over k1 k2 k3 => obtain ⟨rfl, rfl, rfl⟩ := h2.det k2; omega
  | fin k1 k2 k3 => obtain ⟨rfl, rfl, rfl⟩ := h2.det k2; exact ⟨rfl, rfl, rfl⟩
  | next k1 k2 k3 => obtain ⟨_, rfl, _⟩ := h2.det k2; exact absurd rfl h4
 | next h1 h2 h3 _ ih => cases h' with
  | stop h => omega
  | over k1 k2 k3 => obtain ⟨rfl, rfl, rfl⟩ := h2.det k2; omega
  | fin k1 k2 k3 k4 => obtain ⟨_, rfl, _⟩ := h2.det k2; exact absurd rfl k4
  | next k1 k2 k3 k4 => obtain ⟨rfl, _, rfl⟩ := h2.det k2; exact ih k4
/-- How much may be told: at most 129 bytes a bit. -/
def pend (a : A) : Nat := match a.md with
 | .huff _ _ (some (len, _)) => len
 | _ => 0
structure BI (S : Src) (base : Nat) (a : A) : Prop where
 q : qv a ≤ 8 * S.N
 o : a.out.length + pend a ≤ base + 129 * qv a
def BO (S : Src) (base : Nat) (a : A) : Prop := a.out.length ≤ base + 129 * (8 * S.N) ∧ (a.err = 0 → BI S base a)
theorem BI.bo {S : Src} {base : Nat} {a : A} (h : BI S base a) : BO S base a := ⟨by have := h.q; have := h.o; omega, fun _ => h⟩
theorem clLens_ok2 {S : Src} : ∀ (k p pos : Nat) (f f' : Nat → Nat) (p' pos' : Nat), clLens S k p pos f = some (f', p', pos') → p ≤ 8 * S.N → p' ≤ 8 * S.N
 | 0, p, pos, f, f', p', pos', h => by intro hp; simp only [clLens, Option.some.injEq, Prod.mk.injEq] at h; omega
 | k + 1, p, pos, f, f', p', pos', h => by
  intro hp
  simp only [clLens] at h
  cases hc : clLens S k p pos f with
  | none => rw [hc] at h; cases h
  | some x =>
   obtain ⟨f1, p1, q1⟩ := x
   rw [hc] at h
   simp only at h
   split at h
   ·simp only [Option.some.injEq, Prod.mk.injEq] at h; omega
   ·cases h
theorem rdLens_ok2 {S : Src} {c : Cd} {n : Nat} : ∀ (k : Nat) (l : List Nat) (p pos : Nat) (l' : List Nat) (p' pos' : Nat), rdLens S c n k l p pos = .ok l' p' pos' → p ≤ 8 * S.N → p' ≤ 8 * S.N
 | 0, l, p, pos, l', p', pos', h => by intro hp; simp only [rdLens, Lens.ok.injEq] at h; omega
 | k + 1, l, p, pos, l', p', pos', h => by
  intro hp
  simp only [rdLens] at h
  split at h
  ·simp only [Lens.ok.injEq] at h; omega
  ·cases hg : getSym S c p pos with
   | short => rw [hg] at h; cases h
   | bad => rw [hg] at h; cases h
   | ok x p1 q1 =>
    rw [hg] at h
    have h1 := getSym_ok hg
    simp only at h
    split at h
    ·exact rdLens_ok2 k _ _ _ _ _ _ h h1.2
    ·split at h
     ·cases h
     ·cases hb : getBits S p1 q1 (if x = 16 then 2 else if x = 17 then 3 else 7) with
      | short => rw [hb] at h; cases h
      | bad => rw [hb] at h; cases h
      | ok r p2 q2 =>
       rw [hb] at h
       have h2 := getBits_ok hb
       simp only at h
       generalize (if x = 18 then 11 else 3) + r = rep at h
       split at h
       ·cases h
       ·exact rdLens_ok2 k _ _ _ _ _ _ h (by omega)
theorem BI.e {S : Src} {base : Nat} {a : A} (h : BI S base a) (e : Nat) : BI S base { a with e := e } := ⟨h.q, h.o⟩
theorem BO.late {S : Src} {base : Nat} {a : A} (h : BO S base a) : BO S base a.late := by
 refine ⟨by rw [late_out]; exact h.1, fun h0 => ?_⟩
 rw [late_err] at h0
 have : a.late = a := by unfold A.late; rw [if_neg (by omega)]
 rw [this]; exact h.2 h0
end Go.Proofs.YtejeloeaklpinaaDoor
namespace Go.Proofs.YtejeloeaklpinaaDoor
theorem DD.off {E : Env} {g g' : Nat → Value} {wr rd : Nat} {full : Bool} {L : List Nat} (h : DD E g wr rd full) (o : Off L g g') (h0 : 1037 ∉ L ∧ 1038 ∉ L ∧ 1039 ∉ L ∧ 1040 ∉ L) : DD E g' wr rd full :=
 ⟨(o _ h0.1).trans h.hist, (o _ h0.2.1).trans h.wr, (o _ h0.2.2.1).trans h.rd, (o _ h0.2.2.2).trans h.full⟩
theorem rev_lt : ∀ n x, rev n x < 2 ^ n
 | 0, _ => by simp [rev]
 | n + 1, x => by
  have := rev_lt n (x / 2)
  have h2 : x % 2 * 2 ^ n ≤ 1 * 2 ^ n := Nat.mul_le_mul_right _ (by omega)
  simp only [rev, Nat.pow_succ]
  omega
theorem rev5_lt (x : Nat) : rev 5 x < 32 := rev_lt 5 x
theorem mu_mic {S : Src} {a b : A} (h : mic S a = (b, false)) : mu S b < mu S a := by
 have := goes_mic S a
 rw [h] at this
 exact (this.fal rfl).2.1
section
variable {ρ : Operand → Value} {d : Option Nat} {x y z : Operand} {ty : TypeId} {pos : String} {af : Array Edge} {gd : Option (Nat × Bool)} {w : World}
theorem cv82_5 {a c : Int} (hx : ρ x = .int .u32 a) (hc : IntKind.u8.wrap a = c) : (execOp ρ ⟨d, .convert 82 5 x, ty, pos, af, gd⟩).run Tryd.prog w = .ok (.value (.int .u8 c)) w := by
 subst hc
 exact cv (fun w => by kernel_rfl) hx
theorem ep_t (hx : ρ x = .pointer none) (hy : ρ y = .pointer none) : (execOp ρ ⟨d, .binOp .eql 93 x y 93, ty, pos, af, gd⟩).run Tryd.prog w = .ok (.value (.bool true)) w := by
 have he : eqGuard .eql 93 x y (.pointer none) (.pointer none) = pure () := rfl
 have hr : (binOp .eql 93 (.pointer none) (.pointer none)).run Tryd.prog w = .ok (.bool true) w := by kernel_rfl
 simp [execOp, hx, hy, he, hr]
theorem ep_f {a : Addr} (hx : ρ x = .pointer (some a)) (hy : ρ y = .pointer none) : (execOp ρ ⟨d, .binOp .eql 93 x y 93, ty, pos, af, gd⟩).run Tryd.prog w = .ok (.value (.bool false)) w := by
 have he : eqGuard .eql 93 x y (.pointer (some a)) (.pointer none) = pure () := rfl
 have hr : (binOp .eql 93 (.pointer (some a)) (.pointer none)).run Tryd.prog w = .ok (.bool false) w := by kernel_rfl
 simp [execOp, hx, hy, he, hr]
end
theorem seq_cut2 {N : Nat} {a b c : Code} {Q : Exit → Act → World → Prop} {s : Act} {w : World} (X : (Nat → Value) → World → Prop) (h1 : a.wp Tryd.prog (Exit.then (fun s w => b.wp Tryd.prog (Exit.then (fun s w => ∃ f, s = fr N f ∧ X f w) Q) s w) Q) s w) (h2 : ∀ f w, X f w → c.wp Tryd.prog Q (fr N f) w) : (Code.seq a (Code.seq b c)).wp Tryd.prog Q s w := by
 refine wp_seq (wp_mono h1 ?_)
 intro e s' w' hq
 cases e with
 | normal =>
  refine wp_seq (wp_mono hq ?_)
  intro e s' w' hq
  cases e with
  | normal => obtain ⟨f, rfl, hX⟩ := hq; exact h2 f w' hX
  | exit id => exact hq
  | goto l => exact hq
  | ret => exact hq
  | panic ch => exact hq
  | outgrown => exact hq
 | exit id => exact hq
 | goto l => exact hq
 | ret => exact hq
 | panic ch => exact hq
 | outgrown => exact hq
/-- What is to be copied. -/
def CpD (E : Env) (hl : Cd) (hd : Option Cd) (g hs : Nat → Value) (a1 : A) (n : Nat) : Prop :=
 ∃ (len dist : Nat) (outX : List Nat), g 1052 = .int .i64 (len : Int) ∧ len ≤ 258 ∧ g 1053 = .int .i64 (dist : Int) ∧ 1 ≤ dist ∧ dist ≤ 32768 ∧ Win outX hs ∧ outX.length % 32768 = a1.out.length % 32768 ∧ dist ≤ outX.length ∧
  (∀ hs', Win (lz outX dist (min len (avail a1.out))) hs' → Win (lz a1.out dist (min len (avail a1.out))) hs') ∧
  ((a1.md = .huff hl hd (some (len, dist)) ∧ dist ≤ a1.out.length ∧ n = 2 * mu E.S' a1) ∨ (a1.md = .huff hl hd none ∧ len = 0 ∧ n = 2 * mu E.S' a1 + 1))
def HJ (E : Env) (a : A) (hl : Cd) (hd : Option Cd) (bs cs : Nat → Value) (w0 : World) (l n : Nat) (act : Act) (w' : World) : Prop :=
 ∃ f g hs a1, act = fr 362 f ∧ f 0 = fp E ∧ HS E w' g hs bs cs a1 hl hd ∧ a1.err = 0 ∧ a1.e = a1.fl ∧ (∀ b, Runs E.S' a1 b → Runs E.S' a b) ∧ Kp E.L w0 w' ∧
  ((l = 0 ∧ g 1052 = .int .i64 0 ∧ a1.md = .huff hl hd none ∧ n = 2 * mu E.S' a1) ∨ (l = 1 ∧ CpD E hl hd g hs a1 n))
theorem huff_in {E : Env} {w : World} {a : A} {hl : Cd} {hd : Option Cd} {c : Option (Nat × Nat)} {g hs bs cs : Nat → Value} (hC : Cr E w g hs bs cs a.pos a.out a.fl (a.out.length % 32768) a.e) (hL : Live E w g a) (hSm : SSm g a.md) (hmd : a.md = .huff hl hd c) :
  HS E w g hs bs cs a hl hd ∧ ((g 1046 = .int .i64 0 ∧ g 1052 = .int .i64 0 ∧ a.md = .huff hl hd none) ∨ (g 1046 = .int .i64 1 ∧ ∃ n, CpD E hl hd g hs a n)) := by
 have hm := hL.md
 rw [hmd] at hm hSm
 cases c with
 | none =>
  obtain ⟨h1, h2, h3⟩ := hm
  refine ⟨⟨hC, hL.B, hL.fin, hL.err, h1, h2⟩, ?_⟩
  rcases h2 with h2 | ⟨h2, cd, h4, h5, h6⟩
  ·exact .inl ⟨h2, h3, hmd⟩
  ·obtain ⟨outX, hx1, hx2, hx3, hx4⟩ := win_full hC.V
   refine .inr ⟨h2, _, 0, cd, outX, h3, by omega, h4, h5, h6, hx1, hx2, by omega, fun hs' h => ?_, .inr ⟨hmd, rfl, rfl⟩⟩
   rw [Nat.zero_min] at h ⊢
   exact hx4 hs' h
 | some x =>
  obtain ⟨len, dist⟩ := x
  obtain ⟨h1, h2, h3, h4, h5, h6, h7⟩ := hm
  exact ⟨⟨hC, hL.B, hL.fin, hL.err, h1, .inr ⟨hSm, dist, h4, h5, h6⟩⟩, .inr ⟨hSm, _, len, dist, a.out, h2, h3, h4, h5, h6, hC.V, rfl, h7, fun _ h => h, .inl ⟨hmd, h7, rfl⟩⟩⟩
attribute [local irreducible] wpList wpStill wpMix Code.wp Calls fr
theorem huff_c : C44 := by
 intro E w a hl hd c g hs bs cs hE hC hL hSm hmd hef herr
 have kp := Kp.refl E.L w
 obtain ⟨hH, hin⟩ := huff_in hC hL hSm hmd
 have hW := hC.W
 refine calls_fr (N := 362) Tryd.func44 rfl rfl (by simp [fp]) rfl ?_
 refine wp_scope_labels (HJ E a hl hd bs cs w) ?_ ?_
 ·skip
  rcases hin with ⟨h46, h52, hmd0⟩ | ⟨h46, n, hcp⟩
  ·skip
   refine wp_seq ?_
   refine sqr ?_
   refine Mp rfl ?_
   refine Np rfl ?_
   refine L1 (fa95_12 rfl) ?_
   refine L1 (ld3 rfl (hW.F.cellv (by decide) h46)) ?_
   refine nt ?_
   refine wp_block ?_
   refine sqr ?_
   refine L1 (bi rfl rfl (bn_eql (v := true) (decide_eq_true rfl))) ?_
   refine Ab rfl ?_
   refine nt ?_
   refine cond_t rfl ?_
   refine wp_goto ?_
   refine inb_g ?_
   refine then_g ?_
   refine jmp_g ?_
   exact ⟨_, _, g, hs, a, rfl, rfl, hH, herr, hef, fun _ h => h, kp, .inl ⟨rfl, h52, hmd0, rfl⟩⟩
  ·skip
   refine wp_seq ?_
   refine sqr ?_
   refine Mp rfl ?_
   refine Np rfl ?_
   refine L1 (fa95_12 rfl) ?_
   refine L1 (ld3 rfl (hW.F.cellv (by decide) h46)) ?_
   refine nt ?_
   refine wp_block ?_
   refine sqr ?_
   refine L1 (bi rfl rfl (bn_eql (v := false) (decide_eq_false (by decide)))) ?_
   refine Ab rfl ?_
   refine nt ?_
   refine cond_f rfl ?_
   refine sqr ?_
   refine L1 (bi rfl rfl (bn_eql (v := true) (decide_eq_true rfl))) ?_
   refine Ab rfl ?_
   refine nt ?_
   refine cond_t rfl ?_
   refine wp_goto ?_
   refine inb_g ?_
   refine then_g ?_
   refine jmp_g ?_
   exact ⟨n, _, g, hs, a, rfl, rfl, hH, herr, hef, fun _ h => h, kp, .inr ⟨rfl, hcp⟩⟩
 ·skip
  clear hin hC hL hSm hmd hef herr kp hH hW
  rintro l n0 act w1 ⟨f, g, hs, a1, rfl, s0, hH, he0, hef, hrun, hkp0, hcase⟩
  have hwr := Nat.mod_lt a1.out.length (show 32768 > 0 by decide)
  have hN := hE.N47
  have hW := hH.C.W
  obtain ⟨q, rd, e1, e2, e3, e4, hDD⟩ := hH.C.D
  have kp := Kp.refl E.L w1
  rcases hcase with ⟨rfl, h52, hmd, rfl⟩ | ⟨rfl, len, dist, outX, h52, hlen, h53, hd1, hd2, hwx, hox, hdx, hwin, hmu⟩
  ·skip
   refine ⟨_, rfl, ?_⟩
   refine slots (fc s0 fnil) ?_
   obtain ⟨hLk, hb0, ho0, h50, hAt⟩ := hH.M.l
   refine wp_seq ?_
   refine skn ?_
   refine wp_seq ?_
   refine sqr ?_
   refine Mp rfl ?_
   refine Mp rfl ?_
   refine Np rfl ?_
   refine L1 (fa95_16 rfl) ?_
   refine L1 (ld93 rfl (hW.F.cellv (by decide) h50)) ?_
   refine LC (cl2 has54 rfl rfl rfl) (sym_c E _ g hs bs cs a1.p a1.pos hb0 ho0 hl hE hW (hH.C.S) hH.B hAt hLk) ?_
   rintro v w2 hpost
   obtain ⟨s, ev, rfl, kp1, hcs⟩ := hpost.cases
   have kp := kp.trans kp1
   clear kp1 hpost
   refine L1 (mv (v := .tuple _) rfl) ?_
   refine L1 (ext2_0 rfl) ?_
   refine L1 (ext2_1 rfl) ?_
   refine Ai rfl ?_
   refine L1 (asg (v := ev) rfl) ?_
   refine wpList_nil ?_
   rcases hcs with ⟨p1, pos1, g1, hsy, rfl, hW, hB, ho⟩ | ⟨g1, hsy, rfl, hW, ho⟩ | ⟨p1, pos1, g1, x1, hsy, rfl, hW, ho⟩
   ·skip
    have hs512 := getSym_lt hLk hsy
    obtain ⟨ro, hro⟩ := hB.ro
    refine then_n ?_
    refine wp_seq ?_
    refine sqr ?_
    refine L1 (mv (v := .nilIface) rfl) ?_
    refine L1 (en_nil rfl rfl) ?_
    refine nt ?_
    refine cond_f rfl ?_
    refine skn ?_
    refine sqr ?_
    refine Ai rfl ?_
    refine nt ?_
    refine sqr ?_
    refine Ai rfl ?_
    refine nt ?_
    refine seq_cut (N := 362) (fun f w' => w2 = w' ∧ f 0 = fp E ∧ f 4 = .int .u64 (((lenOf s).2 : Nat) : Int) ∧ f 5 = .int .i64 (((lenOf s).1 : Nat) : Int) ∧ ¬ s < 257 ∧ ¬ 286 ≤ s) ?_ ?_
    ·skip
     refine wp_block ?_
     refine sqr ?_
     refine Mi rfl ?_
     refine L1 (bi rfl rfl (bn_lss (v := decide (s < 256)) (decide_eq_decide.2 (by omega)))) ?_
     refine Ab rfl ?_
     refine nt ?_
     refine cond_d (p := s < 256) rfl (fun hlit => ?_) (fun hlit => ?_)
     ·skip
      have hDD1 : DD E (upd g1 1038 (.int .i64 ((a1.out.length % 32768 + 1 : Nat) : Int))) (a1.out.length % 32768 + 1) rd (decide (0 < q)) := ⟨(ho 1037 (by decide)).trans hDD.hist, rfl, (ho 1039 (by decide)).trans hDD.rd, (ho 1040 (by decide)).trans hDD.full⟩
      have hDw1 : Dw E (upd g1 1038 (.int .i64 ((a1.out.length % 32768 + 1 : Nat) : Int))) (a1.out.length + 1) a1.fl (a1.out.length % 32768 + 1) := ⟨q, rd, by omega, by omega, by omega, e4, hDD1⟩
      have hlen1 : (a1.out ++ [s]).length = a1.out.length + 1 := by simp
      refine sqr ?_
      refine Mp rfl ?_
      refine Np rfl ?_
      refine L1 (fa95_9 rfl) ?_
      refine Mi rfl ?_
      refine L1 (cv3_5 rfl (wrap_u8n _ (by omega) (by omega))) ?_
      refine LC (cl2 has55 rfl rfl rfl) (writeByte_c E _ g1 (a1.out.length % 32768) rd _ hW.F (hDD.off ho (by decide)) hE hs hW.H s hwr) ?_
      rintro v w1 ⟨rfl, hF1, hH1, kp1⟩
      have hW := hW.setFH hE hF1 hH1 kp1
      have kp := kp.FH kp1
      clear hF1 hH1 kp1
      refine nt ?_
      refine wp_seq ?_
      refine sqr ?_
      refine Mp rfl ?_
      refine Np rfl ?_
      refine L1 (fa95_9 rfl) ?_
      refine LC (cl1 has56 rfl rfl) (availWrite_c E _ _ (a1.out.length % 32768 + 1) rd _ hW.F hDD1 (by omega)) ?_
      rintro v w1 ⟨rfl, rfl⟩
      have hW := hW.drew
      have kp := kp.drew
      refine L1 (bi rfl rfl (bn_eql (v := decide (a1.out.length % 32768 + 1 = 32768)) (decide_eq_decide.2 (by omega)))) ?_
      refine nt ?_
      refine cond_d (p := a1.out.length % 32768 + 1 = 32768) rfl (fun hfull => ?_) (fun hfull => ?_)
      ·skip
       have hz : (a1.out.length + 1) % 32768 = 0 := by omega
       have hnx : nx (a1.out.length % 32768 + 1) = 0 := by unfold nx; rw [if_pos hfull]
       refine sqr ?_
       refine Mp rfl ?_
       refine Mp rfl ?_
       refine Np rfl ?_
       refine L1 (fa95_9 rfl) ?_
       refine LC (cl1 has50 rfl rfl) (rf_c E _ _ _ bs cs pos1 (a1.out.length + 1) a1.fl (a1.out.length % 32768 + 1) hE hW hDw1) ?_
       rintro v w1 ⟨hv, g2, hW, hD2, ho2, kp1⟩
       have kp := kp.trans kp1
       clear kp1
       refine Np rfl ?_
       refine L1 (fa95_15 rfl) ?_
       refine Lst22 (v := v) rfl rfl (by obtain ⟨_, _, _, rfl, _⟩ := hv; rfl) hW.F (by decide) ?_
       intro w1 hb1 kp1
       have hW := hW.setF hE hb1 kp1
       have kp := kp.F kp1
       clear hb1 kp1
       refine nt ?_
       refine sqr ?_
       refine Mp rfl ?_
       refine Np rfl ?_
       refine L1 (fa95_11 rfl) ?_
       refine Lst92 (v := .func _ _ _) rfl rfl rfl hW.F (by decide) ?_
       intro w1 hb1 kp1
       have hW := hW.setF hE hb1 kp1
       have kp := kp.F kp1
       clear hb1 kp1
       refine nt ?_
       refine sqr ?_
       refine Mp rfl ?_
       refine Np rfl ?_
       refine L1 (fa95_12 rfl) ?_
       refine Lst3 (v := .int _ _) rfl rfl rfl hW.F (by decide) ?_
       intro w1 hb1 kp1
       have hW := hW.setF hE hb1 kp1
       have kp := kp.F kp1
       clear hb1 kp1
       refine nt ?_
       refine wp_ret ?_
       refine then_r ?_
       refine inb_r ?_
       refine then_r ?_
       refine then_r ?_
       refine jmp_r ?_
       refine ret0 rfl ?_
       have ho3 : Off [2, 3, 4, 1038, 1039, 1040, 1045, 1046, 1049] g _ := hW.offs ((((((ho.mono (by decide)).upd (k := 1038) (by decide) _).trans (ho2.mono (by decide))).upd (k := 1049) (by decide) _).upd (k := 1045) (by decide) _).upd (k := 1046) (by decide) _)
       have ho4 : Off [1045, 1046, 1049] g2 _ := hW.offs ((((Off.refl _ g2).upd (k := 1049) (by decide) v).upd (k := 1045) (by decide) _).upd (k := 1046) (by decide) _)
       have hB4 : Bt E _ p1 pos1 := ((hB.off ((Off.refl [1038] g1).upd (k := 1038) (by decide) _) (by decide)).off ho2 (by decide)).off ho4 (by decide)
       have hH2 : HS E _ _ _ bs cs ({ a1 with p := p1, pos := pos1, out := a1.out ++ [s], md := .huff hl hd none }.flush) hl hd := hH.next hW hB4 ho3 (by decide) (by decide) kp (win_push hH.C.V rfl hlit) (by show Dw E _ (a1.out ++ [s]).length (a1.out ++ [s]).length ((a1.out ++ [s]).length % 32768); rw [hlen1, hz, ← hnx]; exact hD2.off ho4 (by decide)) (by show TRv E v a1.e (a1.out ++ [s]).length; rw [hlen1, hef]; exact hv) (.inl rfl) rfl
       exact ⟨_, rfl, rfl, ⟨_, hH2.rep he0 ⟨hH2.M, .inl rfl, (ho3 _ (by decide)).trans h52⟩ rfl trivial, hrun _ (.stop (by rw [mic_huff hmd, mh_litF hsy hlit hz]))⟩, hkp0.trans kp⟩
      ·skip
       have hz : (a1.out.length + 1) % 32768 ≠ 0 := by omega
       have hz2 : (a1.out.length + 1) % 32768 = a1.out.length % 32768 + 1 := by omega
       refine skn ?_
       refine wp_goto ?_
       refine inb_g ?_
       refine then_g ?_
       refine then_g ?_
       refine jmp_g ?_
       have ho3 : Off [2, 3, 4, 1038] g _ := hW.offs ((ho.mono (by decide)).upd (k := 1038) (by decide) _)
       have hH2 : HS E _ _ _ bs cs { a1 with p := p1, pos := pos1, out := a1.out ++ [s], md := .huff hl hd none } hl hd := hH.next hW (hB.off ((Off.refl [1038] g1).upd (k := 1038) (by decide) _) (by decide)) ho3 (by decide) (by decide) kp (win_push hH.C.V rfl hlit) (by show Dw E _ (a1.out ++ [s]).length a1.fl ((a1.out ++ [s]).length % 32768); rw [hlen1, hz2]; exact hDw1) (hH.C.T.off ho3 (by decide)) (hH.ss.off ho3 (by decide)) rfl
       have hmic : mic E.S' a1 = ({ a1 with p := p1, pos := pos1, out := a1.out ++ [s], md := .huff hl hd none }, false) := by rw [mic_huff hmd, mh_lit hsy hlit hz]
       exact ⟨_, by have := mu_mic hmic; omega, _, _, _, _, rfl, rfl, hH2, he0, hef, fun b hb => hrun b (.more hmic hb), hkp0.trans kp, .inl ⟨rfl, (ho3 _ (by decide)).trans h52, rfl, rfl⟩⟩
     ·skip
      refine sqr ?_
      refine Mi rfl ?_
      refine L1 (bi rfl rfl (bn_eql (v := decide (s = 256)) (decide_eq_decide.2 (by omega)))) ?_
      refine Ab rfl ?_
      refine nt ?_
      refine cond_d (p := s = 256) rfl (fun heob => ?_) (fun heob => ?_)
      ·skip
       subst heob
       cases hfe : a1.fin
       ·skip
        refine sqr ?_
        refine Mp rfl ?_
        refine LC (cl1 has51 rfl rfl) (finish_more E _ g1 hs bs cs pos1 hE hW ((ho _ (by decide)).trans (hH.fin.trans (by rw [hfe])))) ?_
        rintro v w1 ⟨rfl, g2, hW, h45, ho2, kp1⟩
        have kp := kp.trans kp1
        refine nt ?_
        refine wp_ret ?_
        refine inb_r ?_
        refine then_r ?_
        refine then_r ?_
        refine jmp_r ?_
        refine ret0 rfl ?_
        have ho3 : Off [2, 3, 4, 1045] g _ := (ho.mono (by decide)).trans (ho2.mono (by decide))
        have hb : A.finish { a1 with p := p1, pos := pos1 } = { a1 with p := p1, pos := pos1, md := .next } := by unfold A.finish; simp [hfe]
        have hH2 : HS E _ _ _ bs cs { a1 with p := p1, pos := pos1, md := .next } hl hd := hH.next hW (hB.off ho2 (by decide)) ho3 (by decide) (by decide) kp hH.C.V (hH.C.D.off ho3 (by decide)) (hH.C.T.off ho3 (by decide)) (hH.ss.off ho3 (by decide)) rfl
        exact ⟨_, rfl, rfl, ⟨_, hH2.rep he0 ⟨hH2.ss, (ho3 _ (by decide)).trans h52⟩ h45 trivial, hrun _ (.stop (by rw [mic_huff hmd, mh_eob hsy, hb]))⟩, hkp0.trans kp⟩
       ·skip
        refine sqr ?_
        refine Mp rfl ?_
        refine LC (cl1 has51 rfl rfl) (finish_last E _ g1 hs bs cs pos1 hE hW ((ho _ (by decide)).trans (hH.fin.trans (by rw [hfe]))) a1.out.length a1.fl (a1.out.length % 32768) hwr (hH.C.D.off ho (by decide)) (by have := hH.C.T.off ho (by decide); rw [hef] at this; exact this)) ?_
        rintro v w1 ⟨rfl, g2, hW, h45, h48, hD2, hT2, ho2, kp1⟩
        have kp := kp.trans kp1
        refine nt ?_
        refine wp_ret ?_
        refine inb_r ?_
        refine then_r ?_
        refine then_r ?_
        refine jmp_r ?_
        refine ret0 rfl ?_
        have ho3 : Off [2, 3, 4, 1038, 1039, 1040, 1045, 1048, 1049] g _ := (ho.mono (by decide)).trans (ho2.mono (by decide))
        have hb : A.finish { a1 with p := p1, pos := pos1 } = { a1 with p := p1, pos := pos1, md := .next, err := 1, fl := a1.out.length } := by unfold A.finish; simp [hfe]
        have hnx : nx (a1.out.length % 32768) = a1.out.length % 32768 := by unfold nx; rw [if_neg (by omega)]
        rw [hnx] at hD2
        refine ⟨_, rfl, rfl, ⟨{ a1 with p := p1, pos := pos1, md := .next, err := 1, fl := a1.out.length }, ⟨g2, hs, bs, cs, ⟨hW, hH.C.S.off ho3 (by decide), hH.C.V, hD2, by show TR E g2 a1.e a1.out.length; rw [hef]; exact hT2, HZ.offs hH.C.Z ho3 (by decide)⟩, .inr (.inl ⟨rfl, h48⟩), fun h => by cases h⟩, hrun _ (.stop (by rw [mic_huff hmd, mh_eob hsy, hb]))⟩, hkp0.trans kp⟩
      ·skip
       refine sqr ?_
       refine Mi rfl ?_
       refine L1 (bi rfl rfl (bn_lss (v := decide (s < 265)) (decide_eq_decide.2 (by omega)))) ?_
       refine Ab rfl ?_
       refine nt ?_
       refine cond_d (p := s < 265) rfl (fun h265 => ?_) (fun h265 => ?_)
       ·skip
        have hlo : lenOf s = (s - 254, 0) := by unfold lenOf; rw [if_pos (by omega)]
        refine sqr ?_
        refine Mi rfl ?_
        refine L1 (bi rfl rfl (bn_sub rfl (by omega) (by omega))) ?_
        refine Ai rfl ?_
        refine nt ?_
        refine reg_lit ?_
        refine Ai rfl ?_
        refine wpList_nil ?_
        refine inb_n ?_
        refine then_n ?_
        exact ⟨_, rfl, rfl, rfl, by rw [hlo]; rfl, by rw [hlo]; exact congrArg (Value.int .i64) (by simp only; omega), by omega, by omega⟩
       ·skip
        refine sqr ?_
        refine Mi rfl ?_
        refine L1 (bi rfl rfl (bn_lss (v := decide (s < 269)) (decide_eq_decide.2 (by omega)))) ?_
        refine Ab rfl ?_
        refine nt ?_
        refine cond_d (p := s < 269) rfl (fun h269 => ?_) (fun h269 => ?_)
        ·skip
         have hlo : lenOf s = (s * 2 - 519, 1) := by unfold lenOf; rw [if_neg (by omega), if_pos (by omega)]
         refine sqr ?_
         refine Mi rfl ?_
         refine L1 (bi rfl rfl (bn_mul rfl (by omega) (by omega))) ?_
         refine L1 (bi rfl rfl (bn_sub rfl (by omega) (by omega))) ?_
         refine Ai rfl ?_
         refine nt ?_
         refine reg_lit ?_
         refine Ai rfl ?_
         refine wpList_nil ?_
         refine inb_n ?_
         refine then_n ?_
         exact ⟨_, rfl, rfl, rfl, by rw [hlo]; rfl, by rw [hlo]; exact congrArg (Value.int .i64) (by simp only; omega), by omega, by omega⟩
        ·skip
         refine sqr ?_
         refine Mi rfl ?_
         refine L1 (bi rfl rfl (bn_lss (v := decide (s < 273)) (decide_eq_decide.2 (by omega)))) ?_
         refine Ab rfl ?_
         refine nt ?_
         refine cond_d (p := s < 273) rfl (fun h273 => ?_) (fun h273 => ?_)
         ·skip
          have hlo : lenOf s = (s * 4 - 1057, 2) := by unfold lenOf; rw [if_neg (by omega), if_neg (by omega), if_pos (by omega)]
          refine sqr ?_
          refine Mi rfl ?_
          refine L1 (bi rfl rfl (bn_mul rfl (by omega) (by omega))) ?_
          refine L1 (bi rfl rfl (bn_sub rfl (by omega) (by omega))) ?_
          refine Ai rfl ?_
          refine nt ?_
          refine reg_lit ?_
          refine Ai rfl ?_
          refine wpList_nil ?_
          refine inb_n ?_
          refine then_n ?_
          exact ⟨_, rfl, rfl, rfl, by rw [hlo]; rfl, by rw [hlo]; exact congrArg (Value.int .i64) (by simp only; omega), by omega, by omega⟩
         ·skip
          refine sqr ?_
          refine Mi rfl ?_
          refine L1 (bi rfl rfl (bn_lss (v := decide (s < 277)) (decide_eq_decide.2 (by omega)))) ?_
          refine Ab rfl ?_
          refine nt ?_
          refine cond_d (p := s < 277) rfl (fun h277 => ?_) (fun h277 => ?_)
          ·skip
           have hlo : lenOf s = (s * 8 - 2149, 3) := by unfold lenOf; rw [if_neg (by omega), if_neg (by omega), if_neg (by omega), if_pos (by omega)]
           refine sqr ?_
           refine Mi rfl ?_
           refine L1 (bi rfl rfl (bn_mul rfl (by omega) (by omega))) ?_
           refine L1 (bi rfl rfl (bn_sub rfl (by omega) (by omega))) ?_
           refine Ai rfl ?_
           refine nt ?_
           refine reg_lit ?_
           refine Ai rfl ?_
           refine wpList_nil ?_
           refine inb_n ?_
           refine then_n ?_
           exact ⟨_, rfl, rfl, rfl, by rw [hlo]; rfl, by rw [hlo]; exact congrArg (Value.int .i64) (by simp only; omega), by omega, by omega⟩
          ·skip
           refine sqr ?_
           refine Mi rfl ?_
           refine L1 (bi rfl rfl (bn_lss (v := decide (s < 281)) (decide_eq_decide.2 (by omega)))) ?_
           refine Ab rfl ?_
           refine nt ?_
           refine cond_d (p := s < 281) rfl (fun h281 => ?_) (fun h281 => ?_)
           ·skip
            have hlo : lenOf s = (s * 16 - 4365, 4) := by unfold lenOf; rw [if_neg (by omega), if_neg (by omega), if_neg (by omega), if_neg (by omega), if_pos (by omega)]
            refine sqr ?_
            refine Mi rfl ?_
            refine L1 (bi rfl rfl (bn_mul rfl (by omega) (by omega))) ?_
            refine L1 (bi rfl rfl (bn_sub rfl (by omega) (by omega))) ?_
            refine Ai rfl ?_
            refine nt ?_
            refine reg_lit ?_
            refine Ai rfl ?_
            refine wpList_nil ?_
            refine inb_n ?_
            refine then_n ?_
            exact ⟨_, rfl, rfl, rfl, by rw [hlo]; rfl, by rw [hlo]; exact congrArg (Value.int .i64) (by simp only; omega), by omega, by omega⟩
           ·skip
            refine sqr ?_
            refine Mi rfl ?_
            refine L1 (bi rfl rfl (bn_lss (v := decide (s < 285)) (decide_eq_decide.2 (by omega)))) ?_
            refine Ab rfl ?_
            refine nt ?_
            refine cond_d (p := s < 285) rfl (fun h285 => ?_) (fun h285 => ?_)
            ·skip
             have hlo : lenOf s = (s * 32 - 8861, 5) := by unfold lenOf; rw [if_neg (by omega), if_neg (by omega), if_neg (by omega), if_neg (by omega), if_neg (by omega), if_pos (by omega)]
             refine sqr ?_
             refine Mi rfl ?_
             refine L1 (bi rfl rfl (bn_mul rfl (by omega) (by omega))) ?_
             refine L1 (bi rfl rfl (bn_sub rfl (by omega) (by omega))) ?_
             refine Ai rfl ?_
             refine nt ?_
             refine reg_lit ?_
             refine Ai rfl ?_
             refine wpList_nil ?_
             refine inb_n ?_
             refine then_n ?_
             exact ⟨_, rfl, rfl, rfl, by rw [hlo]; rfl, by rw [hlo]; exact congrArg (Value.int .i64) (by simp only; omega), by omega, by omega⟩
            ·skip
             refine sqr ?_
             refine Mi rfl ?_
             refine L1 (bi rfl rfl (bn_lss (v := decide (s < 286)) (decide_eq_decide.2 (by omega)))) ?_
             refine Ab rfl ?_
             refine nt ?_
             refine cond_d (p := s < 286) rfl (fun h286 => ?_) (fun h286 => ?_)
             ·skip
              have hlo : lenOf s = (258, 0) := by unfold lenOf; rw [if_neg (by omega), if_neg (by omega), if_neg (by omega), if_neg (by omega), if_neg (by omega), if_neg (by omega)]
              refine sqr ?_
              refine Ai rfl ?_
              refine nt ?_
              refine reg_lit ?_
              refine Ai rfl ?_
              refine wpList_nil ?_
              refine inb_n ?_
              refine then_n ?_
              exact ⟨_, rfl, rfl, rfl, by rw [hlo]; rfl, by rw [hlo]; exact congrArg (Value.int .i64) (by simp only; omega), by omega, by omega⟩
             ·skip
              refine sqr ?_
              refine Mp rfl ?_
              refine Mp rfl ?_
              refine Np rfl ?_
              refine L1 (fa95_2 rfl) ?_
              refine L1 (ld2 rfl (hW.F.cellv (by decide) hro)) ?_
              refine L1 (mkI107 rfl) ?_
              refine Np rfl ?_
              refine L1 (fa95_14 rfl) ?_
              refine Lst62 (v := .iface _ _) rfl rfl rfl hW.F (by decide) ?_
              intro w1 hb1 kp1
              have hW := hW.setF hE hb1 kp1
              have kp := kp.F kp1
              clear hb1 kp1
              refine nt ?_
              refine wp_ret ?_
              refine inb_r ?_
              refine then_r ?_
              refine then_r ?_
              refine jmp_r ?_
              refine ret0 rfl ?_
              exact ⟨_, rfl, rfl, ⟨_, rep_err hH ({ a1 with p := p1, pos := pos1 }.bad) hW ((ho.mono (by decide)).upd (k := 1048) (by decide) _ : Off [2, 3, 4, 1048] g _) (by decide) rfl rfl rfl (by show (3 : Nat) ≠ 0; decide) (.inr (.inr (.inr ⟨rfl, _, rfl⟩))), hrun _ (.stop (by rw [mic_huff hmd, mh_len hsy (by omega) (by omega), getLen_bad (by omega)]))⟩, hkp0.trans kp⟩
    ·skip
     rintro f _ ⟨rfl, s0, s4, s5, hs257, hs286⟩
     obtain ⟨hn5, hl3, hl259⟩ := lenOf_le hs257 hs286
     obtain ⟨lb, hlb⟩ : ∃ lb, (lenOf s).1 = lb := ⟨_, rfl⟩
     obtain ⟨n, hn⟩ : ∃ n, (lenOf s).2 = n := ⟨_, rfl⟩
     rw [hlb] at s5 hl3 hl259
     rw [hn] at s4 hn5 hl259
     refine slots (fc s0 (fc s4 (fc s5 fnil))) ?_
     refine seq_cut (N := 362) (fun f w' => f 0 = fp E ∧ ∃ g2 p2 pos2 len, f 5 = .int .i64 ((len : Nat) : Int) ∧ len ≤ 258 ∧ Wd E w' g2 hs bs cs pos2 ∧ Bt E g2 p2 pos2 ∧ Off [2, 3, 4] g g2 ∧ Kp E.L w1 w' ∧ getLen E.S' s p1 pos1 = .ok len p2 pos2) ?_ ?_
     ·skip
      refine sqr ?_
      refine Mi rfl ?_
      refine L1 (bi rfl rfl (bn_gtr (v := decide (0 < n)) (decide_eq_decide.2 (by omega)))) ?_
      refine nt ?_
      refine cond_d (p := 0 < n) rfl (fun hn0 => ?_) (fun hn0 => ?_)
      ·skip
       refine wp_seq ?_
       refine wp_block ?_
       refine loop_fr (fun k f w' => f 0 = fp E ∧ f 4 = .int .u64 ((n : Nat) : Int) ∧ f 5 = .int .i64 ((lb : Nat) : Int) ∧ ∃ g' pos', Wd E w' g' hs bs cs pos' ∧ Bt E g' p1 pos' ∧ Off [2, 3, 4] g g' ∧ Kp E.L w1 w' ∧ pos1 ≤ pos' ∧ (pos' = pos1 ∨ 8 * pos' < p1 + n + 8) ∧ k = E.N - pos') (E.N - pos1) ⟨rfl, rfl, rfl, _, pos1, hW, hB, ho, kp, Nat.le_refl _, .inl rfl, rfl⟩ ?_
       clear hW kp hB ho hro
       intro k f w3 HJ
       obtain ⟨t0, t4, t5, gq, posq, hW, hB, ho, kp, hpp, hpq, rfl⟩ := HJ
       have hp0 := hB.le
       have hp1 := hB.l32
       have hSq := hH.C.S.off ho (by decide)
       obtain ⟨ro, hro⟩ := hB.ro
       refine slots (fc t0 (fc t4 (fc t5 fnil))) ?_
       refine wp_seq ?_
       refine sqr ?_
       refine Mp rfl ?_
       refine Np rfl ?_
       refine L1 (fa95_4 rfl) ?_
       refine L1 (ld38 rfl (hW.F.cellv (by decide) hB.nb)) ?_
       refine Mi rfl ?_
       refine L1 (bi rfl rfl (bn_lss (v := decide (8 * posq - p1 < n)) (decide_eq_decide.2 (by omega)))) ?_
       refine nt ?_
       refine cond_d (p := 8 * posq - p1 < n) rfl (fun hlt => ?_) (fun hlt => ?_)
       ·skip
        by_cases hpn : posq < E.N
        ·skip
         refine skn ?_
         refine wp_block ?_
         refine sqr ?_
         refine Mp rfl ?_
         refine LC (cl1 has41 rfl rfl) (more_ok E _ gq hs bs cs p1 posq hE hW hSq hB (by omega) hpn) ?_
         rintro v w1 ⟨rfl, g2, hW, hB, ho2, kp1⟩
         have kp := kp.trans kp1
         refine L1 (asg (v := .nilIface) rfl) ?_
         refine nt ?_
         refine sqr ?_
         refine L1 (mv (v := .nilIface) rfl) ?_
         refine L1 (en_nil rfl rfl) ?_
         refine nt ?_
         refine cond_f rfl ?_
         refine wp_skip ?_
         refine inb_n ?_
         refine then_n ?_
         have hle := hW.rd.le
         exact ⟨E.N - (posq + 1), _, by omega, rfl, rfl, rfl, rfl, _, posq + 1, hW, hB, ho.trans ho2, kp, by omega, .inr (by omega), rfl⟩
        ·skip
         refine skn ?_
         refine wp_block ?_
         refine sqr ?_
         refine Mp rfl ?_
         refine LC (cl1 has41 rfl rfl) (more_short E _ gq hs bs cs p1 posq hE hW hSq hB (by have := hW.rd.le; omega)) ?_
         rintro v w1 ⟨rfl, hW, kp1⟩
         have kp := kp.trans kp1
         have epq : posq = E.N := by have := hW.rd.le; omega
         rw [epq] at hW
         refine L1 (asg (v := (UEOFv E)) rfl) ?_
         refine nt ?_
         refine sqr ?_
         refine L1 (mv (v := UEOFv E) rfl) ?_
         refine L1 (en_held (u := 131) rfl rfl) ?_
         refine nt ?_
         refine cond_t rfl ?_
         refine sqr ?_
         refine Mp rfl ?_
         refine L1 (mv (v := (UEOFv E)) rfl) ?_
         refine Np rfl ?_
         refine L1 (fa95_14 rfl) ?_
         refine Lst62 (v := (UEOFv E)) rfl rfl rfl hW.F (by decide) ?_
         intro w1 hb1 kp1
         have hW := hW.setF hE hb1 kp1
         have kp := kp.F kp1
         clear hb1 kp1
         refine nt ?_
         refine wp_ret ?_
         refine inb_r ?_
         refine then_r ?_
         refine inb_r ?_
         refine then_r ?_
         refine then_r ?_
         refine then_r ?_
         refine jmp_r ?_
         refine ret0 rfl ?_
         exact ⟨_, rfl, rfl, ⟨_, rep_err hH (a1.short E.S') hW ((ho.mono (by decide)).upd (k := 1048) (by decide) _ : Off [2, 3, 4, 1048] g _) (by decide) rfl rfl rfl (by show (2 : Nat) ≠ 0; decide) (.inr (.inr (.inl ⟨rfl, rfl⟩))), hrun _ (.stop (by rw [mic_huff hmd, mh_len hsy (by omega) (by omega), getLen_short hs286 (by rw [hn]; omega) (by rw [hn]; show 8 * E.N < p1 + n; omega)]))⟩, hkp0.trans kp⟩
       ·skip
        have hpos : posq = rdTo p1 pos1 n := rdTo_of hpp hpq (by omega)
        have hleq := hW.rd.le
        have hbv := bv_lt E.D p1 (8 * posq - p1)
        have h32 : bv E.D p1 (8 * posq - p1) < 4294967296 := Nat.lt_of_lt_of_le hbv (Nat.pow_le_pow_right (n := 2) (by decide) (show 8 * posq - p1 ≤ 32 by omega))
        have hbm : bv E.D p1 (8 * posq - p1) % 2 ^ n = bv E.D p1 n := bv_mod E.D p1 (8 * posq - p1) n (by omega)
        have hbn := bv_lt E.D p1 n
        have h2n : 2 ^ n ≤ 2 ^ 13 := Nat.pow_le_pow_right (n := 2) (by decide) (by omega)
        have h2p : 0 < 2 ^ n := Nat.two_pow_pos _
        have h13 : (2 : Nat) ^ 13 = 8192 := rfl
        refine wp_exit ?_
        refine then_e ?_
        refine then_e ?_
        refine inb_same ?_
        refine then_n ?_
        refine sqr ?_
        refine Mi rfl ?_
        refine Mp rfl ?_
        refine Np rfl ?_
        refine L1 (fa95_3 rfl) ?_
        refine L1 (ld82 rfl (hW.F.cellv (by decide) hB.b)) ?_
        refine Mi rfl ?_
        refine L1 (bi rfl rfl (bn_shl32 (x := 1) rfl rfl (by omega) (by omega))) ?_
        refine L1 (bi rfl rfl (bn_sub32 (c := ((2 ^ n - 1 : Nat) : Int)) (by omega) (by omega) (by omega))) ?_
        refine L1 (bi rfl rfl ((bn_mask32 (k := n) rfl rfl h32 (by omega)).trans (congrArg (fun x : Nat => pure (Value.int .u32 (x : Int))) hbm))) ?_
        refine L1 (cv82_3 rfl (wrap_s64 _ (by omega) (by omega))) ?_
        refine L1 (bi rfl rfl (bn_add (c := ((lb + bv E.D p1 n : Nat) : Int)) (by omega) (by omega) (by omega))) ?_
        refine Ai rfl ?_
        refine nt ?_
        refine sqr ?_
        refine Mp rfl ?_
        refine Np rfl ?_
        refine L1 (fa95_3 rfl) ?_
        refine L1 (ld82 rfl (hW.F.cellv (by decide) hB.b)) ?_
        refine Mi rfl ?_
        refine L1 (bi rfl rfl (bn_shr (n := n) rfl rfl (by show n ≤ 32; omega))) ?_
        refine Np rfl ?_
        refine L1 (fa95_3 rfl) ?_
        refine Lst82 (v := .int _ _) rfl rfl rfl hW.F (by decide) ?_
        intro w1 hb1 kp1
        have hW := hW.setF hE hb1 kp1
        have kp := kp.F kp1
        clear hb1 kp1
        refine nt ?_
        refine reg_lit ?_
        refine Mp rfl ?_
        refine Np rfl ?_
        refine L1 (fa95_4 rfl) ?_
        refine L1 (ld38 rfl (hW.F.cellv (by decide) hB.nb)) ?_
        refine Mi rfl ?_
        refine L1 (bi rfl rfl (bn_subu (c := ((8 * posq - p1 - n : Nat) : Int)) (by omega) (by omega) (by omega))) ?_
        refine Np rfl ?_
        refine L1 (fa95_4 rfl) ?_
        refine Lst38 (v := .int _ _) rfl rfl rfl hW.F (by decide) ?_
        intro w1 hb1 kp1
        have hW := hW.setF hE hb1 kp1
        have kp := kp.F kp1
        clear hb1 kp1
        refine nt ?_
        have hB3 := Bt.advW hW hB n (by omega) ⟨_, hro⟩ rfl rfl
        have ho3 : Off [2, 3, 4] g _ := hW.offs ((ho.upd (k := 3) (by decide) _).upd (k := 4) (by decide) _)
        refine ⟨_, rfl, rfl, _, p1 + n, posq, lb + bv E.D p1 n, rfl, by omega, hW, hB3, ho3, kp, ?_⟩
        have hgl := getLen_n (S := E.S') (p := p1) (pos := pos1) (v := s) hs286 (by rw [hn]; omega) (by rw [hn]; show p1 + n ≤ 8 * E.N; omega)
        rw [hn, hlb, ← hpos] at hgl
        exact hgl
      ·skip
       refine skn ?_
       refine ⟨_, rfl, rfl, g1, p1, pos1, lb, rfl, ?_, hW, hB, ho, kp, ?_⟩
       ·have h2p : 0 < 2 ^ n := Nat.two_pow_pos _
        omega
       ·rw [getLen_0 hs286 (by omega), hlb]
     ·skip
      clear hW hB ho kp hro
      rintro f w3 ⟨s0, g2, p2, pos2, len, s5, hlen, hW, hB, ho, kp, hgl⟩
      obtain ⟨ro, hro⟩ := hB.ro
      refine slots (fc s0 (fc s5 fnil)) ?_
      refine sqr ?_
      refine Ai rfl ?_
      refine nt ?_
      refine seq_cut (N := 362) (fun f w' => f 0 = fp E ∧ f 5 = .int .i64 ((len : Nat) : Int) ∧ ∃ g3 p3 pos3 d, f 6 = .int .i64 ((d : Nat) : Int) ∧ d < 512 ∧ Wd E w' g3 hs bs cs pos3 ∧ Bt E g3 p3 pos3 ∧ Off [2, 3, 4] g g3 ∧ Kp E.L w1 w' ∧ getDs E.S' hd p2 pos2 = .ok d p3 pos3) ?_ ?_
      ·skip
       obtain hdn | ⟨hdc, hds⟩ : hd = none ∨ ∃ c, hd = some c := by
        cases hd
        ·exact .inl rfl
        ·exact .inr ⟨_, rfl⟩
       ·skip
        have h51 : g 1051 = .pointer none := by have := hH.M; rw [hdn] at this; exact this.2.1
        have h51' := (ho _ (by decide)).trans h51
        refine sqr ?_
        refine Mp rfl ?_
        refine Np rfl ?_
        refine L1 (fa95_17 rfl) ?_
        refine L1 (ld93 rfl (hW.F.cellv (by decide) h51')) ?_
        refine L1 (ep_t rfl rfl) ?_
        refine nt ?_
        refine cond_t rfl ?_
        refine wp_seq ?_
        refine wp_block ?_
        refine loop_fr (fun k f w' => f 0 = fp E ∧ f 5 = .int .i64 ((len : Nat) : Int) ∧ ∃ g' pos', Wd E w' g' hs bs cs pos' ∧ Bt E g' p2 pos' ∧ Off [2, 3, 4] g g' ∧ Kp E.L w1 w' ∧ pos2 ≤ pos' ∧ (pos' = pos2 ∨ 8 * pos' < p2 + 5 + 8) ∧ k = E.N - pos') (E.N - pos2) ⟨rfl, rfl, _, pos2, hW, hB, ho, kp, Nat.le_refl _, .inl rfl, rfl⟩ ?_
        clear hW kp hB ho hro
        intro k f w3 HJ
        obtain ⟨t0, t5, gq, posq, hW, hB, ho, kp, hpp, hpq, rfl⟩ := HJ
        have hp0 := hB.le
        have hp1 := hB.l32
        have hSq := hH.C.S.off ho (by decide)
        obtain ⟨ro, hro⟩ := hB.ro
        refine slots (fc t0 (fc t5 fnil)) ?_
        refine wp_seq ?_
        refine sqr ?_
        refine Mp rfl ?_
        refine Np rfl ?_
        refine L1 (fa95_4 rfl) ?_
        refine L1 (ld38 rfl (hW.F.cellv (by decide) hB.nb)) ?_
        refine L1 (bi rfl rfl (bn_lss (v := decide (8 * posq - p2 < 5)) (decide_eq_decide.2 (by omega)))) ?_
        refine nt ?_
        refine cond_d (p := 8 * posq - p2 < 5) rfl (fun hlt => ?_) (fun hlt => ?_)
        ·skip
         by_cases hpn : posq < E.N
         ·skip
          refine skn ?_
          refine wp_block ?_
          refine sqr ?_
          refine Mp rfl ?_
          refine LC (cl1 has41 rfl rfl) (more_ok E _ gq hs bs cs p2 posq hE hW hSq hB (by omega) hpn) ?_
          rintro v w1 ⟨rfl, g2, hW, hB, ho2, kp1⟩
          have kp := kp.trans kp1
          refine L1 (asg (v := .nilIface) rfl) ?_
          refine nt ?_
          refine sqr ?_
          refine L1 (mv (v := .nilIface) rfl) ?_
          refine L1 (en_nil rfl rfl) ?_
          refine nt ?_
          refine cond_f rfl ?_
          refine wp_skip ?_
          refine inb_n ?_
          refine then_n ?_
          have hle := hW.rd.le
          exact ⟨E.N - (posq + 1), _, by omega, rfl, rfl, rfl, _, posq + 1, hW, hB, ho.trans ho2, kp, by omega, .inr (by omega), rfl⟩
         ·skip
          refine skn ?_
          refine wp_block ?_
          refine sqr ?_
          refine Mp rfl ?_
          refine LC (cl1 has41 rfl rfl) (more_short E _ gq hs bs cs p2 posq hE hW hSq hB (by have := hW.rd.le; omega)) ?_
          rintro v w1 ⟨rfl, hW, kp1⟩
          have kp := kp.trans kp1
          have epq : posq = E.N := by have := hW.rd.le; omega
          rw [epq] at hW
          refine L1 (asg (v := (UEOFv E)) rfl) ?_
          refine nt ?_
          refine sqr ?_
          refine L1 (mv (v := UEOFv E) rfl) ?_
          refine L1 (en_held (u := 131) rfl rfl) ?_
          refine nt ?_
          refine cond_t rfl ?_
          refine sqr ?_
          refine Mp rfl ?_
          refine L1 (mv (v := (UEOFv E)) rfl) ?_
          refine Np rfl ?_
          refine L1 (fa95_14 rfl) ?_
          refine Lst62 (v := (UEOFv E)) rfl rfl rfl hW.F (by decide) ?_
          intro w1 hb1 kp1
          have hW := hW.setF hE hb1 kp1
          have kp := kp.F kp1
          clear hb1 kp1
          refine nt ?_
          refine wp_ret ?_
          refine inb_r ?_
          refine then_r ?_
          refine inb_r ?_
          refine then_r ?_
          refine then_r ?_
          refine then_r ?_
          refine jmp_r ?_
          refine ret0 rfl ?_
          exact ⟨_, rfl, rfl, ⟨_, rep_err hH (a1.short E.S') hW ((ho.mono (by decide)).upd (k := 1048) (by decide) _ : Off [2, 3, 4, 1048] g _) (by decide) rfl rfl rfl (by show (2 : Nat) ≠ 0; decide) (.inr (.inr (.inl ⟨rfl, rfl⟩))), hrun _ (.stop (by rw [mic_huff hmd, mh_len hsy (by omega) (by omega), hgl]; simp only; rw [gd_short (by rw [hdn]; exact ds_nones (by show 8 * E.N < p2 + 5; omega))]))⟩, hkp0.trans kp⟩
        ·skip
         have hpos : posq = rdTo p2 pos2 5 := rdTo_of hpp hpq (by omega)
         have hleq := hW.rd.le
         have hbv := bv_lt E.D p2 (8 * posq - p2)
         have h32 : bv E.D p2 (8 * posq - p2) < 4294967296 := Nat.lt_of_lt_of_le hbv (Nat.pow_le_pow_right (n := 2) (by decide) (show 8 * posq - p2 ≤ 32 by omega))
         have hbm : bv E.D p2 (8 * posq - p2) % 2 ^ 5 = bv E.D p2 5 := bv_mod E.D p2 (8 * posq - p2) 5 (by omega)
         have hbn := bv_lt E.D p2 5
         have h2n : 2 ^ 5 ≤ 2 ^ 13 := Nat.pow_le_pow_right (n := 2) (by decide) (by omega)
         have h2p : 0 < 2 ^ 5 := Nat.two_pow_pos _
         have h13 : (2 : Nat) ^ 13 = 8192 := rfl
         refine wp_exit ?_
         refine then_e ?_
         refine then_e ?_
         refine inb_same ?_
         refine then_n ?_
         refine sqr ?_
         refine Mp rfl ?_
         refine Np rfl ?_
         refine L1 (fa95_3 rfl) ?_
         refine L1 (ld82 rfl (hW.F.cellv (by decide) hB.b)) ?_
         refine L1 (bi rfl rfl ((bn_mask32 (k := 5) rfl rfl h32 (by decide)).trans (congrArg (fun x : Nat => pure (Value.int .u32 (x : Int))) hbm))) ?_
         refine L1 (bi rfl rfl (bn_shl32 (n := 3) rfl rfl (by decide) (by omega))) ?_
         refine L1 (cv82_5 rfl (wrap_u8n _ (by omega) (by omega))) ?_
         refine LC (cl1 has57 rfl rfl) (reverse8_c _ (bv E.D p2 5 * 2 ^ 3) (by omega)) ?_
         rintro v w1 ⟨rfl, rfl⟩
         have hrv := rev8_5 (bv E.D p2 5) (by omega)
         have hrl := rev5_lt (bv E.D p2 5)
         have hrv : rev 8 (bv E.D p2 5 * 2 ^ 3) = rev 5 (bv E.D p2 5) := hrv
         rw [hrv]
         refine L1 (cv5_3 rfl (wrap_s64 _ (by omega) (by omega))) ?_
         refine Ai rfl ?_
         refine nt ?_
         refine sqr ?_
         refine Mp rfl ?_
         refine Np rfl ?_
         refine L1 (fa95_3 rfl) ?_
         refine L1 (ld82 rfl (hW.F.cellv (by decide) hB.b)) ?_
         refine L1 (bi rfl rfl (bn_shr (n := 5) rfl rfl (by decide))) ?_
         refine Np rfl ?_
         refine L1 (fa95_3 rfl) ?_
         refine Lst82 (v := .int _ _) rfl rfl rfl hW.F (by decide) ?_
         intro w1 hb1 kp1
         have hW := hW.setF hE hb1 kp1
         have kp := kp.F kp1
         clear hb1 kp1
         refine nt ?_
         refine reg_lit ?_
         refine Mp rfl ?_
         refine Np rfl ?_
         refine L1 (fa95_4 rfl) ?_
         refine L1 (ld38 rfl (hW.F.cellv (by decide) hB.nb)) ?_
         refine L1 (bi rfl rfl (bn_subu (c := ((8 * posq - p2 - 5 : Nat) : Int)) (by omega) (by omega) (by omega))) ?_
         refine Np rfl ?_
         refine L1 (fa95_4 rfl) ?_
         refine Lst38 (v := .int _ _) rfl rfl rfl hW.F (by decide) ?_
         intro w1 hb1 kp1
         have hW := hW.setF hE hb1 kp1
         have kp := kp.F kp1
         clear hb1 kp1
         refine nt ?_
         have hB3 := Bt.advW hW hB 5 (by omega) ⟨_, hro⟩ rfl rfl
         have ho3 : Off [2, 3, 4] g _ := hW.offs ((ho.upd (k := 3) (by decide) _).upd (k := 4) (by decide) _)
         refine ⟨_, rfl, rfl, rfl, _, p2 + 5, posq, rev 5 (bv E.D p2 5), rfl, by omega, hW, hB3, ho3, kp, ?_⟩
         rw [hdn, hpos]
         exact ds_none (by show p2 + 5 ≤ 8 * E.N; omega)
       ·skip
        have hMd := hH.M
        rw [hds] at hMd
        obtain ⟨hLkd, h51, hAtd⟩ := hMd.d
        have h51' := (ho _ (by decide)).trans h51
        refine sqr ?_
        refine Mp rfl ?_
        refine Np rfl ?_
        refine L1 (fa95_17 rfl) ?_
        refine L1 (ld93 rfl (hW.F.cellv (by decide) h51')) ?_
        refine L1 (ep_f rfl rfl) ?_
        refine nt ?_
        refine cond_f rfl ?_
        refine sqr ?_
        refine Mp rfl ?_
        refine Mp rfl ?_
        refine Np rfl ?_
        refine L1 (fa95_17 rfl) ?_
        refine L1 (ld93 rfl (hW.F.cellv (by decide) h51')) ?_
        refine LC (cl2 has54 rfl rfl rfl) (sym_c E _ g2 hs bs cs p2 pos2 E.F 520 hdc hE hW (hH.C.S.off ho (by decide)) hB (hAtd.keep kp.X ho (by decide)) hLkd) ?_
        rintro v w4 hpost
        obtain ⟨sd, ev, rfl, kp1, hcs⟩ := hpost.cases
        have kp := kp.trans kp1
        clear kp1 hpost
        refine L1 (mv (v := .tuple _) rfl) ?_
        refine L1 (ext2_0 rfl) ?_
        refine L1 (ext2_1 rfl) ?_
        refine Ai rfl ?_
        refine L1 (asg (v := ev) rfl) ?_
        refine wpList_nil ?_
        rcases hcs with ⟨p3, pos3, g3, hsy2, rfl, hW, hB, ho2⟩ | ⟨g3, hsy2, rfl, hW, ho2⟩ | ⟨p3, pos3, g3, x3, hsy2, rfl, hW, ho2⟩
        ·skip
         have hs512d := getSym_lt hLkd hsy2
         refine then_n ?_
         refine sqr ?_
         refine L1 (mv (v := .nilIface) rfl) ?_
         refine L1 (en_nil rfl rfl) ?_
         refine nt ?_
         refine cond_f rfl ?_
         refine skn ?_
         exact ⟨_, rfl, rfl, rfl, g3, p3, pos3, sd, rfl, hs512d, hW, hB, ho.trans ho2, kp, by rw [hds]; exact hsy2⟩
        ·skip
         have ho := ho.trans ho2
         refine then_n ?_
         refine sqr ?_
         refine L1 (mv (v := UEOFv E) rfl) ?_
         refine L1 (en_held (u := 131) rfl rfl) ?_
         refine nt ?_
         refine cond_t rfl ?_
         refine sqr ?_
         refine Mp rfl ?_
         refine L1 (mv (v := (UEOFv E)) rfl) ?_
         refine Np rfl ?_
         refine L1 (fa95_14 rfl) ?_
         refine Lst62 (v := (UEOFv E)) rfl rfl rfl hW.F (by decide) ?_
         intro w1 hb1 kp1
         have hW := hW.setF hE hb1 kp1
         have kp := kp.F kp1
         clear hb1 kp1
         refine nt ?_
         refine wp_ret ?_
         refine then_r ?_
         refine then_r ?_
         refine jmp_r ?_
         refine ret0 rfl ?_
         exact ⟨_, rfl, rfl, ⟨_, rep_err hH (a1.short E.S') hW ((ho.mono (by decide)).upd (k := 1048) (by decide) _ : Off [2, 3, 4, 1048] g _) (by decide) rfl rfl rfl (by show (2 : Nat) ≠ 0; decide) (.inr (.inr (.inl ⟨rfl, rfl⟩))), hrun _ (.stop (by rw [mic_huff hmd, mh_len hsy (by omega) (by omega), hgl]; simp only; rw [gd_short (by rw [hds]; exact hsy2)]))⟩, hkp0.trans kp⟩
        ·skip
         have ho := (ho.mono (by decide) : Off [2, 3, 4, 1048] g g2).trans ho2
         refine then_n ?_
         refine sqr ?_
         refine L1 (mv (v := .iface _ _) rfl) ?_
         refine L1 (en_held rfl rfl) ?_
         refine nt ?_
         refine cond_t rfl ?_
         refine sqr ?_
         refine Mp rfl ?_
         refine L1 (mv (v := .iface _ _) rfl) ?_
         refine Np rfl ?_
         refine L1 (fa95_14 rfl) ?_
         refine Lst62 (v := .iface _ _) rfl rfl rfl hW.F (by decide) ?_
         intro w1 hb1 kp1
         have hW := hW.setF hE hb1 kp1
         have kp := kp.F kp1
         clear hb1 kp1
         refine nt ?_
         refine wp_ret ?_
         refine then_r ?_
         refine then_r ?_
         refine jmp_r ?_
         refine ret0 rfl ?_
         exact ⟨_, rfl, rfl, ⟨_, rep_err hH ({ a1 with p := p3, pos := pos3 }.bad) hW ((ho.mono (by decide)).upd (k := 1048) (by decide) _ : Off [2, 3, 4, 1048] g _) (by decide) rfl rfl rfl (by show (3 : Nat) ≠ 0; decide) (.inr (.inr (.inr ⟨rfl, _, rfl⟩))), hrun _ (.stop (by rw [mic_huff hmd, mh_len hsy (by omega) (by omega), hgl]; simp only; rw [gd_bad (by rw [hds]; exact hsy2)]))⟩, hkp0.trans kp⟩
      ·skip
       clear hW hB ho kp hro
       rintro f w4 ⟨s0, s5, g3, p3, pos3, d, s6, hd512, hW, hB, ho, kp, hgd⟩
       obtain ⟨ro, hro⟩ := hB.ro
       refine slots (fc s0 (fc s5 (fc s6 fnil))) ?_
       refine seq_cut (N := 362) (fun f w' => f 0 = fp E ∧ f 5 = .int .i64 ((len : Nat) : Int) ∧ ∃ g4 p4 pos4 dist, f 6 = .int .i64 ((dist : Nat) : Int) ∧ 1 ≤ dist ∧ dist ≤ 32768 ∧ Wd E w' g4 hs bs cs pos4 ∧ Bt E g4 p4 pos4 ∧ Off [2, 3, 4] g g4 ∧ Kp E.L w1 w' ∧ getDist E.S' hd p2 pos2 = .ok dist p4 pos4) ?_ ?_
       ·skip
        refine wp_block ?_
        refine sqr ?_
        refine Mi rfl ?_
        refine L1 (bi rfl rfl (bn_lss (v := decide (d < 4)) (decide_eq_decide.2 (by omega)))) ?_
        refine Ab rfl ?_
        refine nt ?_
        refine cond_d (p := d < 4) rfl (fun h4 => ?_) (fun h4 => ?_)
        ·skip
         refine reg_lit ?_
         refine Mi rfl ?_
         refine L1 (bi rfl rfl (bn_add (c := ((d + 1 : Nat) : Int)) (by omega) (by omega) (by omega))) ?_
         refine Ai rfl ?_
         refine wpList_nil ?_
         refine inb_n ?_
         refine then_n ?_
         exact ⟨_, rfl, rfl, rfl, g3, p3, pos3, d + 1, rfl, by omega, by omega, hW, hB, ho, kp, gd_small hgd h4⟩
        ·skip
         refine sqr ?_
         refine Mi rfl ?_
         refine L1 (bi rfl rfl (bn_lss (v := decide (d < 30)) (decide_eq_decide.2 (by omega)))) ?_
         refine Ab rfl ?_
         refine nt ?_
         refine cond_d (p := d < 30) rfl (fun h30 => ?_) (fun h30 => ?_)
         ·skip
          obtain ⟨m, hm⟩ : ∃ m, (d - 2) / 2 = m := ⟨_, rfl⟩
          have hm13 : m ≤ 13 := by omega
          have h2m : 2 ^ m ≤ 2 ^ 13 := Nat.pow_le_pow_right (n := 2) (by decide) (by omega)
          have h13' : (2 : Nat) ^ 13 = 8192 := rfl
          have hdm : d % 2 * 2 ^ m ≤ 1 * 2 ^ m := Nat.mul_le_mul_right _ (by omega)
          refine sqr ?_
          refine Mi rfl ?_
          refine L1 (bi rfl rfl (bn_sub (c := ((d - 2 : Nat) : Int)) (by omega) (by omega) (by omega))) ?_
          refine L1 (cv3_38 rfl (wrap_u64n _ (by omega) (by omega))) ?_
          refine L1 (bi rfl rfl ((bn_shr (x := d - 2) (n := 1) rfl rfl (by decide)).trans (congrArg (fun x : Nat => pure (Value.int .u64 (x : Int))) hm))) ?_
          refine Ai rfl ?_
          refine nt ?_
          refine sqr ?_
          refine Mi rfl ?_
          refine L1 (bi rfl rfl (bn_mask64s (k := 1) rfl rfl (by omega) (by decide))) ?_
          refine Mi rfl ?_
          refine L1 (bi rfl rfl (bn_shl64 (x := d % 2) rfl rfl (by omega) (by omega))) ?_
          refine Ai rfl ?_
          refine nt ?_
          refine wp_seq ?_
          refine wp_block ?_
          refine loop_fr (fun k f w' => f 0 = fp E ∧ f 5 = .int .i64 ((len : Nat) : Int) ∧ f 6 = .int .i64 ((d : Nat) : Int) ∧ f 7 = .int .u64 ((m : Nat) : Int) ∧ f 8 = .int .i64 ((d % 2 * 2 ^ m : Nat) : Int) ∧ ∃ g' pos', Wd E w' g' hs bs cs pos' ∧ Bt E g' p3 pos' ∧ Off [2, 3, 4] g g' ∧ Kp E.L w1 w' ∧ pos3 ≤ pos' ∧ (pos' = pos3 ∨ 8 * pos' < p3 + m + 8) ∧ k = E.N - pos') (E.N - pos3) ⟨rfl, rfl, rfl, rfl, rfl, _, pos3, hW, hB, ho, kp, Nat.le_refl _, .inl rfl, rfl⟩ ?_
          clear hW kp hB ho hro
          intro k f w3 HJ
          obtain ⟨t0, t5, t6, t7, t8, gq, posq, hW, hB, ho, kp, hpp, hpq, rfl⟩ := HJ
          have hp0 := hB.le
          have hp1 := hB.l32
          have hSq := hH.C.S.off ho (by decide)
          obtain ⟨ro, hro⟩ := hB.ro
          refine slots (fc t0 (fc t5 (fc t6 (fc t7 (fc t8 fnil))))) ?_
          refine wp_seq ?_
          refine sqr ?_
          refine Mp rfl ?_
          refine Np rfl ?_
          refine L1 (fa95_4 rfl) ?_
          refine L1 (ld38 rfl (hW.F.cellv (by decide) hB.nb)) ?_
          refine Mi rfl ?_
          refine L1 (bi rfl rfl (bn_lss (v := decide (8 * posq - p3 < m)) (decide_eq_decide.2 (by omega)))) ?_
          refine nt ?_
          refine cond_d (p := 8 * posq - p3 < m) rfl (fun hlt => ?_) (fun hlt => ?_)
          ·skip
           by_cases hpn : posq < E.N
           ·skip
            refine skn ?_
            refine wp_block ?_
            refine sqr ?_
            refine Mp rfl ?_
            refine LC (cl1 has41 rfl rfl) (more_ok E _ gq hs bs cs p3 posq hE hW hSq hB (by omega) hpn) ?_
            rintro v w1 ⟨rfl, g2, hW, hB, ho2, kp1⟩
            have kp := kp.trans kp1
            refine L1 (asg (v := .nilIface) rfl) ?_
            refine nt ?_
            refine sqr ?_
            refine L1 (mv (v := .nilIface) rfl) ?_
            refine L1 (en_nil rfl rfl) ?_
            refine nt ?_
            refine cond_f rfl ?_
            refine wp_skip ?_
            refine inb_n ?_
            refine then_n ?_
            have hle := hW.rd.le
            exact ⟨E.N - (posq + 1), _, by omega, rfl, rfl, rfl, rfl, rfl, rfl, _, posq + 1, hW, hB, ho.trans ho2, kp, by omega, .inr (by omega), rfl⟩
           ·skip
            refine skn ?_
            refine wp_block ?_
            refine sqr ?_
            refine Mp rfl ?_
            refine LC (cl1 has41 rfl rfl) (more_short E _ gq hs bs cs p3 posq hE hW hSq hB (by have := hW.rd.le; omega)) ?_
            rintro v w1 ⟨rfl, hW, kp1⟩
            have kp := kp.trans kp1
            have epq : posq = E.N := by have := hW.rd.le; omega
            rw [epq] at hW
            refine L1 (asg (v := (UEOFv E)) rfl) ?_
            refine nt ?_
            refine sqr ?_
            refine L1 (mv (v := UEOFv E) rfl) ?_
            refine L1 (en_held (u := 131) rfl rfl) ?_
            refine nt ?_
            refine cond_t rfl ?_
            refine sqr ?_
            refine Mp rfl ?_
            refine L1 (mv (v := (UEOFv E)) rfl) ?_
            refine Np rfl ?_
            refine L1 (fa95_14 rfl) ?_
            refine Lst62 (v := (UEOFv E)) rfl rfl rfl hW.F (by decide) ?_
            intro w1 hb1 kp1
            have hW := hW.setF hE hb1 kp1
            have kp := kp.F kp1
            clear hb1 kp1
            refine nt ?_
            refine wp_ret ?_
            refine inb_r ?_
            refine then_r ?_
            refine inb_r ?_
            refine then_r ?_
            refine inb_r ?_
            refine then_r ?_
            refine then_r ?_
            refine jmp_r ?_
            refine ret0 rfl ?_
            exact ⟨_, rfl, rfl, ⟨_, rep_err hH (a1.short E.S') hW ((ho.mono (by decide)).upd (k := 1048) (by decide) _ : Off [2, 3, 4, 1048] g _) (by decide) rfl rfl rfl (by show (2 : Nat) ≠ 0; decide) (.inr (.inr (.inl ⟨rfl, rfl⟩))), hrun _ (.stop (by rw [mic_huff hmd, mh_len hsy (by omega) (by omega), hgl]; simp only; rw [gd_ns hgd h4 h30 (by rw [hm]; show 8 * E.N < p3 + m; omega)]))⟩, hkp0.trans kp⟩
          ·skip
           have hpos : posq = rdTo p3 pos3 m := rdTo_of hpp hpq (by omega)
           have hleq := hW.rd.le
           have hbv := bv_lt E.D p3 (8 * posq - p3)
           have h32 : bv E.D p3 (8 * posq - p3) < 4294967296 := Nat.lt_of_lt_of_le hbv (Nat.pow_le_pow_right (n := 2) (by decide) (show 8 * posq - p3 ≤ 32 by omega))
           have hbm : bv E.D p3 (8 * posq - p3) % 2 ^ m = bv E.D p3 m := bv_mod E.D p3 (8 * posq - p3) m (by omega)
           have hbn := bv_lt E.D p3 m
           have h2n : 2 ^ m ≤ 2 ^ 13 := Nat.pow_le_pow_right (n := 2) (by decide) (by omega)
           have h2p : 0 < 2 ^ m := Nat.two_pow_pos _
           have h13 : (2 : Nat) ^ 13 = 8192 := rfl
           refine wp_exit ?_
           refine then_e ?_
           refine then_e ?_
           refine inb_same ?_
           refine then_n ?_
           refine sqr ?_
           refine Mi rfl ?_
           refine Mp rfl ?_
           refine Np rfl ?_
           refine L1 (fa95_3 rfl) ?_
           refine L1 (ld82 rfl (hW.F.cellv (by decide) hB.b)) ?_
           refine Mi rfl ?_
           refine L1 (bi rfl rfl (bn_shl32 (x := 1) rfl rfl (by omega) (by omega))) ?_
           refine L1 (bi rfl rfl (bn_sub32 (c := ((2 ^ m - 1 : Nat) : Int)) (by omega) (by omega) (by omega))) ?_
           refine L1 (bi rfl rfl ((bn_mask32 (k := m) rfl rfl h32 (by omega)).trans (congrArg (fun x : Nat => pure (Value.int .u32 (x : Int))) hbm))) ?_
           refine L1 (cv82_3 rfl (wrap_s64 _ (by omega) (by omega))) ?_
           refine L1 (bi rfl rfl ((bn_or64 rfl rfl (by omega) (by omega)).trans (congrArg (fun x : Nat => pure (Value.int .i64 (x : Int))) (show d % 2 * 2 ^ m ||| bv E.D p3 m = d % 2 * 2 ^ m + bv E.D p3 m by rw [Nat.or_comm, or_high _ _ _ hbn, Nat.add_comm])))) ?_
           refine Ai rfl ?_
           refine nt ?_
           refine sqr ?_
           refine Mp rfl ?_
           refine Np rfl ?_
           refine L1 (fa95_3 rfl) ?_
           refine L1 (ld82 rfl (hW.F.cellv (by decide) hB.b)) ?_
           refine Mi rfl ?_
           refine L1 (bi rfl rfl (bn_shr (n := m) rfl rfl (by show m ≤ 32; omega))) ?_
           refine Np rfl ?_
           refine L1 (fa95_3 rfl) ?_
           refine Lst82 (v := .int _ _) rfl rfl rfl hW.F (by decide) ?_
           intro w1 hb1 kp1
           have hW := hW.setF hE hb1 kp1
           have kp := kp.F kp1
           clear hb1 kp1
           refine nt ?_
           refine sqr ?_
           refine Mp rfl ?_
           refine Np rfl ?_
           refine L1 (fa95_4 rfl) ?_
           refine L1 (ld38 rfl (hW.F.cellv (by decide) hB.nb)) ?_
           refine Mi rfl ?_
           refine L1 (bi rfl rfl (bn_subu (c := ((8 * posq - p3 - m : Nat) : Int)) (by omega) (by omega) (by omega))) ?_
           refine Np rfl ?_
           refine L1 (fa95_4 rfl) ?_
           refine Lst38 (v := .int _ _) rfl rfl rfl hW.F (by decide) ?_
           intro w1 hb1 kp1
           have hW := hW.setF hE hb1 kp1
           have kp := kp.F kp1
           clear hb1 kp1
           refine nt ?_
           refine reg_lit ?_
           refine Mi rfl ?_
           refine L1 (bi rfl rfl (bn_addu (c := ((m + 1 : Nat) : Int)) (by omega) (by omega) (by omega))) ?_
           refine L1 (bi rfl rfl (bn_shl64 (x := 1) (n := m + 1) rfl rfl (by omega) (by rw [Nat.pow_succ]; omega))) ?_
           refine L1 (bi rfl rfl (bn_add (c := ((2 ^ (m + 1) + 1 : Nat) : Int)) (by omega) (by omega) (by rw [Nat.pow_succ]; omega))) ?_
           refine Mi rfl ?_
           refine L1 (bi rfl rfl (bn_add (c := ((2 ^ (m + 1) + 1 + (d % 2 * 2 ^ m + bv E.D p3 m) : Nat) : Int)) (by omega) (by omega) (by rw [Nat.pow_succ]; omega))) ?_
           refine Ai rfl ?_
           refine wpList_nil ?_
           refine inb_n ?_
           refine then_n ?_
           have hB3 := Bt.advW hW hB m (by omega) ⟨_, hro⟩ rfl rfl
           have ho3 : Off [2, 3, 4] g _ := hW.offs ((ho.upd (k := 3) (by decide) _).upd (k := 4) (by decide) _)
           have hdl := dist_le (v := d) h30 (bv E.D p3 m) (by rw [hm]; exact hbn)
           rw [hm] at hdl
           have hgn := gd_n hgd h4 h30 (by rw [hm]; show p3 + m ≤ 8 * E.N; omega)
           rw [hm, ← hpos] at hgn
           exact ⟨_, rfl, rfl, rfl, _, p3 + m, posq, _, rfl, by omega, hdl, hW, hB3, ho3, kp, hgn⟩
         ·skip
          refine sqr ?_
          refine Mp rfl ?_
          refine Mp rfl ?_
          refine Np rfl ?_
          refine L1 (fa95_2 rfl) ?_
          refine L1 (ld2 rfl (hW.F.cellv (by decide) hro)) ?_
          refine L1 (mkI107 rfl) ?_
          refine Np rfl ?_
          refine L1 (fa95_14 rfl) ?_
          refine Lst62 (v := .iface _ _) rfl rfl rfl hW.F (by decide) ?_
          intro w1 hb1 kp1
          have hW := hW.setF hE hb1 kp1
          have kp := kp.F kp1
          clear hb1 kp1
          refine nt ?_
          refine wp_ret ?_
          refine inb_r ?_
          refine then_r ?_
          refine then_r ?_
          refine jmp_r ?_
          refine ret0 rfl ?_
          exact ⟨_, rfl, rfl, ⟨_, rep_err hH ({ a1 with p := p3, pos := pos3 }.bad) hW ((ho.mono (by decide)).upd (k := 1048) (by decide) _ : Off [2, 3, 4, 1048] g _) (by decide) rfl rfl rfl (by show (3 : Nat) ≠ 0; decide) (.inr (.inr (.inr ⟨rfl, _, rfl⟩))), hrun _ (.stop (by rw [mic_huff hmd, mh_len hsy (by omega) (by omega), hgl]; simp only; rw [gd_big hgd h30]))⟩, hkp0.trans kp⟩
       ·skip
        clear hW hB ho kp hro
        rintro f w5 ⟨s0, s5, g4, p4, pos4, dist, s6, hd1, hd2, hW, hB, ho, kp, hgd2⟩
        obtain ⟨ro, hro⟩ := hB.ro
        refine slots (fc s0 (fc s5 (fc s6 fnil))) ?_
        have hhist : (if decide (0 < q) = true then 32768 else a1.out.length % 32768) = min a1.out.length 32768 := by
         by_cases h : 0 < q
         ·rw [if_pos (by simpa using h)]; omega
         ·rw [if_neg (by simpa using h)]; omega
        refine wp_seq ?_
        refine sqr ?_
        refine Mi rfl ?_
        refine Mp rfl ?_
        refine Np rfl ?_
        refine L1 (fa95_9 rfl) ?_
        refine LC (cl1 has58 rfl rfl) (histSize_c E _ g4 (a1.out.length % 32768) rd _ hW.F (hDD.off ho (by decide))) ?_
        rintro v w1 ⟨rfl, rfl⟩
        refine L1 (bi rfl rfl (bn_gtr (v := decide (min a1.out.length 32768 < dist)) (decide_eq_decide.2 (by rw [hhist]; omega)))) ?_
        refine nt ?_
        refine cond_d (p := min a1.out.length 32768 < dist) rfl (fun hfar => ?_) (fun hfar => ?_)
        ·skip
         refine sqr ?_
         refine Mp rfl ?_
         refine Mp rfl ?_
         refine Np rfl ?_
         refine L1 (fa95_2 rfl) ?_
         refine L1 (ld2 rfl (hW.F.cellv (by decide) hro)) ?_
         refine L1 (mkI107 rfl) ?_
         refine Np rfl ?_
         refine L1 (fa95_14 rfl) ?_
         refine Lst62 (v := .iface _ _) rfl rfl rfl hW.F (by decide) ?_
         intro w1 hb1 kp1
         have hW := hW.setF hE hb1 kp1
         have kp := kp.F kp1
         clear hb1 kp1
         refine nt ?_
         refine wp_ret ?_
         refine then_r ?_
         refine then_r ?_
         refine jmp_r ?_
         refine ret0 rfl ?_
         exact ⟨_, rfl, rfl, ⟨_, rep_err hH ({ a1 with p := p4, pos := pos4 }.bad) hW ((ho.mono (by decide)).upd (k := 1048) (by decide) _ : Off [2, 3, 4, 1048] g _) (by decide) rfl rfl rfl (by show (3 : Nat) ≠ 0; decide) (.inr (.inr (.inr ⟨rfl, _, rfl⟩))), hrun _ (.stop (by rw [mic_huff hmd, mh_len hsy (by omega) (by omega), hgl]; simp only; rw [hgd2]; simp only; rw [if_pos hfar]))⟩, hkp0.trans kp⟩
        ·skip
         refine skn ?_
         refine sqr ?_
         refine Mp rfl ?_
         refine Mp rfl ?_
         refine Mi rfl ?_
         refine Mi rfl ?_
         refine Np rfl ?_
         refine L1 (fa95_18 rfl) ?_
         refine Lst3 (v := .int _ _) rfl rfl rfl hW.F (by decide) ?_
         intro w1 hb1 kp1
         have hW := hW.setF hE hb1 kp1
         have kp := kp.F kp1
         clear hb1 kp1
         refine Np rfl ?_
         refine L1 (fa95_19 rfl) ?_
         refine Lst3 (v := .int _ _) rfl rfl rfl hW.F (by decide) ?_
         intro w1 hb1 kp1
         have hW := hW.setF hE hb1 kp1
         have kp := kp.F kp1
         clear hb1 kp1
         refine nt ?_
         refine wp_goto ?_
         refine then_g ?_
         refine jmp_g ?_
         have ho3 : Off [2, 3, 4, 1052, 1053] g _ := hW.offs (((ho.mono (by decide)).upd (k := 1052) (by decide) _).upd (k := 1053) (by decide) _)
         have hss : SS (upd (upd g4 1052 (.int .i64 ((len : Nat) : Int))) 1053 (.int .i64 ((dist : Nat) : Int))) := by
          rcases hH.ss with h | ⟨h, _⟩
          ·exact .inl ((ho3 _ (by decide)).trans h)
          ·exact .inr ⟨(ho3 _ (by decide)).trans h, dist, rfl, hd1, hd2⟩
         have hH2 : HS E _ _ _ bs cs { a1 with p := p4, pos := pos4, md := .huff hl hd (some (len, dist)) } hl hd := hH.next hW (hB.off (((Off.refl [1052, 1053] g4).upd (k := 1052) (by decide) _).upd (k := 1053) (by decide) _) (by decide)) ho3 (by decide) (by decide) kp hH.C.V (hH.C.D.off ho3 (by decide)) (hH.C.T.off ho3 (by decide)) hss rfl
         have hmic : mic E.S' a1 = ({ a1 with p := p4, pos := pos4, md := .huff hl hd (some (len, dist)) }, false) := by rw [mic_huff hmd, mh_len hsy (by omega) (by omega), hgl]; simp only; rw [hgd2]; simp only; rw [if_neg hfar]
         exact ⟨_, by have := mu_mic hmic; omega, _, _, _, _, rfl, rfl, hH2, he0, hef, fun b hb => hrun b (.more hmic hb), hkp0.trans kp, .inr ⟨rfl, len, dist, a1.out, rfl, hlen, rfl, hd1, hd2, hH.C.V, rfl, by omega, fun _ h => h, .inl ⟨rfl, by show dist ≤ a1.out.length; omega, rfl⟩⟩⟩
   ·skip
    refine then_n ?_
    refine wp_seq ?_
    refine sqr ?_
    refine L1 (mv (v := UEOFv E) rfl) ?_
    refine L1 (en_held (u := 131) rfl rfl) ?_
    refine nt ?_
    refine cond_t rfl ?_
    refine sqr ?_
    refine Mp rfl ?_
    refine L1 (mv (v := (UEOFv E)) rfl) ?_
    refine Np rfl ?_
    refine L1 (fa95_14 rfl) ?_
    refine Lst62 (v := (UEOFv E)) rfl rfl rfl hW.F (by decide) ?_
    intro w1 hb1 kp1
    have hW := hW.setF hE hb1 kp1
    have kp := kp.F kp1
    clear hb1 kp1
    refine nt ?_
    refine wp_ret ?_
    refine then_r ?_
    refine then_r ?_
    refine jmp_r ?_
    refine ret0 rfl ?_
    exact ⟨_, rfl, rfl, ⟨_, rep_err hH (a1.short E.S') hW ((ho.mono (by decide)).upd (k := 1048) (by decide) _ : Off [2, 3, 4, 1048] g _) (by decide) rfl rfl rfl (by show (2 : Nat) ≠ 0; decide) (.inr (.inr (.inl ⟨rfl, rfl⟩))), hrun _ (.stop (by rw [mic_huff hmd, mh_short hsy]))⟩, hkp0.trans kp⟩
   ·skip
    refine then_n ?_
    refine wp_seq ?_
    refine sqr ?_
    refine L1 (mv (v := .iface _ _) rfl) ?_
    refine L1 (en_held rfl rfl) ?_
    refine nt ?_
    refine cond_t rfl ?_
    refine sqr ?_
    refine Mp rfl ?_
    refine L1 (mv (v := .iface _ _) rfl) ?_
    refine Np rfl ?_
    refine L1 (fa95_14 rfl) ?_
    refine Lst62 (v := .iface _ _) rfl rfl rfl hW.F (by decide) ?_
    intro w1 hb1 kp1
    have hW := hW.setF hE hb1 kp1
    have kp := kp.F kp1
    clear hb1 kp1
    refine nt ?_
    refine wp_ret ?_
    refine then_r ?_
    refine then_r ?_
    refine jmp_r ?_
    refine ret0 rfl ?_
    exact ⟨_, rfl, rfl, ⟨_, rep_err hH ({ a1 with p := p1, pos := pos1 }.bad) hW ((ho.mono (by decide)).upd (k := 1048) (by decide) _ : Off [2, 3, 4, 1048] g _) (by decide) rfl rfl rfl (by show (3 : Nat) ≠ 0; decide) (.inr (.inr (.inr ⟨rfl, _, rfl⟩))), hrun _ (.stop (by rw [mic_huff hmd, mh_bad hsy]))⟩, hkp0.trans kp⟩
  ·skip
   refine ⟨_, rfl, ?_⟩
   refine slots (fc s0 fnil) ?_
   refine wp_seq ?_
   refine skn ?_
   refine seq_cut2 (N := 362) (fun f w' => f 0 = fp E ∧ f 9 = .int .i64 ((min len (32768 - a1.out.length % 32768) : Nat) : Int) ∧ ∃ g1 hs1, Wd E w' g1 hs1 bs cs a1.pos ∧ Win (lz outX dist (min len (32768 - a1.out.length % 32768))) hs1 ∧ g1 1038 = .int .i64 ((a1.out.length % 32768 + min len (32768 - a1.out.length % 32768) : Nat) : Int) ∧ Off [1038] g g1 ∧ Kp E.L w1 w') ?_ ?_
   ·skip
    by_cases hdw : a1.out.length % 32768 < dist
    ·skip
     refine reg_tail 11 mixed (by kernel_rfl) ?_
     have hW := hW.drew
     have kp := kp.drew
     refine S1 (mv (v := .pointer _) rfl) ?_
     refine S1 (nilP rfl) ?_
     refine S1 (fa95_9 rfl) ?_
     refine S1 (mv (v := .pointer _) rfl) ?_
     refine S1 (nilP rfl) ?_
     refine S1 (fa95_19 rfl) ?_
     refine S1 (ld3 rfl (hW.F.cellv (by decide) h53)) ?_
     refine S1 (mv (v := .pointer _) rfl) ?_
     refine S1 (nilP rfl) ?_
     refine S1 (fa95_18 rfl) ?_
     refine S1 (ld3 rfl (hW.F.cellv (by decide) h52)) ?_
     refine still_nil ?_
     refine LC (cl3 has59 rfl rfl rfl rfl) (tw_no_a E _ g hs bs cs a1.pos (a1.out.length % 32768) rd dist len _ outX hE hW hDD hwx hox.symm (by omega) hdx hd2 hlen hdw) ?_
     rintro v w1 ⟨rfl, hW, kp1⟩
     have kp := kp.trans kp1
     refine Ai rfl ?_
     refine nt ?_
     refine sqr ?_
     refine Mi rfl ?_
     refine L1 (bi rfl rfl (bn_eql (v := true) (decide_eq_true rfl))) ?_
     refine nt ?_
     refine cond_t rfl ?_
     refine reg_tail 11 mixed (by kernel_rfl) ?_
     have hW := hW.drew
     have kp := kp.drew
     refine S1 (mv (v := .pointer _) rfl) ?_
     refine S1 (nilP rfl) ?_
     refine S1 (fa95_9 rfl) ?_
     refine S1 (mv (v := .pointer _) rfl) ?_
     refine S1 (nilP rfl) ?_
     refine S1 (fa95_19 rfl) ?_
     refine S1 (ld3 rfl (hW.F.cellv (by decide) h53)) ?_
     refine S1 (mv (v := .pointer _) rfl) ?_
     refine S1 (nilP rfl) ?_
     refine S1 (fa95_18 rfl) ?_
     refine S1 (ld3 rfl (hW.F.cellv (by decide) h52)) ?_
     refine still_nil ?_
     refine LC (cl3 has60 rfl rfl rfl rfl) (wc_w E _ g hs bs cs a1.pos (a1.out.length % 32768) rd dist len _ outX hE hW hDD hwx hox.symm (by omega) hdx hd2 hlen hdw) ?_
     rintro v w1 ⟨rfl, g1, hs1, hW, hwin1, h38, ho, kp1⟩
     have kp := kp.trans kp1
     refine Ai rfl ?_
     refine nt ?_
     exact ⟨_, rfl, rfl, rfl, g1, hs1, hW, hwin1, h38, ho, kp⟩
    ·skip
     by_cases hfit : 32768 < a1.out.length % 32768 + len
     ·skip
      refine reg_tail 11 mixed (by kernel_rfl) ?_
      have hW := hW.drew
      have kp := kp.drew
      refine S1 (mv (v := .pointer _) rfl) ?_
      refine S1 (nilP rfl) ?_
      refine S1 (fa95_9 rfl) ?_
      refine S1 (mv (v := .pointer _) rfl) ?_
      refine S1 (nilP rfl) ?_
      refine S1 (fa95_19 rfl) ?_
      refine S1 (ld3 rfl (hW.F.cellv (by decide) h53)) ?_
      refine S1 (mv (v := .pointer _) rfl) ?_
      refine S1 (nilP rfl) ?_
      refine S1 (fa95_18 rfl) ?_
      refine S1 (ld3 rfl (hW.F.cellv (by decide) h52)) ?_
      refine still_nil ?_
      refine LC (cl3 has59 rfl rfl rfl rfl) (tw_no_b E _ g hs bs cs a1.pos (a1.out.length % 32768) rd dist len _ outX hE hW hDD hwx hox.symm (by omega) hdx hd2 hlen ⟨by omega, hfit⟩) ?_
      rintro v w1 ⟨rfl, hW, kp1⟩
      have kp := kp.trans kp1
      refine Ai rfl ?_
      refine nt ?_
      refine sqr ?_
      refine Mi rfl ?_
      refine L1 (bi rfl rfl (bn_eql (v := true) (decide_eq_true rfl))) ?_
      refine nt ?_
      refine cond_t rfl ?_
      refine reg_tail 11 mixed (by kernel_rfl) ?_
      have hW := hW.drew
      have kp := kp.drew
      refine S1 (mv (v := .pointer _) rfl) ?_
      refine S1 (nilP rfl) ?_
      refine S1 (fa95_9 rfl) ?_
      refine S1 (mv (v := .pointer _) rfl) ?_
      refine S1 (nilP rfl) ?_
      refine S1 (fa95_19 rfl) ?_
      refine S1 (ld3 rfl (hW.F.cellv (by decide) h53)) ?_
      refine S1 (mv (v := .pointer _) rfl) ?_
      refine S1 (nilP rfl) ?_
      refine S1 (fa95_18 rfl) ?_
      refine S1 (ld3 rfl (hW.F.cellv (by decide) h52)) ?_
      refine still_nil ?_
      refine LC (cl3 has60 rfl rfl rfl rfl) (wc_s E _ g hs bs cs a1.pos (a1.out.length % 32768) rd dist len _ outX hE hW hDD hwx hox.symm (by omega) hdx hd2 hlen (by omega)) ?_
      rintro v w1 ⟨rfl, g1, hs1, hW, hwin1, h38, ho, kp1⟩
      have kp := kp.trans kp1
      refine Ai rfl ?_
      refine nt ?_
      exact ⟨_, rfl, rfl, rfl, g1, hs1, hW, hwin1, h38, ho, kp⟩
     ·skip
      rcases Nat.eq_zero_or_pos len with hz | hz
      ·skip
       subst hz
       refine reg_tail 11 mixed (by kernel_rfl) ?_
       have hW := hW.drew
       have kp := kp.drew
       refine S1 (mv (v := .pointer _) rfl) ?_
       refine S1 (nilP rfl) ?_
       refine S1 (fa95_9 rfl) ?_
       refine S1 (mv (v := .pointer _) rfl) ?_
       refine S1 (nilP rfl) ?_
       refine S1 (fa95_19 rfl) ?_
       refine S1 (ld3 rfl (hW.F.cellv (by decide) h53)) ?_
       refine S1 (mv (v := .pointer _) rfl) ?_
       refine S1 (nilP rfl) ?_
       refine S1 (fa95_18 rfl) ?_
       refine S1 (ld3 rfl (hW.F.cellv (by decide) h52)) ?_
       refine still_nil ?_
       refine LC (cl3 has59 rfl rfl rfl rfl) (tw_yes E _ g hs bs cs a1.pos (a1.out.length % 32768) rd dist 0 _ outX hE hW hDD hwx hox.symm (by omega) hdx hd2 hlen (by omega) (by omega)) ?_
       rintro v w1 ⟨rfl, g0, hs0, hW, hwin0, h380, hoz, kp1⟩
       have kp := kp.trans kp1
       refine Ai rfl ?_
       refine nt ?_
       refine sqr ?_
       refine Mi rfl ?_
       refine L1 (bi rfl rfl (bn_eql (v := true) (decide_eq_true rfl))) ?_
       refine nt ?_
       refine cond_t rfl ?_
       refine reg_tail 11 mixed (by kernel_rfl) ?_
       have hW := hW.drew
       have kp := kp.drew
       refine S1 (mv (v := .pointer _) rfl) ?_
       refine S1 (nilP rfl) ?_
       refine S1 (fa95_9 rfl) ?_
       refine S1 (mv (v := .pointer _) rfl) ?_
       refine S1 (nilP rfl) ?_
       refine S1 (fa95_19 rfl) ?_
       refine S1 (ld3 rfl (hW.F.cellv (by decide) ((hoz _ (by decide)).trans h53))) ?_
       refine S1 (mv (v := .pointer _) rfl) ?_
       refine S1 (nilP rfl) ?_
       refine S1 (fa95_18 rfl) ?_
       refine S1 (ld3 rfl (hW.F.cellv (by decide) ((hoz _ (by decide)).trans h52))) ?_
       refine still_nil ?_
       refine LC (cl3 has60 rfl rfl rfl rfl) (wc_s E _ g0 hs0 bs cs a1.pos (a1.out.length % 32768) rd dist 0 _ outX hE hW ⟨(hoz _ (by decide)).trans hDD.hist, h380, (hoz _ (by decide)).trans hDD.rd, (hoz _ (by decide)).trans hDD.full⟩ hwin0 hox.symm (by omega) hdx hd2 (by omega) (by omega)) ?_
       rintro v w1 ⟨rfl, g1, hs1, hW, hwin1, h38, ho1, kp1⟩
       have kp := kp.trans kp1
       have ho := hoz.trans ho1
       refine Ai rfl ?_
       refine nt ?_
       exact ⟨_, rfl, rfl, rfl, g1, hs1, hW, hwin1, h38, ho, kp⟩
      ·skip
       have hcnt : min len (32768 - a1.out.length % 32768) = len := by omega
       rw [hcnt]
       refine reg_tail 11 mixed (by kernel_rfl) ?_
       have hW := hW.drew
       have kp := kp.drew
       refine S1 (mv (v := .pointer _) rfl) ?_
       refine S1 (nilP rfl) ?_
       refine S1 (fa95_9 rfl) ?_
       refine S1 (mv (v := .pointer _) rfl) ?_
       refine S1 (nilP rfl) ?_
       refine S1 (fa95_19 rfl) ?_
       refine S1 (ld3 rfl (hW.F.cellv (by decide) h53)) ?_
       refine S1 (mv (v := .pointer _) rfl) ?_
       refine S1 (nilP rfl) ?_
       refine S1 (fa95_18 rfl) ?_
       refine S1 (ld3 rfl (hW.F.cellv (by decide) h52)) ?_
       refine still_nil ?_
       refine LC (cl3 has59 rfl rfl rfl rfl) (tw_yes E _ g hs bs cs a1.pos (a1.out.length % 32768) rd dist len _ outX hE hW hDD hwx hox.symm (by omega) hdx hd2 hlen (by omega) (by omega)) ?_
       rintro v w1 ⟨rfl, g1, hs1, hW, hwin1, h38, ho, kp1⟩
       have kp := kp.trans kp1
       refine Ai rfl ?_
       refine nt ?_
       refine sqr ?_
       refine Mi rfl ?_
       refine L1 (bi rfl rfl (bn_eql (v := false) (decide_eq_false (by omega)))) ?_
       refine nt ?_
       refine cond_f rfl ?_
       refine skn ?_
       exact ⟨_, rfl, rfl, rfl, g1, hs1, hW, hwin1, h38, ho, kp⟩
   ·skip
    clear hW kp
    rintro f w2 ⟨s0, s9, g1, hs1, hW, hwin1, h38, ho, kp⟩
    have h521 := (ho _ (by decide)).trans h52
    have h531 := (ho _ (by decide)).trans h53
    obtain ⟨cnt, hcnt⟩ : ∃ cnt, min len (32768 - a1.out.length % 32768) = cnt := ⟨_, rfl⟩
    have hav : avail a1.out = 32768 - a1.out.length % 32768 := rfl
    rw [hcnt] at s9 hwin1 h38
    rw [hav, hcnt] at hwin
    refine slots (fc s0 (fc s9 fnil)) ?_
    have hDDc : ∀ g', g' 1037 = g1 1037 → g' 1038 = g1 1038 → g' 1039 = g1 1039 → g' 1040 = g1 1040 → DD E g' (a1.out.length % 32768 + cnt) rd (decide (0 < q)) := fun g' x1 x2 x3 x4 => ⟨x1.trans ((ho _ (by decide)).trans hDD.hist), x2.trans h38, x3.trans ((ho _ (by decide)).trans hDD.rd), x4.trans ((ho _ (by decide)).trans hDD.full)⟩
    have hlz : (lz a1.out dist cnt).length = a1.out.length + cnt := lz_len _ _ _
    refine sqr ?_
    refine Mp rfl ?_
    refine Np rfl ?_
    refine L1 (fa95_18 rfl) ?_
    refine L1 (ld3 rfl (hW.F.cellv (by decide) h521)) ?_
    refine Mi rfl ?_
    refine L1 (bi rfl rfl (bn_sub (c := ((len - cnt : Nat) : Int)) (by omega) (by omega) (by omega))) ?_
    refine Np rfl ?_
    refine L1 (fa95_18 rfl) ?_
    refine Lst3 (v := .int _ _) rfl rfl rfl hW.F (by decide) ?_
    intro w1 hb1 kp1
    have hW := hW.setF hE hb1 kp1
    have kp := kp.F kp1
    clear hb1 kp1
    refine wpList_nil ?_
    have hDD2 : DD E (upd g1 1052 (.int .i64 ((len - cnt : Nat) : Int))) (a1.out.length % 32768 + cnt) rd (decide (0 < q)) := hDDc _ rfl rfl rfl rfl
    have hDw2 : Dw E (upd g1 1052 (.int .i64 ((len - cnt : Nat) : Int))) (a1.out.length + cnt) a1.fl (a1.out.length % 32768 + cnt) := ⟨q, rd, by omega, by omega, by omega, e4, hDD2⟩
    by_cases hfull : a1.out.length % 32768 + cnt = 32768
    ·skip
     refine then_n ?_
     refine wp_seq ?_
     refine sqr ?_
     refine Mp rfl ?_
     refine Np rfl ?_
     refine L1 (fa95_9 rfl) ?_
     refine LC (cl1 has56 rfl rfl) (availWrite_c E _ _ (a1.out.length % 32768 + cnt) rd _ hW.F hDD2 (by omega)) ?_
     rintro v w1 ⟨rfl, rfl⟩
     have hW := hW.drew
     have kp := kp.drew
     refine L1 (bi rfl rfl (bn_eql (v := true) (decide_eq_true (by omega)))) ?_
     refine Mb rfl ?_
     refine Lskip (t := 342) (b := false) rfl (by decide) rfl ?_
     refine Lskip (t := 342) (b := false) rfl (by decide) rfl ?_
     refine Lskip (t := 342) (b := false) rfl (by decide) rfl ?_
     refine Lskip (t := 342) (b := false) rfl (by decide) rfl ?_
     refine Lskip (t := 342) (b := false) rfl (by decide) rfl ?_
     refine L1 (pk_t rfl rfl) ?_
     refine nt ?_
     refine cond_t rfl ?_
     refine sqr ?_
     refine Mp rfl ?_
     refine Mp rfl ?_
     refine Np rfl ?_
     refine L1 (fa95_9 rfl) ?_
     refine LC (cl1 has50 rfl rfl) (rf_c E _ _ _ bs cs a1.pos (a1.out.length + cnt) a1.fl (a1.out.length % 32768 + cnt) hE hW hDw2) ?_
     rintro v w1 ⟨hv, g2, hW, hD2, ho2, kp1⟩
     have kp := kp.trans kp1
     clear kp1
     refine Np rfl ?_
     refine L1 (fa95_15 rfl) ?_
     refine Lst22 (v := v) rfl rfl (by obtain ⟨_, _, _, rfl, _⟩ := hv; rfl) hW.F (by decide) ?_
     intro w1 hb1 kp1
     have hW := hW.setF hE hb1 kp1
     have kp := kp.F kp1
     clear hb1 kp1
     refine nt ?_
     refine sqr ?_
     refine Mp rfl ?_
     refine Np rfl ?_
     refine L1 (fa95_11 rfl) ?_
     refine Lst92 (v := .func _ _ _) rfl rfl rfl hW.F (by decide) ?_
     intro w1 hb1 kp1
     have hW := hW.setF hE hb1 kp1
     have kp := kp.F kp1
     clear hb1 kp1
     refine nt ?_
     refine sqr ?_
     refine Mp rfl ?_
     refine Np rfl ?_
     refine L1 (fa95_12 rfl) ?_
     refine Lst3 (v := .int _ _) rfl rfl rfl hW.F (by decide) ?_
     intro w1 hb1 kp1
     have hW := hW.setF hE hb1 kp1
     have kp := kp.F kp1
     clear hb1 kp1
     refine nt ?_
     refine wp_ret ?_
     refine then_r ?_
     refine jmp_r ?_
     refine ret0 rfl ?_
     have hca : avail a1.out = cnt := by omega
     obtain ⟨hmd, hdo, rfl⟩ | ⟨_, hl0, _⟩ := hmu
     ·have ho3 : Off [1038, 1039, 1040, 1045, 1046, 1049, 1052] g _ := hW.offs ((((((ho.mono (by decide)).upd (k := 1052) (by decide) _).trans (ho2.mono (by decide))).upd (k := 1049) (by decide) _).upd (k := 1045) (by decide) _).upd (k := 1046) (by decide) _)
      have ho4 : Off [1045, 1046, 1049] g2 _ := hW.offs ((((Off.refl _ g2).upd (k := 1049) (by decide) v).upd (k := 1045) (by decide) _).upd (k := 1046) (by decide) _)
      have hz : (a1.out.length + cnt) % 32768 = 0 := by omega
      have hnx : nx (a1.out.length % 32768 + cnt) = 0 := by unfold nx; rw [if_pos hfull]
      have h52z : g2 1052 = .int .i64 ((len - cnt : Nat) : Int) := (ho2 _ (by decide)).trans rfl
      have hH2 : HS E _ _ _ bs cs ({ a1 with out := lz a1.out dist (avail a1.out), md := .huff hl hd (some (len - avail a1.out, dist)) }.flush) hl hd := hH.next hW (hH.B.off ho3 (by decide)) ho3 (by decide) (by decide) kp (by show Win (lz a1.out dist (avail a1.out)) _; rw [hca]; exact hwin _ hwin1) (by show Dw E _ (lz a1.out dist (avail a1.out)).length (lz a1.out dist (avail a1.out)).length ((lz a1.out dist (avail a1.out)).length % 32768); rw [hca, hlz, hz, ← hnx]; exact hD2.off ho4 (by decide)) (by show TRv E v a1.e (lz a1.out dist (avail a1.out)).length; rw [hca, hlz, hef]; exact hv) (.inr ⟨rfl, dist, (ho3 _ (by decide)).trans h53, hd1, hd2⟩) rfl
      exact ⟨_, rfl, rfl, ⟨_, hH2.rep he0 ⟨hH2.M, by rw [hca]; exact (ho4 _ (by decide)).trans h52z, by omega, (ho3 _ (by decide)).trans h53, hd1, hd2, by show dist ≤ (lz a1.out dist (avail a1.out)).length; rw [hca, hlz]; omega⟩ rfl rfl, hrun _ (.stop (by rw [mic_huff hmd, mh_cpF (by omega)]))⟩, hkp0.trans kp⟩
     ·omega
    ·skip
     have hcl : cnt = len := by omega
     subst hcl
     refine then_n ?_
     refine wp_seq ?_
     refine sqr ?_
     refine Mp rfl ?_
     refine Np rfl ?_
     refine L1 (fa95_9 rfl) ?_
     refine LC (cl1 has56 rfl rfl) (availWrite_c E _ _ (a1.out.length % 32768 + cnt) rd _ hW.F hDD2 (by omega)) ?_
     rintro v w1 ⟨rfl, rfl⟩
     have hW := hW.drew
     have kp := kp.drew
     refine L1 (bi rfl rfl (bn_eql (v := false) (decide_eq_false (by omega)))) ?_
     refine Mb rfl ?_
     refine L1g (t := 342) (b := false) rfl (by decide) rfl (mv (v := .pointer _) rfl) ?_
     refine L1g (t := 342) (b := false) rfl (by decide) rfl (nilP rfl) ?_
     refine L1g (t := 342) (b := false) rfl (by decide) rfl (fa95_18 rfl) ?_
     refine L1g (t := 342) (b := false) rfl (by decide) rfl (ld3 rfl (hW.F.cellv (v := .int _ _) (by decide) rfl)) ?_
     refine L1g (t := 342) (b := false) rfl (by decide) rfl (bi rfl rfl (bn_gtr (v := false) (decide_eq_false (by omega)))) ?_
     refine L1 (pk_f rfl rfl) ?_
     refine nt ?_
     refine cond_f rfl ?_
     refine skn ?_
     refine wp_goto ?_
     refine jmp_g ?_
     have ho3 : Off [1038, 1052] g _ := hW.offs ((ho.mono (by decide)).upd (k := 1052) (by decide) _)
     have hz : (a1.out.length + cnt) % 32768 = a1.out.length % 32768 + cnt := by omega
     have hH2 : HS E _ _ _ bs cs { a1 with out := lz a1.out dist cnt, md := .huff hl hd none } hl hd := hH.next hW (hH.B.off ho3 (by decide)) ho3 (by decide) (by decide) kp (hwin _ hwin1) (by show Dw E _ (lz a1.out dist cnt).length a1.fl ((lz a1.out dist cnt).length % 32768); rw [hlz, hz]; exact hDw2) (hH.C.T.off ho3 (by decide)) (hH.ss.off ho3 (by decide)) rfl
     have h52z : Value.int .i64 ((cnt - cnt : Nat) : Int) = .int .i64 0 := by rw [Nat.sub_self]; rfl
     obtain ⟨hmd, hdo, rfl⟩ | ⟨hmd, hl0, rfl⟩ := hmu
     ·have hmic : mic E.S' a1 = ({ a1 with out := lz a1.out dist cnt, md := .huff hl hd none }, false) := by rw [mic_huff hmd, mh_cp (by omega)]
      exact ⟨_, by have := mu_mic hmic; omega, _, _, _, _, rfl, rfl, hH2, he0, hef, fun b hb => hrun b (.more hmic hb), hkp0.trans kp, .inl ⟨rfl, h52z, rfl, rfl⟩⟩
     ·have hae : { a1 with out := lz a1.out dist cnt, md := .huff hl hd none } = a1 := by subst hl0; show { a1 with out := a1.out, md := .huff hl hd none } = a1; rw [← hmd]
      rw [hae] at hH2
      exact ⟨_, by omega, _, _, _, a1, rfl, rfl, hH2, he0, hef, hrun, hkp0.trans kp, .inl ⟨rfl, h52z, hmd, rfl⟩⟩
end Go.Proofs.YtejeloeaklpinaaDoor
namespace Go.Proofs.YtejeloeaklpinaaDoor
theorem rvb : ∀ n x, rev n x < 2 ^ n
 | 0, _ => by simp [rev]
 | n + 1, x => by
  have := rvb n (x / 2)
  have h2 : x % 2 * 2 ^ n ≤ 1 * 2 ^ n := Nat.mul_le_mul_right _ (by omega)
  simp only [rev, Nat.pow_succ]
  omega
theorem rv_add : ∀ n m x, rev (n + m) x = rev n x * 2 ^ m + rev m (x / 2 ^ n)
 | 0, m, x => by simp [rev]
 | n + 1, m, x => by
  have e : n + 1 + m = (n + m) + 1 := by omega
  rw [e]
  simp only [rev]
  rw [rv_add n m (x / 2), Nat.div_div_eq_div_mul, ← Nat.pow_succ', Nat.add_mul, Nat.mul_assoc, ← Nat.pow_add]
  simp only [Nat.succ_eq_add_one]
  omega
theorem rv_div {n k : Nat} (x : Nat) (h : n ≤ k) : rev k x / 2 ^ (k - n) = rev n x := by
 have := rv_add n (k - n) x
 rw [show n + (k - n) = k by omega] at this
 rw [this, Nat.add_comm, Nat.add_mul_div_right _ _ (Nat.two_pow_pos _), Nat.div_eq_of_lt (rvb _ _), Nat.zero_add]
theorem rv_mod : ∀ n x, rev n (x % 2 ^ n) = rev n x
 | 0, x => rfl
 | n + 1, x => by
  simp only [rev]
  have e1 : x % 2 ^ (n + 1) / 2 = x / 2 % 2 ^ n := by rw [Nat.pow_succ', Nat.mod_mul_right_div_self]
  have e2 : x % 2 ^ (n + 1) % 2 = x % 2 := Nat.mod_mod_of_dvd _ (by rw [Nat.pow_succ']; exact Nat.dvd_mul_right _ _)
  rw [e1, e2, rv_mod n (x / 2)]
theorem rv_rv : ∀ n x, rev n (rev n x) = x % 2 ^ n
 | 0, x => by simp [rev, Nat.mod_one]
 | n + 1, x => by
  have h := rv_add n 1 (rev (n + 1) x)
  have hz : rev (n + 1) x = rev n (x / 2) + x % 2 * 2 ^ n := rfl
  have hb := rvb n (x / 2)
  have e1 : rev (n + 1) x / 2 ^ n = x % 2 := by rw [hz, Nat.add_mul_div_right _ _ (Nat.two_pow_pos _), Nat.div_eq_of_lt hb, Nat.zero_add]
  have e2 : rev n (rev (n + 1) x) = x / 2 % 2 ^ n := by
   rw [← rv_mod n (rev (n + 1) x), hz, Nat.add_mul_mod_self_right, Nat.mod_eq_of_lt hb, rv_rv n (x / 2)]
  rw [h, e1, e2]
  have e3 : rev 1 (x % 2) = x % 2 := by simp [rev]
  rw [e3, Nat.pow_one, Nat.pow_succ', Nat.mod_mul]
  omega
theorem rv_iff {n c : Nat} (X : Nat) (hc : c < 2 ^ n) : X % 2 ^ n = rev n c ↔ rev n X = c := by
 constructor
 ·intro h
  have := congrArg (rev n) h
  rw [rv_mod, rv_rv, Nat.mod_eq_of_lt hc] at this
  exact this
 ·intro h
  rw [← h, rv_rv]
theorem cnt_app (a b : List Nat) (n : Nat) : cnt (a ++ b) n = cnt a n + cnt b n := by simp [cnt]
theorem cnt_take_succ (L : List Nat) (s n : Nat) (hs : s < L.length) : cnt (L.take (s + 1)) n = cnt (L.take s) n + (if L.getD s 0 = n then 1 else 0) := by
 rw [List.take_succ_eq_append_getElem hs, cnt_app]
 congr 1
 have e : L.getD s 0 = L[s] := by rw [List.getD_eq_getElem?_getD, List.getElem?_eq_getElem hs]; rfl
 rw [e]
 unfold cnt
 by_cases h : L[s] = n <;> simp [h]
theorem cnt_take_mono (L : List Nat) (n s : Nat) : ∀ t, s ≤ t → cnt (L.take s) n ≤ cnt (L.take t) n := by
 intro t h
 have : L.take s = (L.take t).take s := by rw [List.take_take, Nat.min_eq_left h]
 rw [this]
 conv => rhs; rw [← List.take_append_drop s (L.take t)]
 rw [cnt_app]
 omega
theorem cnt_take_le (L : List Nat) (n s : Nat) : cnt (L.take s) n ≤ cnt L n := by
 conv => rhs; rw [← List.take_append_drop s L]
 rw [cnt_app]
 omega
theorem cnt_lt (L : List Nat) {n s : Nat} (hs : s < L.length) (h : L.getD s 0 = n) : cnt (L.take s) n < cnt L n := by
 have h1 := cnt_take_succ L s n hs
 rw [if_pos h] at h1
 have := cnt_take_le L n (s + 1)
 omega
theorem cnt_lt2 (L : List Nat) {n s t : Nat} (hs : s < L.length) (h : L.getD s 0 = n) (hst : s < t) : cnt (L.take s) n < cnt (L.take t) n := by
 have h1 := cnt_take_succ L s n hs
 rw [if_pos h] at h1
 have := cnt_take_mono L n (s + 1) t hst
 omega
theorem cnt_ex (L : List Nat) (n : Nat) : ∀ m, m ≤ L.length → ∀ k, k < cnt (L.take m) n → ∃ s, s < m ∧ L.getD s 0 = n ∧ cnt (L.take s) n = k
 | 0, _, k, h => by simp [cnt] at h
 | m + 1, hm, k, h => by
  rw [cnt_take_succ L m n (by omega)] at h
  by_cases hk : k < cnt (L.take m) n
  ·obtain ⟨s, h1, h2⟩ := cnt_ex L n m (by omega) k hk
   exact ⟨s, by omega, h2⟩
  ·split at h
   ·rename_i he; exact ⟨m, by omega, he, by omega⟩
   ·omega
theorem le_mx : ∀ (L : List Nat) (s : Nat), L.getD s 0 ≤ mx L
 | [], s => by simp
 | a :: l, 0 => by simp [mx]; omega
 | a :: l, s + 1 => by have := le_mx l s; simp [mx] at this ⊢; omega
theorem mx_zero {L : List Nat} (h : mx L = 0) (s : Nat) : L.getD s 0 = 0 := by have := le_mx L s; omega
theorem mn_le : ∀ (L : List Nat) (s : Nat), L.getD s 0 ≠ 0 → mn L ≤ L.getD s 0 ∧ mn L ≠ 0
 | [], s, h => by simp at h
 | a :: l, 0, h => by
  simp at h
  simp only [mn, if_neg h]
  split
  ·simpa using h
  ·simp; omega
 | a :: l, s + 1, h => by
  have h' : l.getD s 0 ≠ 0 := by simpa using h
  obtain ⟨h1, h2⟩ := mn_le l s h'
  have e : (a :: l).getD (s + 1) 0 = l.getD s 0 := by simp
  rw [e]
  simp only [mn]
  split
  ·exact ⟨h1, h2⟩
  ·first | omega | (rw [if_neg h2]; omega)
theorem mn_mx (L : List Nat) : mn L ≤ mx L := by
 induction L with
 | nil => simp [mn, mx]
 | cons a l ih => simp only [mn, mx]; split <;> (try split) <;> omega
theorem cnt_gt {L : List Nat} {n : Nat} (h : mx L < n) : cnt L n = 0 := by
 rcases Nat.eq_zero_or_pos (cnt L n) with h0 | h0
 ·exact h0
 ·obtain ⟨s, _, h2, _⟩ := cnt_ex L n L.length (Nat.le_refl _) 0 (by rwa [List.take_length])
  have := le_mx L s
  omega
theorem nc_succ (L : List Nat) {n : Nat} (h : 1 ≤ n) : nc L (n + 1) = 2 * (nc L n + cnt L n) := by
 simp only [nc]; rw [if_neg (by omega)]
/-- Lengths whose codes fit. -/
structure Kraft (L : List Nat) : Prop where
 m15 : mx L ≤ 15
 m1 : 1 ≤ mx L
 fit : nc L (mx L) + cnt L (mx L) ≤ 2 ^ mx L
section
variable {L : List Nat}
theorem pw {n : Nat} (h : n < 15) : 2 ^ (15 - n) = 2 * 2 ^ (15 - (n + 1)) := by rw [← Nat.pow_succ']; congr 1; omega
theorem bs_succ {n : Nat} (h1 : 1 ≤ n) (h : n < 15) : nc L (n + 1) * 2 ^ (15 - (n + 1)) = (nc L n + cnt L n) * 2 ^ (15 - n) := by
 rw [nc_succ L h1, pw h, Nat.mul_comm 2, Nat.mul_assoc]
theorem bs_mono {n : Nat} (h1 : 1 ≤ n) : ∀ d, n + 1 + d ≤ 15 → (nc L n + cnt L n) * 2 ^ (15 - n) ≤ nc L (n + 1 + d) * 2 ^ (15 - (n + 1 + d))
 | 0, h => by rw [Nat.add_zero, bs_succ h1 (by omega)]; exact Nat.le_refl _
 | d + 1, h => by
  have ih := bs_mono h1 d (by omega)
  have := bs_succ (L := L) (n := n + 1 + d) (by omega) (by omega)
  rw [show n + 1 + (d + 1) = n + 1 + d + 1 by omega, this]
  exact Nat.le_trans ih (Nat.mul_le_mul_right _ (Nat.le_add_right _ _))
theorem bs_le {n m : Nat} (h1 : 1 ≤ n) (h : n < m) (hm : m ≤ 15) : (nc L n + cnt L n) * 2 ^ (15 - n) ≤ nc L m * 2 ^ (15 - m) := by
 have := bs_mono (L := L) h1 (m - (n + 1)) (by omega)
 rwa [show n + 1 + (m - (n + 1)) = m by omega] at this
theorem Kraft.le (h : Kraft L) {n : Nat} (h1 : 1 ≤ n) (hn : n ≤ 15) : (nc L n + cnt L n) * 2 ^ (15 - n) ≤ 2 ^ 15 := by
 have hm : (nc L (mx L) + cnt L (mx L)) * 2 ^ (15 - mx L) ≤ 2 ^ 15 := by
  have e : 2 ^ 15 = 2 ^ mx L * 2 ^ (15 - mx L) := by rw [← Nat.pow_add]; congr 1; have := h.m15; omega
  rw [e]; exact Nat.mul_le_mul_right _ h.fit
 have hmm : ∀ d, mx L + d ≤ 15 → (nc L (mx L + d) + cnt L (mx L + d)) * 2 ^ (15 - (mx L + d)) ≤ 2 ^ 15 := by
  intro d
  induction d with
  | zero => intro _; exact hm
  | succ d ih =>
   intro hd
   rw [cnt_gt (show mx L < mx L + (d + 1) by omega), Nat.add_zero, ← Nat.add_assoc, bs_succ (by have := h.m1; omega) (by omega)]
   exact ih (by omega)
 by_cases hlt : n < mx L
 ·have := bs_le (L := L) h1 hlt h.m15
  have h2 : nc L (mx L) * 2 ^ (15 - mx L) ≤ (nc L (mx L) + cnt L (mx L)) * 2 ^ (15 - mx L) := Nat.mul_le_mul_right _ (Nat.le_add_right _ _)
  omega
 ·have := hmm (n - mx L) (by omega)
  rwa [show mx L + (n - mx L) = n by omega] at this
theorem Kraft.nc_le (h : Kraft L) {n : Nat} (h1 : 1 ≤ n) (hn : n ≤ 15) : nc L n + cnt L n ≤ 2 ^ n := by
 have := h.le h1 hn
 have e : 2 ^ 15 = 2 ^ n * 2 ^ (15 - n) := by rw [← Nat.pow_add]; congr 1; omega
 rw [e] at this
 exact Nat.le_of_mul_le_mul_right this (Nat.two_pow_pos _)
theorem lt_of_len {s : Nat} (h : L.getD s 0 ≠ 0) : s < L.length := by
 rcases Nat.lt_or_ge s L.length with h1 | h1
 ·exact h1
 ·rw [List.getD_eq_getElem?_getD, List.getElem?_eq_none h1] at h; exact absurd rfl h
theorem cod_lt {s : Nat} (h : L.getD s 0 ≠ 0) : cod L s < nc L (L.getD s 0) + cnt L (L.getD s 0) := by
 unfold cod
 have := cnt_lt L (lt_of_len h) rfl
 omega
theorem Kraft.cod (h : Kraft L) {s : Nat} (h0 : L.getD s 0 ≠ 0) : cod L s < 2 ^ L.getD s 0 := by
 have := le_mx L s
 have := h.nc_le (n := L.getD s 0) (by omega) (by have := h.m15; omega)
 have := cod_lt h0
 omega
/-- Where a code lies. -/
def st0 (L : List Nat) (s : Nat) : Nat := Go.Proofs.YtejeloeaklpinaaDoor.cod L s * 2 ^ (15 - L.getD s 0)
theorem Kraft.n15 (h : Kraft L) (s : Nat) : L.getD s 0 ≤ 15 := by have := le_mx L s; have := h.m15; omega
theorem Kraft.cov (h : Kraft L) (X s : Nat) : covers L X s = true ↔ L.getD s 0 ≠ 0 ∧ st0 L s ≤ rev 15 X ∧ rev 15 X < st0 L s + 2 ^ (15 - L.getD s 0) := by
 unfold covers
 by_cases h0 : L.getD s 0 = 0
 ·rw [h0]
  constructor
  ·intro hx; simp at hx
  ·rintro ⟨hx, _⟩; exact absurd rfl hx
 ·have hn := h.n15 s
  simp only [Bool.and_eq_true, bne_iff_ne, ne_eq, h0, not_false_eq_true, true_and, beq_iff_eq]
  rw [rv_iff X (h.cod h0), ← rv_div X hn]
  unfold st0
  have hp := Nat.two_pow_pos (15 - L.getD s 0)
  constructor
  ·intro he
   rw [← he]
   have h1 := Nat.div_add_mod (rev 15 X) (2 ^ (15 - L.getD s 0))
   have h2 := Nat.mod_lt (rev 15 X) hp
   rw [Nat.mul_comm] at h1
   omega
  ·rintro ⟨h1, h2⟩
   refine Nat.div_eq_of_lt_le h1 ?_
   rw [Nat.succ_mul]; exact h2
/-- Codes lie one behind the other. -/
theorem Kraft.order (h : Kraft L) {s t : Nat} (hs : L.getD s 0 ≠ 0) (ht : L.getD t 0 ≠ 0) (hst : L.getD s 0 < L.getD t 0 ∨ L.getD s 0 = L.getD t 0 ∧ s < t) : st0 L s + 2 ^ (15 - L.getD s 0) ≤ st0 L t := by
 have hns := h.n15 s
 have hnt := h.n15 t
 have hls := lt_of_len hs
 have e : st0 L s + 2 ^ (15 - L.getD s 0) = (Go.Proofs.YtejeloeaklpinaaDoor.cod L s + 1) * 2 ^ (15 - L.getD s 0) := by unfold st0; rw [Nat.succ_mul]
 rw [e]
 rcases hst with hlt | ⟨heq, hlt⟩
 ·refine Nat.le_trans (Nat.mul_le_mul_right _ (cod_lt hs)) (Nat.le_trans (bs_le (by omega) hlt hnt) ?_)
  unfold st0 Go.Proofs.YtejeloeaklpinaaDoor.cod
  exact Nat.mul_le_mul_right _ (Nat.le_add_right _ _)
 ·unfold st0 Go.Proofs.YtejeloeaklpinaaDoor.cod
  rw [← heq]
  refine Nat.mul_le_mul_right _ ?_
  have := cnt_lt2 L hls rfl hlt
  omega
theorem Kraft.uniq (h : Kraft L) {X s t : Nat} (hs : covers L X s = true) (ht : covers L X t = true) : s = t := by
 rw [h.cov] at hs ht
 obtain ⟨hs0, hs1, hs2⟩ := hs
 obtain ⟨ht0, ht1, ht2⟩ := ht
 rcases Nat.lt_trichotomy (L.getD s 0) (L.getD t 0) with hn | hn | hn
 ·have := h.order hs0 ht0 (.inl hn); omega
 ·rcases Nat.lt_trichotomy s t with hx | hx | hx
  ·have := h.order hs0 ht0 (.inr ⟨hn, hx⟩); omega
  ·exact hx
  ·have := h.order ht0 hs0 (.inr ⟨hn.symm, hx⟩); omega
 ·have := h.order ht0 hs0 (.inl hn); omega
/-- The look-up among the first symbols. -/
def Vk (L : List Nat) (i X : Nat) : Nat := match (List.range i).find? (covers L X) with
 | some s => 16 * s + L.getD s 0
 | none => 0
theorem lkL_eq (X : Nat) : lkL L X = Vk L L.length X := rfl
theorem Kraft.vk (h : Kraft L) {i X s : Nat} (hs : s < i) (hc : covers L X s = true) : Vk L i X = 16 * s + L.getD s 0 := by
 unfold Vk
 cases hf : (List.range i).find? (covers L X) with
 | none => exact absurd hc (List.find?_eq_none.1 hf s (List.mem_range.2 hs))
 | some t => rw [h.uniq (List.find?_some hf) hc]
theorem vk_none {i X : Nat} (hc : ∀ s, s < i → covers L X s = false) : Vk L i X = 0 := by
 unfold Vk
 have : (List.range i).find? (covers L X) = none := List.find?_eq_none.2 fun s hs => by rw [hc s (List.mem_range.1 hs)]; decide
 rw [this]
theorem vk_some {i X : Nat} (h : Vk L i X ≠ 0) : ∃ s, s < i ∧ covers L X s = true ∧ Vk L i X = 16 * s + L.getD s 0 := by
 unfold Vk at h ⊢
 cases hf : (List.range i).find? (covers L X) with
 | none => rw [hf] at h; exact absurd rfl h
 | some t => exact ⟨t, List.mem_range.1 (List.mem_of_find?_eq_some hf), List.find?_some hf, rfl⟩
theorem Kraft.vk_succ (h : Kraft L) (i X : Nat) : Vk L (i + 1) X = if covers L X i = true then 16 * i + L.getD i 0 else Vk L i X := by
 split
 ·rename_i hc; exact h.vk (by omega) hc
 ·rename_i hc
  by_cases h0 : Vk L i X = 0
  ·rw [h0]
   refine vk_none fun s hs => ?_
   rcases Nat.lt_or_eq_of_le (Nat.le_of_lt_succ hs) with h1 | rfl
   ·cases hx : covers L X s with
    | false => rfl
    | true =>
     have := h.vk h1 hx
     rw [h.cov] at hx
     omega
   ·exact Bool.eq_false_iff.2 hc
  ·obtain ⟨s, h1, h2, h3⟩ := vk_some h0
   rw [h3]
   exact h.vk (by omega) h2
/-- All places are taken. -/
theorem Kraft.full (h : Kraft L) (hc : nc L (mx L) + cnt L (mx L) = 2 ^ mx L) (X : Nat) : ∃ s, covers L X s = true := by
 have hr := rvb 15 X
 have key : ∀ m, 1 ≤ m → m ≤ 15 → rev 15 X < (nc L m + cnt L m) * 2 ^ (15 - m) → ∃ n, 1 ≤ n ∧ n ≤ 15 ∧ nc L n * 2 ^ (15 - n) ≤ rev 15 X ∧ rev 15 X < (nc L n + cnt L n) * 2 ^ (15 - n) := by
  intro m
  induction m with
  | zero => intro h1; omega
  | succ m ih =>
   intro _ hm hlt
   by_cases hge : nc L (m + 1) * 2 ^ (15 - (m + 1)) ≤ rev 15 X
   ·exact ⟨m + 1, by omega, hm, hge, hlt⟩
   ·rcases Nat.eq_zero_or_pos m with rfl | h0
    ·exfalso; apply hge; simp [nc]
    ·exact ih h0 (by omega) (by rw [bs_succ h0 (by omega)] at hge; omega)
 obtain ⟨n, h1, h2, h3, h4⟩ := key (mx L) h.m1 h.m15 (by
  rw [hc, ← Nat.pow_add, show mx L + (15 - mx L) = 15 by have := h.m15; omega]; exact hr)
 have hp := Nat.two_pow_pos (15 - n)
 have h5 : nc L n ≤ rev 15 X / 2 ^ (15 - n) := (Nat.le_div_iff_mul_le hp).2 h3
 have h6 : rev 15 X / 2 ^ (15 - n) < nc L n + cnt L n := (Nat.div_lt_iff_lt_mul hp).2 h4
 obtain ⟨s, h7, h8, h9⟩ := cnt_ex L n L.length (Nat.le_refl _) (rev 15 X / 2 ^ (15 - n) - nc L n) (by rw [List.take_length]; omega)
 refine ⟨s, ?_⟩
 have hcod : Go.Proofs.YtejeloeaklpinaaDoor.cod L s = rev 15 X / 2 ^ (15 - n) := by unfold Go.Proofs.YtejeloeaklpinaaDoor.cod; rw [h8, h9]; omega
 unfold covers
 simp only [Bool.and_eq_true, bne_iff_ne, beq_iff_eq, h8]
 refine ⟨by omega, ?_⟩
 rw [rv_iff X (by rw [hcod, rv_div X h2]; exact rvb _ _), hcod, rv_div X h2]
theorem okL_fit (h : okL L = true) (h15 : mx L ≤ 15) (h0 : mx L ≠ 0) : Kraft L := by
 refine ⟨h15, by omega, ?_⟩
 unfold okL at h
 simp only [Bool.or_eq_true, beq_iff_eq, Bool.and_eq_true] at h
 rcases h with (h | h) | ⟨h, h2⟩
 ·exact absurd h h0
 ·omega
 ·rw [h, h2]; simp [nc]
theorem lk_zero (h : mx L = 0) (X : Nat) : lkL L X = 0 := by
 rw [lkL_eq]
 refine vk_none fun s _ => ?_
 unfold covers
 rw [mx_zero h s]
 rfl
/-- The look-up as the reader wants it. -/
theorem lk_ok (h : okL L = true) (h15 : mx L ≤ 15) (hlen : L.length ≤ 500) (m : Nat) (hm : mn L ≤ m) (hm15 : m ≤ 15) : LkOk ⟨m, lkL L⟩ := by
 have hsmall : ∀ X, lkL L X < 8192 := by
  intro X
  rw [lkL_eq]
  by_cases h0 : Vk L L.length X = 0
  ·omega
  ·obtain ⟨s, h1, _, h3⟩ := vk_some h0
   have := le_mx L s
   omega
 by_cases h0 : mx L = 0
 ·refine ⟨fun X nb _ _ => ?_, fun X nb _ hlt => ?_, hm15, hsmall⟩
  ·show lkL L X = lkL L _; rw [lk_zero h0, lk_zero h0]
  ·have : lkL L (X % 2 ^ nb) % 16 = 0 := by rw [lk_zero h0]
   exact absurd hlt (by show ¬ nb < lkL L (X % 2 ^ nb) % 16; omega)
 have hF := okL_fit h h15 h0
 have hfound : ∀ X s, covers L X s = true → lkL L X = 16 * s + L.getD s 0 ∧ lkL L X % 16 = L.getD s 0 ∧ L.getD s 0 ≠ 0 := by
  intro X s hc
  have hs0 := ((hF.cov X s).1 hc).1
  have e := hF.vk (lt_of_len hs0) hc
  have := hF.n15 s
  exact ⟨e, by rw [lkL_eq, e]; omega, hs0⟩
 have hcovm : ∀ X s nb, L.getD s 0 ≤ nb → (covers L (X % 2 ^ nb) s = covers L X s) := by
  intro X s nb hle
  unfold covers
  rw [Nat.mod_mod_of_dvd _ (Nat.pow_dvd_pow 2 hle)]
 by_cases hfull : nc L (mx L) + cnt L (mx L) = 2 ^ mx L
 ·refine ⟨fun X nb _ hle => ?_, fun X nb _ hlt => ?_, hm15, hsmall⟩
  ·show lkL L X = lkL L (X % 2 ^ nb)
   obtain ⟨s, hs⟩ := hF.full hfull (X % 2 ^ nb)
   obtain ⟨e1, e2, _⟩ := hfound _ s hs
   have hle' : lkL L (X % 2 ^ nb) % 16 ≤ nb := hle
   rw [hcovm X s nb (by omega)] at hs
   rw [(hfound X s hs).1, e1]
  ·show lkL L (X % 2 ^ nb) % 16 ≤ lkL L X % 16
   have hlt' : nb < lkL L (X % 2 ^ nb) % 16 := hlt
   obtain ⟨s, hs⟩ := hF.full hfull (X % 2 ^ nb)
   obtain ⟨t, ht⟩ := hF.full hfull X
   obtain ⟨_, e2, hs0⟩ := hfound _ s hs
   obtain ⟨_, e4, ht0⟩ := hfound _ t ht
   rw [e2, e4]
   rcases Nat.lt_or_ge (L.getD t 0) (L.getD s 0) with hc | hc
   ·exfalso
    have ho := hF.order ht0 hs0 (.inl hc)
    have hs1 := ((hF.cov _ s).1 hs).2
    have ht1 := ((hF.cov _ t).1 ht).2
    have hn15 := hF.n15 s
    have hle : rev 15 (X % 2 ^ nb) ≤ rev 15 X := by
     have a1 := rv_add nb (15 - nb) X
     have a2 := rv_add nb (15 - nb) (X % 2 ^ nb)
     rw [show nb + (15 - nb) = 15 by omega] at a1 a2
     rw [rv_mod, Nat.div_eq_of_lt (Nat.mod_lt _ (Nat.two_pow_pos nb))] at a2
     have a3 : ∀ k, rev k 0 = 0 := by
      intro k
      induction k with
      | zero => rfl
      | succ k ih => simp [rev, ih]
     rw [a3] at a2
     omega
    omega
   ·exact hc
 ·skip
  unfold okL at h
  simp only [Bool.or_eq_true, beq_iff_eq, Bool.and_eq_true] at h
  obtain ⟨h1, h2⟩ : mx L = 1 ∧ cnt L 1 = 1 := by
   rcases h with (h | h) | h
   ·exact absurd h h0
   ·exact absurd h hfull
   ·exact h
  have hle1 : ∀ X, lkL L X % 16 ≤ 1 := by
   intro X
   by_cases hz : Vk L L.length X = 0
   ·rw [lkL_eq, hz]; decide
   ·obtain ⟨s, _, h4, h5⟩ := vk_some hz
    have := le_mx L s
    rw [lkL_eq, h5]; omega
  have hmn : mn L ≠ 0 := by
   obtain ⟨s, _, h4, _⟩ := cnt_ex L 1 L.length (Nat.le_refl _) 0 (by rw [List.take_length]; omega)
   exact (mn_le L s (by omega)).2
  refine ⟨fun X nb hnb _ => ?_, fun X nb hnb hlt => ?_, hm15, hsmall⟩
  ·have hnb' : m ≤ nb := hnb
   show lkL L X = lkL L (X % 2 ^ nb)
   rw [lkL_eq, lkL_eq]
   unfold Vk
   have : covers L (X % 2 ^ nb) = covers L X := by
    funext s
    exact hcovm X s nb (by have := le_mx L s; omega)
   rw [this]
  ·have hnb' : m ≤ nb := hnb
   have hlt' : nb < lkL L (X % 2 ^ nb) % 16 := hlt
   have := hle1 (X % 2 ^ nb)
   omega
end
end Go.Proofs.YtejeloeaklpinaaDoor
namespace Go.Proofs.YtejeloeaklpinaaDoor
theorem und128 : Tryd.prog.underlying 128 = some (.array 16 3) := by kernel_rfl
/-- A set of codes that is all zero. -/
def z86 (k : Nat) : Value := if k = 0 then .int .i64 0 else if k = 513 then .slice none 0 0 else .int .u32 0
noncomputable def zero86 : Value := ((Tryd.prog.info? 86).bind (·.zero)).getD undef
theorem zero86_cells : zero86.cells.toList = (List.range 515).map z86 := by kernel_rfl
theorem zero86_one : (zero86.cells.toList.all fun v => v.oneCell') = true := by kernel_rfl
theorem sz86 (w : World) : (sizeOf 86).run Tryd.prog w = .ok 515 w := by kernel_rfl
/-- The block with the set at o made zero. -/
def gz (g : Nat → Value) (o : Nat) : Nat → Value := fun j => if o ≤ j ∧ j < o + 515 then z86 (j - o) else g j
section
variable {ρ : Operand → Value} {d : Option Nat} {x y z : Operand} {ty : TypeId} {pos : String} {af : Array Edge} {gd : Option (Nat × Bool)} {w : World}
theorem bd86 : (execOp ρ ⟨d, .build 86 #[], ty, pos, af, gd⟩).run Tryd.prog w = .ok (.value zero86) w := by
 simp only [execOp, List.map_toArray, List.map_nil]
 kernel_rfl
theorem bn_and16 {t : TypeId} {a b : Int} {x k : Nat} (ha : a = (x : Int)) (hb : b = ((2 ^ k - 1 : Nat) : Int)) (hx : x < 65536) (hk : k ≤ 16) : binOp .and t (.int .u16 a) (.int .u16 b) = pure (.int .u16 ((x % 2 ^ k : Nat) : Int)) := by
 subst ha; subst hb
 have hk2 : 2 ^ k ≤ 2 ^ 16 := Nat.pow_le_pow_right (by decide) hk
 have h0 := Nat.two_pow_pos k
 have h16 : (2 : Nat) ^ 16 = 65536 := rfl
 show pure (Value.int .u16 (IntKind.u16.wrap ((BitVec.ofInt 16 (x : Int) &&& BitVec.ofInt 16 ((2 ^ k - 1 : Nat) : Int)).toNat : Int))) = _
 have e1 : (BitVec.ofInt 16 (x : Int)).toNat = x := by rw [BitVec.toNat_ofInt]; omega
 have e2 : (BitVec.ofInt 16 ((2 ^ k - 1 : Nat) : Int)).toNat = 2 ^ k - 1 := by rw [BitVec.toNat_ofInt]; omega
 rw [BitVec.toNat_and, e1, e2, Nat.and_two_pow_sub_one_eq_mod]
 have hm := Nat.mod_lt x h0
 congr 2
 show ((x % 2 ^ k : Nat) : Int) % 65536 = _
 omega
theorem bn_or16 {t : TypeId} {a b : Int} {x y : Nat} (ha : a = (x : Int)) (hb : b = (y : Int)) (hx : x < 65536) (hy : y < 65536) : binOp .or t (.int .u16 a) (.int .u16 b) = pure (.int .u16 ((x ||| y : Nat) : Int)) := by
 subst ha; subst hb
 show pure (Value.int .u16 (IntKind.u16.wrap ((BitVec.ofInt 16 (x : Int) ||| BitVec.ofInt 16 (y : Int)).toNat : Int))) = _
 have e1 : (BitVec.ofInt 16 (x : Int)).toNat = x := by rw [BitVec.toNat_ofInt]; omega
 have e2 : (BitVec.ofInt 16 (y : Int)).toNat = y := by rw [BitVec.toNat_ofInt]; omega
 rw [BitVec.toNat_or, e1, e2]
 have hm : x ||| y < 2 ^ 16 := Nat.or_lt_two_pow hx hy
 congr 2
 show ((x ||| y : Nat) : Int) % 65536 = _
 omega
end
section
variable {ops : Array Oper} {Q : Exit → Act → World → Prop} {N : Nat} {L : List (Nat × Value)} {B f : Nat → Value} {w : World} {rest : List Oper} {dd : Nat} {x y : Operand} {ty : TypeId} {pos : String} {af : Array Edge} {b k n : Nat} {T : TypeId} {g : Nat → Value}
theorem Lst86 (hx : ev N f x = .pointer (some ⟨b, k, none⟩)) (hy : ev N f y = zero86) (hB : Bk w b n T g) (hk : k + 515 ≤ n)
  (K : ∀ w1, Bk w1 b n T (gz g k) → Kp [b] w w1 → wpList Tryd.prog ops Q rest (fr N f) w1) : wpList Tryd.prog ops Q (⟨none, .store 86 x y, ty, pos, af, none⟩ :: rest) (fr N f) w := by
 have hlen : ((List.range 515).map z86).length = 515 := by simp
 have hone : ∀ v ∈ (List.range 515).map z86, v.oneCell' = true := fun v hv => by rw [← zero86_cells] at hv; exact List.all_eq_true.1 zero86_one v hv
 have hst := run_storeCells_cells (P := Tryd.prog) b k ((List.range 515).map z86) 0 w (fun j hj => by
   rw [hlen] at hj
   rw [Nat.add_zero, hB.cell (k := k + j) (by omega)]; rfl) (fun j _ => hB.frozen _) hone
 have hc : zero86.cells = ((List.range 515).map z86).toArray := by rw [← zero86_cells]
 refine L0 (w' := w.setCells b k ((List.range 515).map z86)) ?_ (K _ ((hB.setCells ((List.range 515).map z86) k).congr fun j _ => ?_) (Kp.setCells (by simp) _ _ (Kp.refl [b] w)))
 ·have hl2 : zero86.cells.size = 515 := by rw [hc]; simp
  generalize hzs : (List.range 515).map z86 = zs at *
  simp only [execOp, hx, hy]
  simp [Instr.storeAt, Instr.sureAddr, storeVar, sz86, hl2, hc, hst, hlen]
 ·rw [hlen]
  unfold gz
  by_cases h : k ≤ j ∧ j < k + 515
  ·rw [if_pos h, if_pos h, List.getD_eq_getElem?_getD, List.getElem?_map, List.getElem?_range (by omega)]; rfl
  ·rw [if_neg h, if_neg h]
theorem Lal128 (K : ∀ X w1, w.heap.size = X → Bk w1 X 16 128 (fun _ => .int .i64 0) → Kp [] w w1 → w1.heap.size = X + 1 → wpList Tryd.prog ops Q rest (fr N (fl ((dd, .pointer (some ⟨X, 0, none⟩)) :: L) B)) w1) :
  wpList Tryd.prog ops Q (⟨some dd, .alloc 128, ty, pos, af, none⟩ :: rest) (fr N (fl L B)) w := by
 obtain ⟨Z, hZ, hr⟩ : ∃ Z : Array Value, Z.toList = (List.range 16).map (fun _ => .int .i64 0) ∧ ∀ (ρ : Operand → Value) (w : World), (execOp ρ ⟨some dd, .alloc 128, ty, pos, af, none⟩).run Tryd.prog w = .ok (.value (.pointer (some ⟨w.heap.size, 0, none⟩))) (w.alloc (.cells Z 128)) :=
  ⟨(((Tryd.prog.info? 128).bind (·.zero)).map (·.cells)).getD #[], by kernel_rfl, fun ρ w => by kernel_rfl⟩
 exact L1 (hr _ _) (K _ _ rfl (Bk.newOf w Z 128 16 _ hZ) ((Kp.refl [] w).alloc _) (by simp))
theorem mk84 {ρ : Operand → Value} {d : Option Nat} {gd : Option (Nat × Bool)} {n : Nat} {i : Int} (hx : ρ x = .int .i64 i) (hi : i = (n : Int)) (hn : n ≤ 1000000) (w : World) :
  ∃ w1, (execOp ρ ⟨d, .makeSlice 84 x x, ty, pos, af, gd⟩).run Tryd.prog w = .ok (.value (.slice (some ⟨w.heap.size, 0, none⟩) n n)) w1 ∧ Bk w1 w.heap.size n 130 (fun _ => .slice none 0 0) ∧ Kp [] w w1 ∧ w1.heap.size = w.heap.size + 1 := by
 subst hi
 have hr := run_make_row' (P := Tryd.prog) 84 130 (.slice none 0 0) 24 und84 (by kernel_rfl) rfl .i64 .i64 n (by omega) (by omega) w
 refine ⟨w.alloc (.cells (madeCells #[.slice none 0 0] n) 130), by simp [execOp, hx, hr], ?_, (Kp.refl [] w).alloc _, by simp⟩
 obtain ⟨C, h1, h2, h3⟩ := World.rowIs_made w (.slice none 0 0) n 130
 exact ⟨C, h1, h2, h3⟩
theorem mk130 {ρ : Operand → Value} {d : Option Nat} {gd : Option (Nat × Bool)} {n : Nat} {i : Int} (hx : ρ x = .int .i64 i) (hi : i = (n : Int)) (hn : n ≤ 1000000) (w : World) :
  ∃ w1, (execOp ρ ⟨d, .makeSlice 130 x x, ty, pos, af, gd⟩).run Tryd.prog w = .ok (.value (.slice (some ⟨w.heap.size, 0, none⟩) n n)) w1 ∧ Bk w1 w.heap.size n 82 (fun _ => .int .u32 0) ∧ Kp [] w w1 ∧ w1.heap.size = w.heap.size + 1 := by
 subst hi
 have hr := run_make_row' (P := Tryd.prog) 130 82 (.int .u32 0) 4 und130 (by kernel_rfl) rfl .i64 .i64 n (by omega) (by omega) w
 refine ⟨w.alloc (.cells (madeCells #[.int .u32 0] n) 82), by simp [execOp, hx, hr], ?_, (Kp.refl [] w).alloc _, by simp⟩
 obtain ⟨C, h1, h2, h3⟩ := World.rowIs_made w (.int .u32 0) n 82
 exact ⟨C, h1, h2, h3⟩
end
attribute [local irreducible] wpList wpStill wpMix Code.wp Calls fr
theorem reverse16_c (w : World) (x : Nat) (hx : x < 65536) : Ret 65 [.int .u16 (x : Int)] w fun v w' => v = .int .u16 ((rev 16 x : Nat) : Int) ∧ w' = w.drew := by
 have hr1 := rvb 8 (x / 2 ^ 8)
 have hr2 := rvb 8 (x % 2 ^ 8)
 have h8 : (2 : Nat) ^ 8 = 256 := rfl
 refine calls_fr (N := 13) Tryd.func65 rfl rfl (by simp) rfl ?_
 refine sqr ?_
 refine Ai rfl ?_
 refine nt ?_
 refine wp_seq ?_
 refine reg_still mixed (by kernel_rfl) ?_
 refine S1 (mv (v := .int _ _) rfl) ?_
 refine S1 (bi rfl rfl (bn_shr (x := x) (n := 8) rfl rfl (by decide))) ?_
 refine S1 (ixs (i := x / 2 ^ 8) rfl rfl (Nat.lt_of_lt_of_eq (show x / 2 ^ 8 < 256 by omega) (by kernel_rfl)) (c := rev 8 (x / 2 ^ 8)) ?_) ?_
 ·have : x / 2 ^ 8 < 256 := by omega
  revert this
  generalize x / 2 ^ 8 = y
  revert y
  decide +kernel
 refine S1 (cv5_37 rfl (wrap_u16n _ (by omega) (by omega))) ?_
 refine S1 (mv (v := .int _ _) rfl) ?_
 refine S1 (bi rfl rfl (bn_and16 (k := 8) rfl rfl hx (by decide))) ?_
 refine S1 (ixs (i := x % 2 ^ 8) rfl rfl (Nat.lt_of_lt_of_eq (show x % 2 ^ 8 < 256 by omega) (by kernel_rfl)) (c := rev 8 (x % 2 ^ 8)) ?_) ?_
 ·have : x % 2 ^ 8 < 256 := by omega
  revert this
  generalize x % 2 ^ 8 = y
  revert y
  decide +kernel
 refine S1 (cv5_37 rfl (wrap_u16n _ (by omega) (by omega))) ?_
 refine S1 (bi rfl rfl (bn_shl (K := .u16) (n := 8) rfl rfl (by decide) (by show _ % 65536 = _; omega))) ?_
 refine S1 (bi rfl rfl (bn_or16 rfl rfl (by omega) (by omega))) ?_
 refine S1 (asg (v := .int _ _) rfl) ?_
 refine still_nil ?_
 refine then_n ?_
 refine wp_ret ?_
 refine ret1 rfl rfl ?_
 have e : rev 8 (x / 2 ^ 8) ||| rev 8 (x % 2 ^ 8) * 2 ^ 8 = rev 16 x := by
  rw [or_high _ _ _ hr1, rv_mod, show (16 : Nat) = 8 + 8 from rfl, rv_add]
  omega
 rw [e]
 exact ⟨_, rfl, rfl, rfl⟩
end Go.Proofs.YtejeloeaklpinaaDoor
namespace Go.Proofs.YtejeloeaklpinaaDoor
theorem mx_app (l : List Nat) (a : Nat) : mx (l ++ [a]) = max (mx l) a := by
 induction l with
 | nil => simp [mx]
 | cons b l ih => simp only [List.cons_append, mx, ih]; omega
theorem mn_app (l : List Nat) (a : Nat) : mn (l ++ [a]) = if a = 0 then mn l else if mn l = 0 then a else min a (mn l) := by
 induction l with
 | nil => simp [mn]
 | cons b l ih =>
  simp only [List.cons_append, mn, ih]
  by_cases h0 : a = 0
  ·simp [h0]
  ·by_cases hb : b = 0
   ·simp [hb]
   ·by_cases hm : mn l = 0
    ·simp only [h0, hb, hm, if_true, if_false]; omega
    ·simp only [h0, hb, hm, if_false]
     split <;> split <;> omega
theorem take_app (L : List Nat) {i : Nat} (h : i < L.length) : L.take (i + 1) = L.take i ++ [L.getD i 0] := by
 rw [List.take_succ_eq_append_getElem h]
 congr 1
 rw [List.getD_eq_getElem?_getD, List.getElem?_eq_getElem h]; rfl
theorem nc_low (L : List Nat) : ∀ n, n ≤ mn L → nc L n = 0
 | 0, _ => rfl
 | n + 1, h => by
  simp only [nc]
  rw [nc_low L n (by omega)]
  split
  ·rfl
  ·rename_i hn
   rcases Nat.eq_zero_or_pos (cnt L n) with h0 | h0
   ·omega
   ·obtain ⟨s, _, h2, _⟩ := cnt_ex L n L.length (Nat.le_refl _) 0 (by rwa [List.take_length])
    have := mn_le L s (by omega)
    omega
theorem cnt_le (L : List Nat) (n : Nat) : cnt L n ≤ L.length := List.length_filter_le _ _
theorem nc_bound (L : List Nat) : ∀ n, nc L n + 2 * L.length ≤ 2 ^ n * (2 * L.length)
 | 0 => by simp [nc]
 | n + 1 => by
  have ih := nc_bound L n
  have hc := cnt_le L n
  simp only [nc, Nat.pow_succ']
  rw [Nat.mul_assoc]
  split <;> omega
theorem nc_small {L : List Nat} (h : L.length ≤ 500) {n : Nat} (hn : n ≤ 17) : nc L n ≤ 131072000 := by
 have := nc_bound L n
 have h2 : 2 ^ n * (2 * L.length) ≤ 2 ^ 17 * (2 * 500) := Nat.mul_le_mul (Nat.pow_le_pow_right (by decide) hn) (by omega)
 have h3 : (2 : Nat) ^ 17 * (2 * 500) = 131072000 := rfl
 omega
theorem mn_pos {L : List Nat} (h : mx L ≠ 0) : mn L ≠ 0 := by
 have : ∃ s, L.getD s 0 ≠ 0 := by
  induction L with
  | nil => simp [mx] at h
  | cons a l ih =>
   by_cases ha : a = 0
   ·obtain ⟨s, hs⟩ := ih (by simp [mx, ha] at h; exact h)
    exact ⟨s + 1, by simpa using hs⟩
   ·exact ⟨0, by simpa using ha⟩
 obtain ⟨s, hs⟩ := this
 exact (mn_le L s hs).2
/-- The counts so far; the first codes so far. -/
def cg (L : List Nat) (i k : Nat) : Nat := if k = 0 then 0 else cnt (L.take i) k
theorem cg_succ (L : List Nat) {i : Nat} (h : i < L.length) (k : Nat) : cg L (i + 1) k = if L.getD i 0 ≠ 0 ∧ k = L.getD i 0 then cg L i k + 1 else cg L i k := by
 unfold cg
 rw [cnt_take_succ L i k h]
 by_cases hk : k = 0
 ·subst hk; simp; intro h1 h2; omega
 ·simp only [hk, if_false]
  by_cases he : L.getD i 0 = k
  ·rw [if_pos he, if_pos ⟨by omega, he.symm⟩]
  ·rw [if_neg he, if_neg (fun hx => he hx.2.symm)]; rfl
end Go.Proofs.YtejeloeaklpinaaDoor
namespace Go.Proofs.YtejeloeaklpinaaDoor
/-- The first of the places of nine bits that lead on to a further table. -/
def lnk (L : List Nat) : Nat := if mx L ≤ 9 then 512 else nc L 9 + cnt L 9
/-- The first table, and the further ones, when the first i symbols are entered. -/
def chv (L : List Nat) (i x : Nat) : Nat := if rev 9 x < lnk L then Vk L i x else (rev 9 x - lnk L) * 16 + 10
def lkv (L : List Nat) (i j y : Nat) : Nat := Vk L i (rev 9 (lnk L + j) + 512 * y)
section
variable {L : List Nat}
theorem lnk_le (h : Kraft L) : lnk L ≤ 512 := by
 unfold lnk
 split
 ·omega
 ·have := h.nc_le (n := 9) (by omega) (by omega)
  exact this
theorem short_lt (h : Kraft L) {i x : Nat} (h0 : L.getD i 0 ≠ 0) (h9 : L.getD i 0 ≤ 9) (hx : covers L x i = true) : rev 9 x < lnk L := by
 unfold lnk
 split
 ·exact rvb 9 x
 ·have hc := (h.cov x i).1 hx
  obtain ⟨_, _, h2⟩ := hc
  have e : st0 L i + 2 ^ (15 - L.getD i 0) = (cod L i + 1) * 2 ^ (15 - L.getD i 0) := by unfold st0; rw [Nat.succ_mul]
  rw [e] at h2
  have hle : (cod L i + 1) * 2 ^ (15 - L.getD i 0) ≤ (nc L 9 + cnt L 9) * 2 ^ (15 - 9) := by
   rcases Nat.lt_or_eq_of_le h9 with h3 | h3
   ·refine Nat.le_trans (Nat.mul_le_mul_right _ (cod_lt h0)) (Nat.le_trans (bs_le (by omega) h3 (by omega)) (Nat.mul_le_mul_right _ (Nat.le_add_right _ _)))
   ·have := cod_lt h0
    rw [h3] at this ⊢
    exact Nat.mul_le_mul_right _ this
  have hd := rv_div (n := 9) (k := 15) x (by omega)
  rw [← hd]
  exact (Nat.div_lt_iff_lt_mul (Nat.two_pow_pos _)).2 (Nat.lt_of_lt_of_le h2 hle)
theorem long_ge (h : Kraft L) {i x : Nat} (h9 : 9 < L.getD i 0) (hx : covers L x i = true) : lnk L ≤ rev 9 x := by
 have hm := le_mx L i
 unfold lnk
 rw [if_neg (by omega)]
 obtain ⟨_, h1, _⟩ := (h.cov x i).1 hx
 have hd := rv_div (n := 9) (k := 15) x (by omega)
 rw [← hd]
 refine (Nat.le_div_iff_mul_le (Nat.two_pow_pos _)).2 (Nat.le_trans (Nat.le_trans (bs_le (by omega) h9 (h.n15 i)) ?_) h1)
 unfold st0 cod
 exact Nat.mul_le_mul_right _ (Nat.le_add_right _ _)
theorem cov_eq {i x : Nat} (h0 : L.getD i 0 ≠ 0) : covers L x i = true ↔ x % 2 ^ L.getD i 0 = rev (L.getD i 0) (cod L i) := by
 unfold covers
 simp only [Bool.and_eq_true, bne_iff_ne, ne_eq, h0, not_false_eq_true, true_and, beq_iff_eq]
theorem cov_zero {i x : Nat} (h0 : L.getD i 0 = 0) : covers L x i = false := by
 unfold covers
 rw [h0]; rfl
theorem cov_self {i : Nat} (h0 : L.getD i 0 ≠ 0) : covers L (rev (L.getD i 0) (cod L i)) i = true := by
 rw [cov_eq h0, Nat.mod_eq_of_lt (rvb _ _)]
theorem chv_zero (h : Kraft L) {i : Nat} (h0 : L.getD i 0 = 0) (x : Nat) : chv L (i + 1) x = chv L i x := by
 unfold chv
 have e : Vk L (i + 1) x = Vk L i x := by rw [h.vk_succ, if_neg (by rw [cov_zero h0]; decide)]
 rw [e]
theorem lkv_zero (h : Kraft L) {i : Nat} (h0 : L.getD i 0 = 0) (j y : Nat) : lkv L (i + 1) j y = lkv L i j y := by
 unfold lkv
 rw [h.vk_succ, if_neg (by rw [cov_zero h0]; decide)]
theorem chv_short (h : Kraft L) {i : Nat} (h0 : L.getD i 0 ≠ 0) (h9 : L.getD i 0 ≤ 9) (x : Nat) : chv L (i + 1) x = if x % 2 ^ L.getD i 0 = rev (L.getD i 0) (cod L i) then 16 * i + L.getD i 0 else chv L i x := by
 unfold chv
 rw [h.vk_succ]
 by_cases hc : covers L x i = true
 ·rw [if_pos hc, if_pos (short_lt h h0 h9 hc), if_pos ((cov_eq h0).1 hc)]
 ·rw [if_neg hc, if_neg (fun e => hc ((cov_eq h0).2 e))]
theorem rv9_low (h : Kraft L) {j y : Nat} (hj : j < 512 - lnk L) : rev 9 (rev 9 (lnk L + j) + 512 * y) = lnk L + j := by
 have e : (rev 9 (lnk L + j) + 512 * y) % 2 ^ 9 = rev 9 (lnk L + j) := by
  have := rvb 9 (lnk L + j)
  have h9 : (2 : Nat) ^ 9 = 512 := rfl
  omega
 rw [← rv_mod, e, rv_rv, Nat.mod_eq_of_lt (show lnk L + j < 2 ^ 9 by have h9 : (2 : Nat) ^ 9 = 512 := rfl; omega)]
theorem lkv_short (h : Kraft L) {i : Nat} (h0 : L.getD i 0 ≠ 0) (h9 : L.getD i 0 ≤ 9) {j : Nat} (hj : j < 512 - lnk L) (y : Nat) : lkv L (i + 1) j y = lkv L i j y := by
 unfold lkv
 rw [h.vk_succ, if_neg]
 intro hc
 have := short_lt h h0 h9 hc
 rw [rv9_low h hj] at this
 omega
theorem chv_long (h : Kraft L) {i : Nat} (h9 : 9 < L.getD i 0) (x : Nat) : chv L (i + 1) x = chv L i x := by
 unfold chv
 split
 ·rename_i hx
  rw [h.vk_succ, if_neg]
  intro hc
  have := long_ge h h9 hc
  omega
 ·rfl
/-- Of a long code: where its further table stands, and what place in it. -/
theorem long_code (h : Kraft L) {i : Nat} (h9 : 9 < L.getD i 0) : lnk L ≤ rev 9 (rev (L.getD i 0) (cod L i)) := long_ge h h9 (cov_self (by omega))
theorem lkv_long (h : Kraft L) {i : Nat} (h9 : 9 < L.getD i 0) {j : Nat} (hj : j < 512 - lnk L) (y : Nat) :
  lkv L (i + 1) j y = if j = rev 9 (rev (L.getD i 0) (cod L i)) - lnk L ∧ y % 2 ^ (L.getD i 0 - 9) = rev (L.getD i 0) (cod L i) / 512 then 16 * i + L.getD i 0 else lkv L i j y := by
 unfold lkv
 have h0 : L.getD i 0 ≠ 0 := by omega
 have hge := long_code h h9
 rw [h.vk_succ]
 have key : covers L (rev 9 (lnk L + j) + 512 * y) i = true ↔ (j = rev 9 (rev (L.getD i 0) (cod L i)) - lnk L ∧ y % 2 ^ (L.getD i 0 - 9) = rev (L.getD i 0) (cod L i) / 512) := by
  rw [cov_eq h0]
  generalize hr : rev (L.getD i 0) (cod L i) = r at *
  have hrb : r < 2 ^ L.getD i 0 := by rw [← hr]; exact rvb _ _
  obtain ⟨m, hm⟩ : ∃ m, L.getD i 0 = 9 + m := ⟨L.getD i 0 - 9, by omega⟩
  rw [hm] at hrb ⊢
  rw [show 9 + m - 9 = m by omega]
  have hjb := rvb 9 (lnk L + j)
  have h512 : (2 : Nat) ^ 9 = 512 := rfl
  rw [Nat.pow_add, h512, Nat.mod_mul]
  have e1 : (rev 9 (lnk L + j) + 512 * y) % 512 = rev 9 (lnk L + j) := by omega
  have e2 : (rev 9 (lnk L + j) + 512 * y) / 512 = y := by omega
  rw [e1, e2]
  have e3 : rev 9 (lnk L + j) = r % 512 ↔ j = rev 9 r - lnk L := by
   constructor
   ·intro he
    have := congrArg (rev 9) he
    rw [rv_rv, Nat.mod_eq_of_lt (show lnk L + j < 2 ^ 9 by omega), show (512 : Nat) = 2 ^ 9 from rfl, rv_mod] at this
    omega
   ·intro he
    rw [show lnk L + j = rev 9 r by omega, rv_rv]
  rw [← e3]
  have hq : y % 2 ^ m < 2 ^ m := Nat.mod_lt _ (Nat.two_pow_pos _)
  have hr2 : r / 512 < 2 ^ m := by
   rw [Nat.pow_add, h512] at hrb
   exact Nat.div_lt_of_lt_mul hrb
  omega
 by_cases hc : covers L (rev 9 (lnk L + j) + 512 * y) i = true
 ·rw [if_pos hc, if_pos (key.1 hc)]
 ·rw [if_neg hc, if_neg (fun e => hc (key.2 e))]
theorem vk_small (h : Kraft L) (hlen : L.length ≤ 500) {i : Nat} (hi : i ≤ L.length) (X : Nat) : Vk L i X < 8192 := by
 by_cases h0 : Vk L i X = 0
 ·omega
 ·obtain ⟨s, h1, _, h3⟩ := vk_some h0
  have := h.n15 s
  omega
/-- Bits beyond the greatest length do not matter. -/
theorem vk_mod {i X k : Nat} (hk : mx L ≤ k) : Vk L i (X % 2 ^ k) = Vk L i X := by
 unfold Vk
 have : covers L (X % 2 ^ k) = covers L X := by
  funext s
  unfold covers
  rw [Nat.mod_mod_of_dvd _ (Nat.pow_dvd_pow 2 (by have := le_mx L s; omega))]
 rw [this]
/-- The first table tells the short codes. -/
theorem chv_tells (h : Kraft L) (hlen : L.length ≤ 500) {X : Nat} (hx : rev 9 X < lnk L) : lkL L X = chv L L.length (X % 512) ∧ lkL L X % 16 ≤ 9 := by
 have h9 : rev 9 (X % 512) = rev 9 X := rv_mod 9 X
 unfold chv
 rw [h9, if_pos hx]
 have hs : ∀ Y s, rev 9 Y = rev 9 X → covers L Y s = true → L.getD s 0 ≤ 9 := by
  intro Y s hY hc
  rcases Nat.lt_or_ge 9 (L.getD s 0) with h1 | h1
  ·have := long_ge h h1 hc
   omega
  ·exact h1
 have hcov : ∀ s, covers L (X % 512) s = covers L X s := by
  intro s
  by_cases hn : L.getD s 0 ≤ 9
  ·unfold covers
   rw [show (512 : Nat) = 2 ^ 9 from rfl, Nat.mod_mod_of_dvd _ (Nat.pow_dvd_pow 2 hn)]
  ·have h1 : covers L (X % 512) s = false := Bool.eq_false_iff.2 fun hc => hn (hs _ s h9 hc)
   have h2 : covers L X s = false := Bool.eq_false_iff.2 fun hc => hn (hs _ s rfl hc)
   rw [h1, h2]
 constructor
 ·rw [lkL_eq]
  unfold Vk
  have : covers L (X % 512) = covers L X := funext hcov
  rw [this]
 ·rw [lkL_eq]
  by_cases h0 : Vk L L.length X = 0
  ·omega
  ·obtain ⟨s, _, h2, h3⟩ := vk_some h0
   have := hs X s rfl h2
   rw [h3]; omega
/-- The further tables tell the long ones. -/
theorem lkv_tells (h : Kraft L) {X : Nat} (hx : lnk L ≤ rev 9 X) (h9 : 9 < mx L) : lkL L X = lkv L L.length (rev 9 X - lnk L) (X / 512 % 2 ^ (mx L - 9)) := by
 unfold lkv
 rw [show lnk L + (rev 9 X - lnk L) = rev 9 X by omega, rv_rv, lkL_eq, ← vk_mod (X := X) (Nat.le_refl (mx L))]
 congr 1
 obtain ⟨m, hm⟩ : ∃ m, mx L = 9 + m := ⟨mx L - 9, by omega⟩
 rw [hm, show 9 + m - 9 = m by omega, Nat.pow_add, Nat.mod_mul]
theorem chv_start (h : Kraft L) (x : Nat) : chv L 0 x = if rev 9 x < lnk L then 0 else (rev 9 x - lnk L) * 16 + 10 := by
 unfold chv
 have : Vk L 0 x = 0 := vk_none fun s hs => by omega
 rw [this]
theorem lkv_start (j y : Nat) : lkv L 0 j y = 0 := vk_none fun s hs => by omega
end
end Go.Proofs.YtejeloeaklpinaaDoor
namespace Go.Proofs.YtejeloeaklpinaaDoor
/-- A set of codes at o: the least length, the first table, the slice of the further tables, the mask. -/
def gtab (gx : Nat → Value) (o m0 : Nat) (ch : Nat → Nat) (la : Value) (mask : Nat) : Nat → Value := fun j =>
 if j = o then .int .i64 (m0 : Int) else if o + 1 ≤ j ∧ j < o + 513 then .int .u32 ((ch (j - o - 1) : Nat) : Int) else if j = o + 513 then la else if j = o + 514 then .int .u32 (mask : Int) else gx j
section
variable {gx : Nat → Value} {o m0 : Nat} {ch : Nat → Nat} {la : Value} {mask : Nat}
theorem gtab_0 : gtab gx o m0 ch la mask o = .int .i64 (m0 : Int) := by unfold gtab; rw [if_pos rfl]
theorem gtab_ch {x : Nat} (hx : x < 512) : gtab gx o m0 ch la mask (o + 1 + x) = .int .u32 ((ch x : Nat) : Int) := by
 unfold gtab; rw [if_neg (by omega), if_pos (by omega), show o + 1 + x - o - 1 = x by omega]
theorem gtab_la : gtab gx o m0 ch la mask (o + 513) = la := by unfold gtab; rw [if_neg (by omega), if_neg (by omega), if_pos rfl]
theorem gtab_mask : gtab gx o m0 ch la mask (o + 514) = .int .u32 (mask : Int) := by unfold gtab; rw [if_neg (by omega), if_neg (by omega), if_neg (by omega), if_pos rfl]
theorem gtab_out {j : Nat} (h : j < o ∨ o + 515 ≤ j) : gtab gx o m0 ch la mask j = gx j := by unfold gtab; rw [if_neg (by omega), if_neg (by omega), if_neg (by omega), if_neg (by omega)]
theorem gtab_start (j : Nat) : upd (gz gx o) o (.int .i64 (m0 : Int)) j = gtab gx o m0 (fun _ => 0) (.slice none 0 0) 0 j := by
 unfold gtab upd gz z86
 by_cases h : j = o
 ·rw [if_pos h, if_pos h]
 ·rw [if_neg h, if_neg h]
  by_cases h1 : o + 1 ≤ j ∧ j < o + 513
  ·rw [if_pos (by omega), if_neg (by omega), if_neg (by omega), if_pos h1]; rfl
  ·rw [if_neg h1]
   by_cases h2 : j = o + 513
   ·rw [if_pos (by omega), if_neg (by omega), if_pos (by omega), if_pos h2]
   ·rw [if_neg h2]
    by_cases h3 : j = o + 514
    ·rw [if_pos (by omega), if_neg (by omega), if_neg (by omega), if_pos h3]; rfl
    ·rw [if_neg h3, if_neg (by omega)]
theorem gtab_setch {x c : Nat} (hx : x < 512) (j : Nat) : upd (gtab gx o m0 ch la mask) (o + 1 + x) (.int .u32 (c : Int)) j = gtab gx o m0 (fun y => if y = x then c else ch y) la mask j := by
 unfold upd gtab
 by_cases h : j = o + 1 + x
 ·rw [if_pos h, if_neg (by omega), if_pos (by omega)]
  show _ = Value.int .u32 (((if j - o - 1 = x then c else ch (j - o - 1)) : Nat) : Int)
  rw [if_pos (by omega)]
 ·rw [if_neg h]
  by_cases h1 : o + 1 ≤ j ∧ j < o + 513
  ·rw [if_neg (by omega), if_pos h1, if_neg (by omega), if_pos h1]
   show _ = Value.int .u32 (((if j - o - 1 = x then c else ch (j - o - 1)) : Nat) : Int)
   rw [if_neg (by omega)]
  ·rw [if_neg h1, if_neg h1]
theorem gtab_setla {la' : Value} (j : Nat) : upd (gtab gx o m0 ch la mask) (o + 513) la' j = gtab gx o m0 ch la' mask j := by
 unfold upd gtab
 by_cases h : j = o + 513
 ·rw [if_pos h, if_neg (by omega), if_neg (by omega), if_pos h]
 ·rw [if_neg h, if_neg h, if_neg h]
theorem gtab_setmask {mask' : Nat} (j : Nat) : upd (gtab gx o m0 ch la mask) (o + 514) (.int .u32 (mask' : Int)) j = gtab gx o m0 ch la mask' j := by
 unfold upd gtab
 by_cases h : j = o + 514
 ·rw [if_pos h, if_neg (by omega), if_neg (by omega), if_neg (by omega), if_pos h]
 ·rw [if_neg h, if_neg h, if_neg h]
theorem gtab_congr {ch' : Nat → Nat} (h : ∀ x, x < 512 → ch x = ch' x) (j : Nat) : gtab gx o m0 ch la mask j = gtab gx o m0 ch' la mask j := by
 unfold gtab
 by_cases h1 : o + 1 ≤ j ∧ j < o + 513
 ·rw [h _ (by omega)]
 ·rw [if_neg h1, if_neg h1]
end
/-- The places that lead on, as far as they are laid. -/
def chl (L : List Nat) (j x : Nat) : Nat := if lnk L ≤ rev 9 x ∧ rev 9 x < j then (rev 9 x - lnk L) * 16 + 10 else 0
theorem rev9_inv {x j : Nat} (hx : x < 512) (hj : j < 512) : x = rev 9 j ↔ rev 9 x = j := by
 have h9 : (2 : Nat) ^ 9 = 512 := rfl
 constructor
 ·intro h; rw [h, rv_rv, Nat.mod_eq_of_lt (by omega)]
 ·intro h; rw [← h, rv_rv, Nat.mod_eq_of_lt (by omega)]
theorem chl_succ {L : List Nat} {j x : Nat} (hx : x < 512) (hj : j < 512) (hl : lnk L ≤ j) : (if x = rev 9 j then (j - lnk L) * 16 + 10 else chl L j x) = chl L (j + 1) x := by
 unfold chl
 by_cases h : x = rev 9 j
 ·rw [if_pos h]
  have := (rev9_inv hx hj).1 h
  rw [this, if_pos (by omega)]
 ·rw [if_neg h]
  have hne : rev 9 x ≠ j := fun e => h ((rev9_inv hx hj).2 e)
  by_cases h1 : lnk L ≤ rev 9 x ∧ rev 9 x < j
  ·rw [if_pos h1, if_pos (by omega)]
  ·rw [if_neg h1, if_neg (by omega)]
theorem chl_start {L : List Nat} (x : Nat) : chl L (lnk L) x = 0 := by unfold chl; rw [if_neg (by omega)]
theorem chl_end {L : List Nat} (h : Kraft L) {x : Nat} (hx : x < 512) : chl L 512 x = chv L 0 x := by
 have := rvb 9 x
 have h9 : (2 : Nat) ^ 9 = 512 := rfl
 rw [chv_start h]
 unfold chl
 by_cases h1 : rev 9 x < lnk L
 ·rw [if_pos h1, if_neg (by omega)]
 ·rw [if_neg h1, if_pos (by omega)]
/-- A row filled at every m-th place from r on, as far as off. -/
def fil (m r c off : Nat) (g : Nat → Nat) (x : Nat) : Nat := if x % m = r ∧ x < off then c else g x
theorem fil_start {m r c : Nat} {g : Nat → Nat} (x : Nat) : fil m r c r g x = g x := by
 unfold fil
 rw [if_neg]
 rintro ⟨h1, h2⟩
 have := Nat.mod_le x m
 omega
theorem fil_succ {m r c off : Nat} {g : Nat → Nat} (h0 : 0 < m) (ho : off % m = r) (x : Nat) : (if x = off then c else fil m r c off g x) = fil m r c (off + m) g x := by
 unfold fil
 by_cases h : x = off
 ·subst h
  rw [if_pos rfl, if_pos ⟨ho, by omega⟩]
 ·rw [if_neg h]
  by_cases h1 : x % m = r ∧ x < off
  ·rw [if_pos h1, if_pos ⟨h1.1, by omega⟩]
  ·rw [if_neg h1, if_neg]
   rintro ⟨h2, h3⟩
   by_cases h4 : x < off
   ·exact h1 ⟨h2, h4⟩
   ·obtain ⟨d, rfl⟩ : ∃ d, x = off + d := ⟨x - off, by omega⟩
    have hd : d < m := by omega
    have h5 : (off + d) % m = (off % m + d) % m := by rw [Nat.mod_add_mod]
    rw [h2, ho] at h5
    have hr : r < m := by rw [← ho]; exact Nat.mod_lt _ h0
    by_cases hlt : r + d < m
    ·rw [Nat.mod_eq_of_lt hlt] at h5; omega
    ·rw [Nat.mod_eq_sub_mod (by omega), Nat.mod_eq_of_lt (by omega)] at h5; omega
theorem fil_end {m r c off : Nat} {g : Nat → Nat} {n : Nat} (ho : n ≤ off) {x : Nat} (hx : x < n) : fil m r c off g x = if x % m = r then c else g x := by
 unfold fil
 by_cases h : x % m = r
 ·rw [if_pos h, if_pos ⟨h, by omega⟩]
 ·rw [if_neg h, if_neg (fun e => h e.1)]
/-- The next codes while the first i symbols are entered. -/
def nxc (L : List Nat) (i k : Nat) : Nat := if k ≤ mx L then nc L k + cg L i k else 0
/-- How long a further table is. -/
def nl (L : List Nat) : Nat := 2 ^ (mx L - 9)
def laV (L : List Nat) (LO : Nat) : Value := if mx L ≤ 9 then .slice none 0 0 else .slice (some ⟨LO, 0, none⟩) (512 - lnk L) (512 - lnk L)
def mkV (L : List Nat) : Nat := if mx L ≤ 9 then 0 else nl L - 1
/-- The state of the tables when the first i symbols are entered. -/
structure IT (w0 w : World) (hb nb : Nat) (tb : TypeId) (o : Nat) (gx : Nat → Value) (L : List Nat) (X2 LO i : Nat) : Prop where
 hB : Bk w hb nb tb (gtab gx o (mn L) (chv L i) (laV L LO) (mkV L))
 nx : Bk w X2 16 128 (fun k => .int .i64 ((nxc L i k : Nat) : Int))
 far : 9 < mx L → Bk w LO (512 - lnk L) 130 (fun k => .slice (some ⟨LO + 1 + k, 0, none⟩) (nl L) (nl L)) ∧ ∀ k, k < 512 - lnk L → Bk w (LO + 1 + k) (nl L) 82 (fun y => .int .u32 ((lkv L i k y : Nat) : Int))
 kp : Kp [hb] w0 w
 lt0 : hb < w0.heap.size
 lt1 : w0.heap.size ≤ X2
 lt2 : X2 < LO
theorem nx_succ {L : List Nat} {i n : Nat} (h : i < L.length) (hn : L.getD i 0 = n) (h0 : n ≠ 0) (hm : n ≤ mx L) (k : Nat) : (if k = n then nxc L i n + 1 else nxc L i k) = nxc L (i + 1) k := by
 unfold nxc
 rw [cg_succ L h, hn]
 by_cases hk : k = n
 ·subst hk
  rw [if_pos rfl, if_pos hm, if_pos hm, if_pos ⟨h0, rfl⟩]; omega
 ·rw [if_neg hk, if_neg (show ¬ (n ≠ 0 ∧ k = n) from fun e => hk e.2)]
theorem nx_same {L : List Nat} {i : Nat} (h : i < L.length) (hn : L.getD i 0 = 0) (k : Nat) : nxc L i k = nxc L (i + 1) k := by
 unfold nxc
 rw [cg_succ L h, hn, if_neg (show ¬ ((0:Nat) ≠ 0 ∧ k = 0) from fun e => e.1 rfl)]
theorem nx_cod {L : List Nat} {i n : Nat} (hn : L.getD i 0 = n) (h0 : n ≠ 0) (hm : n ≤ mx L) : nxc L i n = cod L i := by
 unfold nxc cod cg
 rw [if_pos hm, if_neg h0, hn]
theorem nx_start {L : List Nat} {k : Nat} : nxc L 0 k = if k < mx L + 1 then nc L k else 0 := by
 unfold nxc cg
 by_cases h : k ≤ mx L
 ·rw [if_pos h, if_pos (show k < mx L + 1 by omega)]
  split
  ·rfl
  ·simp [cnt]
 ·rw [if_neg h, if_neg (show ¬ k < mx L + 1 by omega)]
theorem nl_pos (L : List Nat) : 0 < nl L := Nat.two_pow_pos _
theorem nl_le {L : List Nat} (h : Kraft L) : nl L ≤ 64 := by
 unfold nl
 exact Nat.le_trans (Nat.pow_le_pow_right (by decide) (show mx L - 9 ≤ 6 by have := h.m15; omega)) (by decide)
theorem IT.skip {w0 w : World} {hb nb : Nat} {tb : TypeId} {o : Nat} {gx : Nat → Value} {L : List Nat} {X2 LO i : Nat} (h : IT w0 w hb nb tb o gx L X2 LO i) (hF : Kraft L) (hi : i < L.length) (h0 : L.getD i 0 = 0) : IT w0 w hb nb tb o gx L X2 LO (i + 1) := by
 refine ⟨h.hB.congr fun j _ => gtab_congr (fun x _ => (chv_zero hF h0 x).symm) j, h.nx.congr fun k _ => by rw [nx_same hi h0], fun h9 => ⟨(h.far h9).1, fun k hk => ((h.far h9).2 k hk).congr fun y _ => by rw [lkv_zero hF h0]⟩, h.kp, h.lt0, h.lt1, h.lt2⟩
/-- In the end the tables are those of the codes. -/
theorem IT.tab {w0 w : World} {hb nb : Nat} {tb : TypeId} {o : Nat} {gx : Nat → Value} {L : List Nat} {X2 LO : Nat} (h : IT w0 w hb nb tb o gx L X2 LO L.length) (hF : Kraft L) (hlen : L.length ≤ 500) (E : Env) (hE : mx L ≤ 9 ∨ ∀ b ∈ E.X, b < w0.heap.size) :
  HTab E w (gtab gx o (mn L) (chv L L.length) (laV L LO) (mkV L)) o (cdL L) := by
 have h512 : (2 : Nat) ^ 9 = 512 := rfl
 have hl := lnk_le hF
 have hlt1 := h.lt1
 have hlt2 := h.lt2
 have hsmall : ∀ x, (cdL L).lk x < 8192 := fun x => by show lkL L x < 8192; rw [lkL_eq]; exact vk_small hF hlen (Nat.le_refl _) x
 have hnl := nl_pos L
 have hnl2 := nl_le hF
 refine ⟨gtab_0, ?_⟩
 by_cases h9 : mx L ≤ 9
 ·refine ⟨none, 0, 0, 0, by rw [gtab_la]; unfold laV; rw [if_pos h9], by rw [gtab_mask]; unfold mkV; rw [if_pos h9], by omega, fun x => ⟨by have := hsmall x; omega, _, gtab_ch (Nat.mod_lt _ (by decide)), ?_, .inl ?_⟩⟩
  ·have hx : rev 9 x < lnk L := by unfold lnk; rw [if_pos h9]; exact rvb 9 x
   rw [← (chv_tells hF hlen hx).1]; have := hsmall x; show lkL L x < _; have : lkL L x < 8192 := this; omega
  ·have hx : rev 9 x < lnk L := by unfold lnk; rw [if_pos h9]; exact rvb 9 x
   obtain ⟨e1, e2⟩ := chv_tells hF hlen hx
   exact ⟨by rw [← e1]; exact e2, e1⟩
 ·have h9' : 9 < mx L := by omega
  obtain ⟨hfo, hfi⟩ := h.far h9'
  have hEX : ∀ b ∈ E.X, b < w0.heap.size := by rcases hE with hE | hE; exact absurd hE h9; exact hE
  refine ⟨some ⟨LO, 0, none⟩, 512 - lnk L, 512 - lnk L, nl L - 1, by rw [gtab_la]; unfold laV; rw [if_neg h9], by rw [gtab_mask]; unfold mkV; rw [if_neg h9], by omega, fun x => ⟨by have := hsmall x; omega, _, gtab_ch (Nat.mod_lt _ (by decide)), ?_⟩⟩
  by_cases hx : rev 9 x < lnk L
  ·obtain ⟨e1, e2⟩ := chv_tells hF hlen hx
   refine ⟨?_, .inl ⟨by rw [← e1]; exact e2, e1⟩⟩
   rw [← e1]; have : lkL L x < 8192 := hsmall x; omega
  ·have hr := rvb 9 x
   have e : chv L L.length (x % 512) = (rev 9 x - lnk L) * 16 + 10 := by
    unfold chv
    rw [show rev 9 (x % 512) = rev 9 x from rv_mod 9 x, if_neg hx]
   rw [e]
   refine ⟨by omega, .inr ⟨by omega, by omega, LO, 0, LO + 1 + (rev 9 x - lnk L), 0, nl L, nl L, rfl, fun hm => by have := hEX _ hm; omega, fun hm => by have := hEX _ hm; omega, ?_, ?_, ?_⟩⟩
   ·rw [Nat.zero_add, show ((rev 9 x - lnk L) * 16 + 10) / 16 = rev 9 x - lnk L by omega]
    exact hfo.cell (by omega)
   ·unfold nl
    rw [Nat.and_two_pow_sub_one_eq_mod]
    exact Nat.mod_lt _ (Nat.two_pow_pos _)
   ·rw [Nat.zero_add]
    refine (hfi (rev 9 x - lnk L) (by omega)).cellv ?_ ?_
    ·unfold nl
     rw [Nat.and_two_pow_sub_one_eq_mod]
     exact Nat.mod_lt _ (Nat.two_pow_pos _)
    ·show Value.int .u32 ((lkv L L.length (rev 9 x - lnk L) _ : Nat) : Int) = Value.int .u32 ((lkL L x : Nat) : Int)
     rw [lkv_tells hF (by omega) h9']
     unfold nl
     rw [Nat.and_two_pow_sub_one_eq_mod]
section
variable {ρ : Operand → Value} {d : Option Nat} {x y : Operand} {ty : TypeId} {pos : String} {af : Array Edge} {gd : Option (Nat × Bool)} {w : World} {a : Int}
theorem cv38_37 {c : Int} (hx : ρ x = .int .u64 a) (hc : IntKind.u16.wrap a = c) : (execOp ρ ⟨d, .convert 38 37 x, ty, pos, af, gd⟩).run Tryd.prog w = .ok (.value (.int .u16 c)) w := by
 subst hc
 exact cv (s := 38) (t := 37) (fun w => by kernel_rfl) hx
theorem cv38_82 {c : Int} (hx : ρ x = .int .u64 a) (hc : IntKind.u32.wrap a = c) : (execOp ρ ⟨d, .convert 38 82 x, ty, pos, af, gd⟩).run Tryd.prog w = .ok (.value (.int .u32 c)) w := by
 subst hc
 exact cv (s := 38) (t := 82) (fun w => by kernel_rfl) hx
theorem or_low16 (x : Nat) {y : Nat} (hy : y < 16) : x * 2 ^ 4 ||| y = x * 16 + y := by
 rw [Nat.or_comm, or_high y x 4 (by omega)]; omega
theorem bn_oru {t : TypeId} {a b : Int} {x y z : Nat} (ha : a = (x : Int)) (hb : b = (y : Int)) (hx : x < 18446744073709551616) (hy : y < 18446744073709551616) (hz : x ||| y = z) : binOp .or t (.int .u64 a) (.int .u64 b) = pure (.int .u64 (z : Int)) := by
 subst ha hb hz
 exact bits_nat .u64 rfl x y _ .or hx hy (Nat.or_lt_two_pow hx hy) (.inr (.inl ⟨rfl, rfl⟩))
theorem bn_orz {t : TypeId} {a b : Int} {x y z : Nat} (ha : a = (x : Int)) (hb : b = (y : Int)) (hx : x < 9223372036854775808) (hy : y < 9223372036854775808) (hz : x ||| y = z) : binOp .or t (.int .i64 a) (.int .i64 b) = pure (.int .i64 (z : Int)) := by
 rw [bn_or64 ha hb hx hy, hz]
end
attribute [local irreducible] wpList wpStill wpMix Code.wp Calls fr
section
variable {ops : Array Oper} {N : Nat} {L : List (Nat × Value)} {B f : Nat → Value} {w : World} {rest : List Oper} {dd : Nat} {x y : Operand} {ty : TypeId} {pos : String} {af : Array Edge} {b k n : Nat} {T : TypeId} {g : Nat → Value} {v : Value} {i : Int}
theorem Lst_anyS {Q : Exit → Act → World → Prop} (t : TypeId) (ht : ∀ w, (sizeOf t).run Tryd.prog w = .ok 1 w) (hx : ev N f x = .pointer (some ⟨b, k, none⟩)) (hy : ev N f y = v) (h1 : v.oneCell' = true) (hB : Bk w b n T g) (hk : k < n)
  (K : ∀ w1, Bk w1 b n T (upd g k v) → Kp [b] w w1 → w1.heap.size = w.heap.size → wpList Tryd.prog ops Q rest (fr N f) w1) : wpList Tryd.prog ops Q (⟨none, .store t x y, ty, pos, af, none⟩ :: rest) (fr N f) w :=
 L0 (st_any t (ht w) hx hy h1 (hB.cell hk) (hB.frozen _)) (K _ (hB.set k v) ((Kp.refl [b] w).setCell (by simp) v) (by simp))
theorem Lmk84 {Q : Exit → Act → World → Prop} (hx : ev N (fl L B) x = .int .i64 i) (hi : i = (n : Int)) (hn : n ≤ 1000000)
  (K : ∀ X w1, w.heap.size = X → Bk w1 X n 130 (fun _ => .slice none 0 0) → Kp [] w w1 → w1.heap.size = X + 1 → wpList Tryd.prog ops Q rest (fr N (fl ((dd, .slice (some ⟨X, 0, none⟩) n n) :: L) B)) w1) :
  wpList Tryd.prog ops Q (⟨some dd, .makeSlice 84 x x, ty, pos, af, none⟩ :: rest) (fr N (fl L B)) w := by
 obtain ⟨w1, hr, h1, h2, h3⟩ := mk84 (d := some dd) (ty := ty) (pos := pos) (af := af) (gd := none) hx hi hn w
 exact L1 hr (K _ _ rfl h1 h2 h3)
theorem Emk130 {C : World → Prop} {fs : List Bool} {Q : Act → World → Prop} (hx : ev N (fl L B) x = .int .i64 i) (hi : i = (n : Int)) (hn : n ≤ 1000000)
  (K : ∀ X w1, w.heap.size = X → Bk w1 X n 82 (fun _ => .int .u32 0) → Kp [] w w1 → w1.heap.size = X + 1 → C w1 ∧ wpMix Tryd.prog ops C Q rest fs (fr N (fl ((dd, .slice (some ⟨X, 0, none⟩) n n) :: L) B)) w1) :
  wpMix Tryd.prog ops C Q (⟨some dd, .makeSlice 130 x x, ty, pos, af, none⟩ :: rest) (true :: fs) (fr N (fl L B)) w := by
 obtain ⟨w1, hr, h1, h2, h3⟩ := mk130 (d := some dd) (ty := ty) (pos := pos) (af := af) (gd := none) hx hi hn w
 obtain ⟨h4, h5⟩ := K _ _ rfl h1 h2 h3
 exact E1 hr h4 h5
theorem Est130 {C : World → Prop} {fs : List Bool} {Q : Act → World → Prop} (hx : ev N f x = .pointer (some ⟨b, k, none⟩)) (hy : ev N f y = v) (h1 : v.oneCell' = true) (hB : Bk w b n T g) (hk : k < n)
  (K : ∀ w1, Bk w1 b n T (upd g k v) → Kp [b] w w1 → w1.heap.size = w.heap.size → C w1 ∧ wpMix Tryd.prog ops C Q rest fs (fr N f) w1) : wpMix Tryd.prog ops C Q (⟨none, .store 130 x y, ty, pos, af, none⟩ :: rest) (true :: fs) (fr N f) w := by
 obtain ⟨h4, h5⟩ := K _ (hB.set k v) ((Kp.refl [b] w).setCell (by simp) v) (by simp)
 exact E0 (st130 hx hy h1 (hB.cell hk) (hB.frozen _)) h4 h5
end
end Go.Proofs.YtejeloeaklpinaaDoor
namespace Go.Proofs.YtejeloeaklpinaaDoor
section
variable {P : Program} {ops : Array Oper} {Q : Exit → Act → World → Prop} {N : Nat} {L : List (Nat × Value)} {B : Nat → Value} {w : World} {rest : List Oper} {d : Nat} {op : Op} {ty : TypeId} {pos : String} {af : Array Edge}
/-- A guarded operation whose guard was itself passed over. -/
theorem LskipU {j t : Nat} {b : Bool} (hj : ((ops[j]?).bind (·.dst)) = some t) (ht : t < N) (hb : fl L B t = undef)
  (k : wpList P ops Q rest (fr N (fl ((d, undef) :: L) B)) w) : wpList P ops Q (⟨some d, op, ty, pos, af, some (j, b)⟩ :: rest) (fr N (fl L B)) w := by
 refine wpList_skip ?_ ?_
 ·have : yielded ops (fr N (fl L B)).tmps j = none := by simp only [yielded, hj, Option.bind_some, fr, Array.getElem?_ofFn, ht, dif_pos, hb]; rfl
  simp only [Region.wanted, this]
  cases b <;> rfl
 ·rw [fr_put]; exact k
end
theorem lens_at {w0 w : World} {hb lb lo : Nat} {L : List Nat} (hL : ∀ j, j < L.length → w0.cell? ⟨lb, lo + j, none⟩ = some (.int .i64 (L.getD j 0 : Nat))) (hlb : lb ≠ hb) (kp : Kp [hb] w0 w) (j : Nat) (hj : j < L.length) : w.cell? ⟨lb, lo + j, none⟩ = some (.int .i64 (L.getD j 0 : Nat)) :=
 kp.cell (hL j hj) (by simpa using hlb)
/-- What init leaves. -/
def InitPost (hb nb : Nat) (tb : TypeId) (o : Nat) (gx : Nat → Value) (L : List Nat) (w : World) (v : Value) (w' : World) : Prop :=
 v = .bool (okL L) ∧ ∃ gx', Bk w' hb nb tb gx' ∧ (∀ j, j < o ∨ o + 515 ≤ j → gx' j = gx j) ∧ Kp [hb] w w' ∧ HZ gx' o ∧ (okL L = true → ∀ E : Env, (mx L ≤ 9 ∨ ∀ b ∈ E.X, b < w.heap.size) → HTab E w' gx' o (cdL L))
theorem gz_out (g : Nat → Value) (o j : Nat) (h : j < o ∨ o + 515 ≤ j) : gz g o j = g j := by unfold gz; rw [if_neg (by omega)]
theorem gz_hz (g : Nat → Value) (o : Nat) : HZ (gz g o) o := by
 refine .inr ⟨?_, fun k hk => ?_, ?_, ?_⟩
 ·unfold gz; rw [if_pos (by omega)]; unfold z86; rw [if_pos (by omega)]
 ·unfold gz; rw [if_pos (by omega)]; unfold z86; rw [if_neg (by omega), if_neg (by omega)]
 ·unfold gz; rw [if_pos (by omega)]; unfold z86; rw [if_neg (by omega), if_pos (by omega)]
 ·unfold gz; rw [if_pos (by omega)]; unfold z86; rw [if_neg (by omega), if_neg (by omega)]
theorem gz_self {g : Nat → Value} {o : Nat} (h0 : g o = .int .i64 0) (h1 : ∀ k, k < 512 → g (o + 1 + k) = .int .u32 0) (h2 : g (o + 513) = .slice none 0 0) (h3 : g (o + 514) = .int .u32 0) (j : Nat) : g j = gz g o j := by
 unfold gz z86
 by_cases h : o ≤ j ∧ j < o + 515
 ·rw [if_pos h]
  by_cases e0 : j - o = 0
  ·rw [if_pos e0, show j = o by omega]; exact h0
  ·rw [if_neg e0]
   by_cases e1 : j - o = 513
   ·rw [if_pos e1, show j = o + 513 by omega]; exact h2
   ·rw [if_neg e1]
    by_cases e2 : j = o + 514
    ·rw [e2]; exact h3
    ·have := h1 (j - o - 1) (by omega)
     rw [show o + 1 + (j - o - 1) = j by omega] at this
     exact this
 ·rw [if_neg h]
attribute [local irreducible] wpList wpStill wpMix Code.wp Calls fr
theorem mx_le15 {L : List Nat} (h : ∀ s, L.getD s 0 ≤ 15) : mx L ≤ 15 := by
 induction L with
 | nil => simp [mx]
 | cons a l ih =>
  have h0 := h 0
  have := ih fun s => by have := h (s + 1); simpa using this
  simp at h0
  simp only [mx]; omega
theorem htab_zero {L : List Nat} (hm0 : mx L = 0) (E : Env) {w : World} {gx : Nat → Value} {o : Nat} : HTab E w (gz gx o) o (cdL L) := by
 have hmn : mn L = 0 := by have := mn_mx L; omega
 rcases gz_hz gx o with ⟨m, h1, h2⟩ | ⟨h0, h1, h2, h3⟩
 ·exfalso
  have : gz gx o o = .int .i64 0 := by unfold gz; rw [if_pos (by omega)]; unfold z86; rw [if_pos (by omega)]
  rw [this] at h2
  cases h2
  exact h1 rfl
 ·refine ⟨by rw [h0]; show _ = Value.int .i64 ((mn L : Nat) : Int); rw [hmn]; rfl, none, 0, 0, 0, h2, h3, by omega, fun x => ?_⟩
  have hl : (cdL L).lk x = 0 := lk_zero hm0 x
  rw [hl]
  exact ⟨by omega, 0, h1 _ (Nat.mod_lt _ (by decide)), by omega, .inl ⟨by omega, rfl⟩⟩
theorem init_c (w : World) (hb nb : Nat) (tb : TypeId) (o : Nat) (gx : Nat → Value) (lb lo lcap : Nat) (L : List Nat) (hB : Bk w hb nb tb gx) (ho : o + 515 ≤ nb) (hZ : HZ gx o)
  (hL : ∀ j, j < L.length → w.cell? ⟨lb, lo + j, none⟩ = some (.int .i64 (L.getD j 0 : Nat))) (hlb : lb ≠ hb) (h15 : ∀ s, L.getD s 0 ≤ 15) (hlen : L.length ≤ 500) :
  Ret 53 [.pointer (some ⟨hb, o, none⟩), .slice (some ⟨lb, lo, none⟩) L.length lcap] w fun v w' => InitPost hb nb tb o gx L w v w' := by
 have hhb := hB.lt
 have kp := Kp.refl [hb] w
 have hmx : mx L ≤ 15 := mx_le15 h15
 refine calls_fr (N := 317) Tryd.func53 rfl rfl (by simp) rfl ?_
 refine sqr ?_
 refine Ab rfl ?_
 refine nt ?_
 refine seq_cut (N := 317) (fun f w' => f 0 = .pointer (some ⟨hb, o, none⟩) ∧ f 1 = .slice (some ⟨lb, lo, none⟩) L.length lcap ∧ Bk w' hb nb tb (gz gx o) ∧ Kp [hb] w w') ?_ ?_
 ·skip
  rcases hZ with ⟨m0, hm0, hmin⟩ | ⟨hz0, hz1, hz2, hz3⟩
  ·skip
   refine sqr ?_
   refine Mp rfl ?_
   refine Np rfl ?_
   refine L1 (fb86_0 rfl) ?_
   refine L1 (ld3 rfl (hB.cellv (by omega) hmin)) ?_
   refine L1 (bi rfl rfl (bn_neq (v := true) (decide_eq_false hm0))) ?_
   refine nt ?_
   refine cond_t rfl ?_
   refine reg_lit ?_
   refine Mp rfl ?_
   refine L1 (bd86) ?_
   refine Np rfl ?_
   refine Lst86 rfl rfl hB ho ?_
   intro w1 hB kp1
   have kp := kp.trans kp1
   refine nt ?_
   exact ⟨_, rfl, rfl, rfl, hB, kp⟩
  ·skip
   refine sqr ?_
   refine Mp rfl ?_
   refine Np rfl ?_
   refine L1 (fb86_0 rfl) ?_
   refine L1 (ld3 rfl (hB.cellv (by omega) hz0)) ?_
   refine L1 (bi rfl rfl (bn_neq (v := false) (decide_eq_true rfl))) ?_
   refine nt ?_
   refine cond_f rfl ?_
   refine skn ?_
   exact ⟨_, rfl, rfl, rfl, hB.congr (fun j _ => gz_self hz0 hz1 hz2 hz3 j), kp⟩
 ·skip
  clear hB kp
  rintro f w1 ⟨s0, s1, hB, kp⟩
  refine slots (fc s0 (fc s1 fnil)) ?_
  refine sqr ?_
  refine Lal128 ?_
  intro X1 w2 hX1 hbX1 kp1 hsX1
  have hszX1 := kp.size
  have hBltX1 := hB.lt
  have hB := hB.kp kp1 (by simp)
  have kp := kp.trans (kp1.mono (by simp))
  refine nt ?_
  refine sqr ?_
  refine Ai rfl ?_
  refine Ai rfl ?_
  refine nt ?_
  refine wp_seq ?_
  refine sqr ?_
  refine Ms rfl ?_
  refine L1 (ln und24 rfl) ?_
  refine Mi rfl ?_
  refine nt ?_
  refine wp_block ?_
  refine loop_fr (fun k f w' => f 0 = .pointer (some ⟨hb, o, none⟩) ∧ f 1 = .slice (some ⟨lb, lo, none⟩) L.length lcap ∧ f 5 = .pointer (some ⟨X1, 0, none⟩) ∧ f 42 = .slice (some ⟨lb, lo, none⟩) L.length lcap ∧ f 43 = .int .i64 (L.length : Int) ∧ ∃ i : Nat, f 44 = .int .i64 (i : Int) ∧ f 6 = .int .i64 ((mn (L.take i) : Nat) : Int) ∧ f 7 = .int .i64 ((mx (L.take i) : Nat) : Int) ∧ i ≤ L.length ∧ k = L.length - i ∧ Bk w' hb nb tb (gz gx o) ∧ Bk w' X1 16 128 (fun k => .int .i64 ((cg L i k : Nat) : Int)) ∧ Kp [hb] w w') L.length ⟨rfl, rfl, rfl, rfl, rfl, 0, rfl, rfl, rfl, Nat.zero_le _, rfl, hB, hbX1.congr (fun k _ => by simp [cg, cnt]), kp⟩ ?_
  clear hB hbX1 kp hsX1
  intro k f w3 HJ
  obtain ⟨s0, s1, s5, s42, s43, i, s44, s6, s7, hi, rfl, hB, hbX1, kp⟩ := HJ
  refine slots (fc s0 (fc s1 (fc s5 (fc s6 (fc s7 (fc s42 (fc s43 (fc s44 fnil)))))))) ?_
  refine sqr ?_
  refine L1 (bi rfl rfl (bn_lss (v := decide (i < L.length)) (decide_eq_decide.2 (by omega)))) ?_
  refine nt ?_
  refine wp_seq ?_
  refine cond_d (p := i < L.length) rfl (fun hlt => ?_) (fun hlt => ?_)
  ·skip
   have hcell := lens_at hL hlb kp i hlt
   have hn15 := h15 i
   have htk := take_app L hlt
   have hmn1 := mn_app (L.take i) (L.getD i 0)
   have hmx1 := mx_app (L.take i) (L.getD i 0)
   rw [← htk] at hmn1 hmx1
   have hcs := cg_succ L hlt
   obtain ⟨n, hn⟩ : ∃ n, L.getD i 0 = n := ⟨_, rfl⟩
   rw [hn] at hcell hn15 hmn1 hmx1 hcs
   refine skn ?_
   refine wp_seq ?_
   refine wp_block ?_
   refine sqr ?_
   refine L1 (ix und24 sz3 rfl rfl rfl hlt) ?_
   refine L1 (ld3 (v := .int .i64 ((n : Nat) : Int)) rfl hcell) ?_
   refine Ai rfl ?_
   refine nt ?_
   refine wp_seq ?_
   refine sqr ?_
   refine Mi rfl ?_
   refine L1 (bi rfl rfl (bn_eql (v := decide (n = 0)) (decide_eq_decide.2 (by omega)))) ?_
   refine nt ?_
   refine cond_d (p := n = 0) rfl (fun hz => ?_) (fun hz => ?_)
   ·skip
    refine wp_exit ?_
    refine then_e ?_
    refine inb_same ?_
    refine then_n ?_
    refine reg_lit ?_
    refine L1 (bi rfl rfl (bn_add rfl (by omega) (by omega))) ?_
    refine Mi rfl ?_
    refine nt ?_
    refine ⟨L.length - (i + 1), _, by omega, rfl, rfl, rfl, rfl, rfl, rfl, i + 1, rfl, ?_, ?_, by omega, rfl, hB, ?_, kp⟩
    ·rw [hmn1, if_pos hz]; rfl
    ·rw [hmx1, hz, Nat.max_zero]; rfl
    ·exact hbX1.congr fun k _ => by rw [hcs, if_neg (fun h => h.1 hz)]
   ·skip
    rw [if_neg hz] at hmn1
    refine skn ?_
    refine seq_cut (N := 317) (fun f w' => w3 = w' ∧ f 0 = .pointer (some ⟨hb, o, none⟩) ∧ f 1 = .slice (some ⟨lb, lo, none⟩) L.length lcap ∧ f 5 = .pointer (some ⟨X1, 0, none⟩) ∧ f 9 = .int .i64 ((n : Nat) : Int) ∧ f 42 = .slice (some ⟨lb, lo, none⟩) L.length lcap ∧ f 43 = .int .i64 (L.length : Int) ∧ f 44 = .int .i64 (i : Int) ∧ f 6 = .int .i64 ((mn (L.take (i + 1)) : Nat) : Int) ∧ f 7 = .int .i64 ((mx (L.take i) : Nat) : Int)) ?_ ?_
    ·skip
     by_cases hm0 : mn (L.take i) = 0
     ·skip
      refine sqr ?_
      refine Mi rfl ?_
      refine L1 (bi rfl rfl (bn_eql (v := true) (decide_eq_true (by omega)))) ?_
      refine Mb rfl ?_
      refine Lskip (t := 52) (b := false) rfl (by decide) rfl ?_
      refine Lskip (t := 52) (b := false) rfl (by decide) rfl ?_
      refine Lskip (t := 52) (b := false) rfl (by decide) rfl ?_
      refine L1 (pk_t rfl rfl) ?_
      refine nt ?_
      refine cond_t rfl ?_
      refine reg_lit ?_
      refine Mi rfl ?_
      refine Ai rfl ?_
      refine nt ?_
      exact ⟨_, rfl, rfl, rfl, rfl, rfl, rfl, rfl, rfl, rfl, by rw [hmn1, if_pos hm0]; rfl, rfl⟩
     ·skip
      refine sqr ?_
      refine Mi rfl ?_
      refine L1 (bi rfl rfl (bn_eql (v := false) (decide_eq_false (by omega)))) ?_
      refine Mb rfl ?_
      refine L1g (t := 52) (b := false) rfl (by decide) rfl (mv (v := .int _ _) rfl) ?_
      refine L1g (t := 52) (b := false) rfl (by decide) rfl (mv (v := .int _ _) rfl) ?_
      refine L1g (t := 52) (b := false) rfl (by decide) rfl (bi rfl rfl (bn_lss (v := decide (n < mn (L.take i))) (decide_eq_decide.2 (by omega)))) ?_
      refine L1 (pk_f rfl rfl) ?_
      refine nt ?_
      refine cond_d (p := n < mn (L.take i)) rfl (fun hl => ?_) (fun hl => ?_)
      ·skip
       refine reg_lit ?_
       refine Mi rfl ?_
       refine Ai rfl ?_
       refine nt ?_
       exact ⟨_, rfl, rfl, rfl, rfl, rfl, rfl, rfl, rfl, rfl, by rw [hmn1, if_neg hm0, Nat.min_eq_left (by omega)]; rfl, rfl⟩
      ·skip
       refine skn ?_
       exact ⟨_, rfl, rfl, rfl, rfl, rfl, rfl, rfl, rfl, rfl, by rw [hmn1, if_neg hm0, Nat.min_eq_right (by omega)]; rfl, rfl⟩
    ·skip
     rintro f _ ⟨rfl, s0, s1, s5, s9, s42, s43, s44, s6, s7⟩
     refine slots (fc s0 (fc s1 (fc s5 (fc s6 (fc s7 (fc s9 (fc s42 (fc s43 (fc s44 fnil))))))))) ?_
     refine seq_cut (N := 317) (fun f w' => w3 = w' ∧ f 0 = .pointer (some ⟨hb, o, none⟩) ∧ f 1 = .slice (some ⟨lb, lo, none⟩) L.length lcap ∧ f 5 = .pointer (some ⟨X1, 0, none⟩) ∧ f 9 = .int .i64 ((n : Nat) : Int) ∧ f 42 = .slice (some ⟨lb, lo, none⟩) L.length lcap ∧ f 43 = .int .i64 (L.length : Int) ∧ f 44 = .int .i64 (i : Int) ∧ f 6 = .int .i64 ((mn (L.take (i + 1)) : Nat) : Int) ∧ f 7 = .int .i64 ((mx (L.take (i + 1)) : Nat) : Int)) ?_ ?_
     ·skip
      refine sqr ?_
      refine Mi rfl ?_
      refine Mi rfl ?_
      refine L1 (bi rfl rfl (bn_gtr (v := decide (mx (L.take i) < n)) (decide_eq_decide.2 (by omega)))) ?_
      refine nt ?_
      refine cond_d (p := mx (L.take i) < n) rfl (fun hl => ?_) (fun hl => ?_)
      ·skip
       refine reg_lit ?_
       refine Mi rfl ?_
       refine Ai rfl ?_
       refine nt ?_
       exact ⟨_, rfl, rfl, rfl, rfl, rfl, rfl, rfl, rfl, rfl, rfl, by rw [hmx1, Nat.max_eq_right (by omega)]; rfl⟩
      ·skip
       refine skn ?_
       exact ⟨_, rfl, rfl, rfl, rfl, rfl, rfl, rfl, rfl, rfl, rfl, by rw [hmx1, Nat.max_eq_left (by omega)]; rfl⟩
     ·skip
      rintro f _ ⟨rfl, s0, s1, s5, s9, s42, s43, s44, s6, s7⟩
      refine slots (fc s0 (fc s1 (fc s5 (fc s6 (fc s7 (fc s9 (fc s42 (fc s43 (fc s44 fnil))))))))) ?_
      have hcb : cg L i n ≤ 500 := Nat.le_trans (by unfold cg; split; omega; exact Nat.le_trans (cnt_le _ _) (by rw [List.length_take]; exact Nat.min_le_right _ _)) hlen
      refine reg_lit ?_
      refine Mi rfl ?_
      refine L1 (ixA und128 sz3 rfl rfl (j := n) rfl (by omega)) ?_
      refine L1 (ld3 (v := .int .i64 ((cg L i n : Nat) : Int)) rfl (hbX1.cellv (by omega) (by rw [Nat.zero_add]))) ?_
      refine L1 (bi rfl rfl (bn_add (c := ((cg L i n + 1 : Nat) : Int)) (by omega) (by omega) (by omega))) ?_
      refine L1 (ixA und128 sz3 rfl rfl (j := n) rfl (by omega)) ?_
      refine Lst3 (v := .int .i64 ((cg L i n + 1 : Nat) : Int)) rfl rfl rfl hbX1 (by omega) ?_
      intro w4 hbX1 kp1
      have hB := hB.kp kp1 (by simp; omega)
      have kp := kp.transNew kp1 (by simp; omega)
      refine wpList_nil ?_
      refine inb_n ?_
      refine then_n ?_
      refine reg_lit ?_
      refine L1 (bi rfl rfl (bn_add rfl (by omega) (by omega))) ?_
      refine Mi rfl ?_
      refine nt ?_
      refine ⟨L.length - (i + 1), _, by omega, rfl, rfl, rfl, rfl, rfl, rfl, i + 1, rfl, ?_, ?_, by omega, rfl, hB, ?_, kp⟩
      ·rfl
      ·rfl
      ·exact hbX1.congr fun k _ => by rw [hcs]; unfold upd; by_cases hk : k = n <;> simp [hk, hz]
  ·skip
   obtain rfl : i = L.length := by omega
   rw [List.take_length]
   refine wp_exit ?_
   refine then_e ?_
   refine then_e ?_
   refine inb_same ?_
   refine then_n ?_
   refine wp_seq ?_
   refine sqr ?_
   refine Mi rfl ?_
   refine L1 (bi rfl rfl (bn_eql (v := decide (mx L = 0)) (decide_eq_decide.2 (by omega)))) ?_
   refine nt ?_
   refine cond_d (p := mx L = 0) rfl (fun hm0 => ?_) (fun hm0 => ?_)
   ·skip
    refine sqr ?_
    refine Ab rfl ?_
    refine nt ?_
    refine wp_ret ?_
    refine then_r ?_
    refine ret1 rfl rfl ?_
    refine ⟨_, rfl, ?_, gz gx o, hB, gz_out gx o, kp, gz_hz gx o, fun _ E _ => ?_⟩
    ·show Value.bool true = Value.bool (okL L); unfold okL; simp [hm0]
    ·exact htab_zero hm0 E
   ·skip
    have hmn0 := mn_pos hm0
    have hmnx := mn_mx L
    refine skn ?_
    refine sqr ?_
    refine Ai rfl ?_
    refine nt ?_
    refine sqr ?_
    refine Lal128 ?_
    intro X2 w2 hX2 hbX2 kp1 hsX2
    have hszX2 := kp.size
    have hX1lt := hbX1.lt
    have hbX1 := hbX1.kp kp1 (by simp)
    have hBltX2 := hB.lt
    have hB := hB.kp kp1 (by simp)
    have kp := kp.trans (kp1.mono (by simp))
    refine nt ?_
    refine wp_seq ?_
    refine sqr ?_
    refine Mi rfl ?_
    refine Ai rfl ?_
    refine nt ?_
    refine wp_block ?_
    refine loop_fr (fun k f w' => f 0 = .pointer (some ⟨hb, o, none⟩) ∧ f 1 = .slice (some ⟨lb, lo, none⟩) L.length lcap ∧ f 5 = .pointer (some ⟨X1, 0, none⟩) ∧ f 6 = .int .i64 ((mn L : Nat) : Int) ∧ f 7 = .int .i64 ((mx L : Nat) : Int) ∧ f 11 = .pointer (some ⟨X2, 0, none⟩) ∧ ∃ i cd : Nat, f 12 = .int .i64 (i : Int) ∧ f 10 = .int .i64 (cd : Int) ∧ mn L ≤ i ∧ i ≤ mx L + 1 ∧ 2 * cd = nc L i ∧ k = mx L + 1 - i ∧ Bk w' hb nb tb (gz gx o) ∧ Bk w' X1 16 128 (fun k => .int .i64 ((cg L L.length k : Nat) : Int)) ∧ Bk w' X2 16 128 (fun k => .int .i64 ((if k < i then nc L k else 0 : Nat) : Int)) ∧ Kp [hb] w w') (mx L + 1 - mn L) ⟨rfl, rfl, rfl, rfl, rfl, rfl, mn L, 0, rfl, rfl, Nat.le_refl _, by omega, (nc_low L _ (Nat.le_refl _)).symm, rfl, hB, hbX1, hbX2.congr (fun k _ => by split; rw [nc_low L k (by omega)]; rfl; rfl), kp⟩ ?_
    clear hB hbX1 hbX2 kp hsX2
    intro k f w5 HJ
    obtain ⟨s0, s1, s5, s6, s7, s11, i, cd, s12, s10, hi1, hi2, hcd, rfl, hB, hbX1, hbX2, kp⟩ := HJ
    refine slots (fc s0 (fc s1 (fc s5 (fc s6 (fc s7 (fc s10 (fc s11 (fc s12 fnil)))))))) ?_
    have hncs := nc_small hlen (n := i) (by omega)
    refine wp_seq ?_
    refine sqr ?_
    refine Mi rfl ?_
    refine Mi rfl ?_
    refine L1 (bi rfl rfl (bn_leq (v := decide (i ≤ mx L)) (decide_eq_decide.2 (by omega)))) ?_
    refine nt ?_
    refine cond_d (p := i ≤ mx L) rfl (fun hlt => ?_) (fun hlt => ?_)
    ·skip
     have hci : cg L L.length i = cnt L i := by unfold cg; rw [if_neg (by omega), List.take_length]
     have hcl := cnt_le L i
     have hns := nc_succ L (n := i) (by omega)
     refine skn ?_
     refine wp_seq ?_
     refine wp_block ?_
     refine sqr ?_
     refine Mi rfl ?_
     refine L1 (bi rfl rfl (bn_shl64 (x := cd) (n := 1) rfl rfl (by omega) (by omega))) ?_
     refine Ai rfl ?_
     refine nt ?_
     refine sqr ?_
     refine Mi rfl ?_
     refine Mi rfl ?_
     refine L1 (ixA und128 sz3 rfl rfl (j := i) rfl (by omega)) ?_
     refine Lst3 (v := .int .i64 ((nc L i : Nat) : Int)) rfl (congrArg (Value.int .i64) (by omega)) rfl hbX2 (by omega) ?_
     intro w6 hbX2 kp1
     have hB := hB.kp kp1 (by simp; omega)
     have hbX1 := hbX1.kp kp1 (by simp; omega)
     have kp := kp.transNew kp1 (by simp; omega)
     refine nt ?_
     refine reg_lit ?_
     refine Mi rfl ?_
     refine Mi rfl ?_
     refine L1 (ixA und128 sz3 rfl rfl (j := i) rfl (by omega)) ?_
     refine L1 (ld3 (v := .int .i64 ((cnt L i : Nat) : Int)) rfl (hbX1.cellv (by omega) (by rw [Nat.zero_add, hci]))) ?_
     refine L1 (bi rfl rfl (bn_add (c := ((nc L i + cnt L i : Nat) : Int)) (by omega) (by omega) (by omega))) ?_
     refine Ai rfl ?_
     refine wpList_nil ?_
     refine inb_n ?_
     refine then_n ?_
     refine reg_lit ?_
     refine Mi rfl ?_
     refine L1 (bi rfl rfl (bn_add (c := ((i + 1 : Nat) : Int)) (by omega) (by omega) (by omega))) ?_
     refine Ai rfl ?_
     refine nt ?_
     refine ⟨mx L + 1 - (i + 1), _, by omega, rfl, rfl, rfl, rfl, rfl, rfl, rfl, i + 1, nc L i + cnt L i, rfl, rfl, by omega, by omega, hns.symm, rfl, hB, hbX1, hbX2.congr (fun k _ => ?_), kp⟩
     unfold upd
     rw [Nat.zero_add]
     show (if k = i then Value.int .i64 ((nc L i : Nat) : Int) else Value.int .i64 ((if k < i then nc L k else 0 : Nat) : Int)) = Value.int .i64 ((if k < i + 1 then nc L k else 0 : Nat) : Int)
     by_cases hk : k = i
     ·subst hk; rw [if_pos rfl, if_pos (by omega)]
     ·rw [if_neg hk]; by_cases hk2 : k < i
      ·rw [if_pos hk2, if_pos (by omega)]
      ·rw [if_neg hk2, if_neg (by omega)]
    ·skip
     obtain rfl : i = mx L + 1 := by omega
     have hcode : cd = nc L (mx L) + cnt L (mx L) := by have := nc_succ L (n := mx L) (by omega); omega
     clear hcd
     refine wp_exit ?_
     refine then_e ?_
     refine then_e ?_
     refine inb_same ?_
     refine then_n ?_
     refine seq_cut (N := 317) (fun f w' => w5 = w' ∧ f 0 = .pointer (some ⟨hb, o, none⟩) ∧ f 1 = .slice (some ⟨lb, lo, none⟩) L.length lcap ∧ f 6 = .int .i64 ((mn L : Nat) : Int) ∧ f 7 = .int .i64 ((mx L : Nat) : Int) ∧ f 11 = .pointer (some ⟨X2, 0, none⟩) ∧ okL L = true) ?_ ?_
     ·skip
      have h2m : 2 ^ mx L ≤ 2 ^ 15 := Nat.pow_le_pow_right (by decide) hmx
      have h215 : (2 : Nat) ^ 15 = 32768 := rfl
      have hncm := nc_small hlen (n := mx L) (by omega)
      have hcl := cnt_le L (mx L)
      by_cases hfull : cd = 2 ^ mx L
      ·skip
       have hok : okL L = true := by unfold okL; simp [hm0, ← hcode, hfull]
       refine sqr ?_
       refine Mi rfl ?_
       refine Mi rfl ?_
       refine L1 (cv3_38 rfl (wrap_u64n _ (by omega) (by omega))) ?_
       refine L1 (bi rfl rfl (bn_shl64 (x := 1) (n := mx L) rfl rfl (by omega) (by omega))) ?_
       refine L1 (bi rfl rfl (bn_neq (v := false) (decide_eq_true (by omega)))) ?_
       refine Mb rfl ?_
       refine Lskip (t := 91) (b := true) rfl (by decide) rfl ?_
       refine Lskip (t := 91) (b := true) rfl (by decide) rfl ?_
       refine Lskip (t := 91) (b := true) rfl (by decide) rfl ?_
       refine LskipU (t := 94) rfl (by decide) rfl ?_
       refine LskipU (t := 94) rfl (by decide) rfl ?_
       refine Lskip (t := 91) (b := true) rfl (by decide) rfl ?_
       refine Lskip (t := 91) (b := true) rfl (by decide) rfl ?_
       refine L1 (pk_f rfl rfl) ?_
       refine nt ?_
       refine cond_f rfl ?_
       refine skn ?_
       exact ⟨_, rfl, rfl, rfl, rfl, rfl, rfl, rfl, hok⟩
      ·skip
       by_cases hone : cd = 1
       ·skip
        by_cases hm1 : mx L = 1
        ·skip
         have hok : okL L = true := by
          have hc1 : cnt L 1 = 1 := by rw [hm1] at hcode; have h0 : nc L 1 = 0 := (by simp [nc]); omega
          unfold okL; simp [hm1, hc1]
         refine sqr ?_
         refine Mi rfl ?_
         refine Mi rfl ?_
         refine L1 (cv3_38 rfl (wrap_u64n _ (by omega) (by omega))) ?_
         refine L1 (bi rfl rfl (bn_shl64 (x := 1) (n := mx L) rfl rfl (by omega) (by omega))) ?_
         refine L1 (bi rfl rfl (bn_neq (v := true) (decide_eq_false (by omega)))) ?_
         refine Mb rfl ?_
         refine L1g (t := 91) (b := true) rfl (by decide) rfl (mv (v := .int _ _) rfl) ?_
         refine L1g (t := 91) (b := true) rfl (by decide) rfl (bi rfl rfl (bn_eql (v := true) (decide_eq_true (by omega)))) ?_
         refine L1g (t := 91) (b := true) rfl (by decide) rfl (mv (v := .bool _) rfl) ?_
         refine L1g (t := 94) (b := true) rfl (by decide) rfl (mv (v := .int _ _) rfl) ?_
         refine L1g (t := 94) (b := true) rfl (by decide) rfl (bi rfl rfl (bn_eql (v := true) (decide_eq_true (by omega)))) ?_
         refine L1g (t := 91) (b := true) rfl (by decide) rfl (pk_t rfl rfl) ?_
         refine L1g (t := 91) (b := true) rfl (by decide) rfl (un_not rfl) ?_
         refine L1 (pk_t rfl rfl) ?_
         refine nt ?_
         refine cond_f rfl ?_
         refine skn ?_
         exact ⟨_, rfl, rfl, rfl, rfl, rfl, rfl, rfl, hok⟩
        ·skip
         have hno : okL L = false := by unfold okL; simp [hm0, hm1, ← hcode]; exact hfull
         refine sqr ?_
         refine Mi rfl ?_
         refine Mi rfl ?_
         refine L1 (cv3_38 rfl (wrap_u64n _ (by omega) (by omega))) ?_
         refine L1 (bi rfl rfl (bn_shl64 (x := 1) (n := mx L) rfl rfl (by omega) (by omega))) ?_
         refine L1 (bi rfl rfl (bn_neq (v := true) (decide_eq_false (by omega)))) ?_
         refine Mb rfl ?_
         refine L1g (t := 91) (b := true) rfl (by decide) rfl (mv (v := .int _ _) rfl) ?_
         refine L1g (t := 91) (b := true) rfl (by decide) rfl (bi rfl rfl (bn_eql (v := true) (decide_eq_true (by omega)))) ?_
         refine L1g (t := 91) (b := true) rfl (by decide) rfl (mv (v := .bool _) rfl) ?_
         refine L1g (t := 94) (b := true) rfl (by decide) rfl (mv (v := .int _ _) rfl) ?_
         refine L1g (t := 94) (b := true) rfl (by decide) rfl (bi rfl rfl (bn_eql (v := false) (decide_eq_false (by omega)))) ?_
         refine L1g (t := 91) (b := true) rfl (by decide) rfl (pk_t rfl rfl) ?_
         refine L1g (t := 91) (b := true) rfl (by decide) rfl (un_not rfl) ?_
         refine L1 (pk_t rfl rfl) ?_
         refine nt ?_
         refine cond_t rfl ?_
         refine sqr ?_
         refine Ab rfl ?_
         refine nt ?_
         refine wp_ret ?_
         refine then_r ?_
         refine ret1 rfl rfl ?_
         refine ⟨_, rfl, (show Value.bool false = Value.bool (okL L) by rw [hno]), gz gx o, hB, gz_out gx o, kp, gz_hz gx o, fun h => ?_⟩
         rw [hno] at h
         cases h
       ·skip
        have hno : okL L = false := by
         unfold okL
         simp [hm0, ← hcode, hfull]
         intro hm1 hc1
         apply hone
         rw [hcode, hm1, hc1]
         simp [nc]
        refine sqr ?_
        refine Mi rfl ?_
        refine Mi rfl ?_
        refine L1 (cv3_38 rfl (wrap_u64n _ (by omega) (by omega))) ?_
        refine L1 (bi rfl rfl (bn_shl64 (x := 1) (n := mx L) rfl rfl (by omega) (by omega))) ?_
        refine L1 (bi rfl rfl (bn_neq (v := true) (decide_eq_false (by omega)))) ?_
        refine Mb rfl ?_
        refine L1g (t := 91) (b := true) rfl (by decide) rfl (mv (v := .int _ _) rfl) ?_
        refine L1g (t := 91) (b := true) rfl (by decide) rfl (bi rfl rfl (bn_eql (v := false) (decide_eq_false (by omega)))) ?_
        refine L1g (t := 91) (b := true) rfl (by decide) rfl (mv (v := .bool _) rfl) ?_
        refine Lskip (t := 94) (b := true) rfl (by decide) rfl ?_
        refine Lskip (t := 94) (b := true) rfl (by decide) rfl ?_
        refine L1g (t := 91) (b := true) rfl (by decide) rfl (pk_f rfl rfl) ?_
        refine L1g (t := 91) (b := true) rfl (by decide) rfl (un_not rfl) ?_
        refine L1 (pk_t rfl rfl) ?_
        refine nt ?_
        refine cond_t rfl ?_
        refine sqr ?_
        refine Ab rfl ?_
        refine nt ?_
        refine wp_ret ?_
        refine then_r ?_
        refine ret1 rfl rfl ?_
        refine ⟨_, rfl, (show Value.bool false = Value.bool (okL L) by rw [hno]), gz gx o, hB, gz_out gx o, kp, gz_hz gx o, fun h => ?_⟩
        rw [hno] at h
        cases h
     ·skip
      rintro f _ ⟨rfl, s0, s1, s6, s7, s11, hok⟩
      refine slots (fc s0 (fc s1 (fc s6 (fc s7 (fc s11 fnil))))) ?_
      have hF := okL_fit hok hmx hm0
      refine sqr ?_
      refine Mp rfl ?_
      refine Mi rfl ?_
      refine Np rfl ?_
      refine L1 (fb86_0 rfl) ?_
      refine Lst3 (v := .int .i64 ((mn L : Nat) : Int)) rfl rfl rfl hB (by omega) ?_
      intro w6 hB kp1
      have hbX2 := hbX2.kp kp1 (by simp; omega)
      have kp := kp.trans kp1
      refine nt ?_
      have hB := hB.congr (fun j _ => gtab_start j)
      have hbX2 : Bk w6 X2 16 128 (fun k => .int .i64 ((nxc L 0 k : Nat) : Int)) := hbX2.congr (fun k _ => by show Value.int .i64 ((if k < mx L + 1 then nc L k else 0 : Nat) : Int) = _; rw [nx_start])
      have hX2lt := hbX2.lt
      have hll := lnk_le hF
      have hnl := nl_pos L
      have hnl2 := nl_le hF
      refine seq_cut (N := 317) (fun f w' => f 0 = .pointer (some ⟨hb, o, none⟩) ∧ f 1 = .slice (some ⟨lb, lo, none⟩) L.length lcap ∧ f 11 = .pointer (some ⟨X2, 0, none⟩) ∧ ∃ LO, IT w w' hb nb tb o gx L X2 LO 0) ?_ ?_
      ·skip
       refine sqr ?_
       refine Mi rfl ?_
       refine L1 (bi rfl rfl (bn_gtr (v := decide (9 < mx L)) (decide_eq_decide.2 (by omega)))) ?_
       refine nt ?_
       refine cond_d (p := 9 < mx L) rfl (fun h9 => ?_) (fun h9 => ?_)
       ·skip
        have hlnk : nc L 10 / 2 ^ 1 = lnk L := by unfold lnk; rw [if_neg (by omega), nc_succ L (n := 9) (by omega)]; omega
        have hnc10 := nc_small hlen (n := 10) (by omega)
        refine sqr ?_
        refine Mi rfl ?_
        refine L1 (cv3_38 rfl (wrap_u64n _ (by omega) (by omega))) ?_
        refine L1 (bi rfl rfl (bn_subu (c := ((mx L - 9 : Nat) : Int)) (by omega) (by omega) (by omega))) ?_
        refine L1 (bi rfl rfl (bn_shl64 (x := 1) (n := mx L - 9) rfl rfl (by omega) (by show 1 * nl L < _; omega))) ?_
        refine L1 (asg (v := .int .i64 ((nl L : Nat) : Int)) (by show Value.int .i64 ((1 * 2 ^ (mx L - 9) : Nat) : Int) = _; unfold nl; rw [Nat.one_mul])) ?_
        refine nt ?_
        refine sqr ?_
        refine Mp rfl ?_
        refine Mi rfl ?_
        refine L1 (bi rfl rfl (bn_sub (c := ((nl L - 1 : Nat) : Int)) (by omega) (by omega) (by omega))) ?_
        refine L1 (cv3_82 rfl (wrap_u32n _ (by omega) (by omega))) ?_
        refine Np rfl ?_
        refine L1 (fb86_3 rfl) ?_
        refine Lst82 (v := .int .u32 ((nl L - 1 : Nat) : Int)) rfl rfl rfl hB (by omega) ?_
        intro w7 hB kp1
        have hB := hB.congr (fun j _ => gtab_setmask j)
        have hbX2 := hbX2.kp kp1 (by simp; omega)
        have kp := kp.trans kp1
        refine nt ?_
        refine sqr ?_
        refine L1 (ixA und128 sz3 rfl rfl (j := 10) rfl (by decide)) ?_
        refine L1 (ld3 (v := .int .i64 ((nc L 10 : Nat) : Int)) rfl (hbX2.cellv (by decide) (by show Value.int .i64 ((nxc L 0 10 : Nat) : Int) = _; rw [nx_start, if_pos (by omega)]))) ?_
        refine L1 (bi rfl rfl (bn_shr (x := nc L 10) (n := 1) rfl rfl (by decide))) ?_
        refine L1 (asg (v := .int .i64 ((lnk L : Nat) : Int)) (by show Value.int .i64 ((nc L 10 / 2 ^ 1 : Nat) : Int) = _; rw [hlnk])) ?_
        refine nt ?_
        refine sqr ?_
        refine Mp rfl ?_
        refine Mi rfl ?_
        refine L1 (bi rfl rfl (bn_sub (c := ((512 - lnk L : Nat) : Int)) (by omega) (by omega) (by omega))) ?_
        refine Lmk84 (n := 512 - lnk L) rfl rfl (by omega) ?_
        intro LO w8 hLO hbLO kp1 hsLO
        have hB := hB.kp kp1 (by simp)
        have hX2lt := hbX2.lt
        have hbX2 := hbX2.kp kp1 (by simp)
        have hkps := kp.size
        have kp := kp.trans (kp1.mono (by simp))
        refine Np rfl ?_
        refine L1 (fb86_2 rfl) ?_
        refine Lst_anyS 84 sz84 (v := .slice (some ⟨LO, 0, none⟩) (512 - lnk L) (512 - lnk L)) rfl rfl rfl hB (by omega) ?_
        intro w9 hB kp1 hs9
        have hB := hB.congr (fun j _ => gtab_setla j)
        have hbX2 := hbX2.kp kp1 (by simp; omega)
        have hbLO := hbLO.kp kp1 (by simp; omega)
        have hk9 : w9.heap.size = LO + 1 := by omega
        have kp := kp.trans kp1
        refine nt ?_
        refine sqr ?_
        refine Mi rfl ?_
        refine L1 (cv3_38 rfl (wrap_u64n _ (by omega) (by omega))) ?_
        refine Ai rfl ?_
        refine nt ?_
        refine wp_block ?_
        refine loop_fr (fun k f w' => f 0 = .pointer (some ⟨hb, o, none⟩) ∧ f 1 = .slice (some ⟨lb, lo, none⟩) L.length lcap ∧ f 11 = .pointer (some ⟨X2, 0, none⟩) ∧ f 13 = .int .i64 ((nl L : Nat) : Int) ∧ f 14 = .int .i64 ((lnk L : Nat) : Int) ∧ ∃ j, f 15 = .int .u64 ((j : Nat) : Int) ∧ lnk L ≤ j ∧ j ≤ 512 ∧ k = 512 - j ∧ Bk w' hb nb tb (gtab gx o (mn L) (chl L j) (.slice (some ⟨LO, 0, none⟩) (512 - lnk L) (512 - lnk L)) (nl L - 1)) ∧ Bk w' X2 16 128 (fun k => .int .i64 ((nxc L 0 k : Nat) : Int)) ∧ Bk w' LO (512 - lnk L) 130 (fun k => if k < j - lnk L then .slice (some ⟨LO + 1 + k, 0, none⟩) (nl L) (nl L) else .slice none 0 0) ∧ (∀ k, k < j - lnk L → Bk w' (LO + 1 + k) (nl L) 82 (fun _ => .int .u32 0)) ∧ w'.heap.size = LO + 1 + (j - lnk L) ∧ Kp [hb] w w') (512 - lnk L) ⟨rfl, rfl, rfl, rfl, rfl, lnk L, rfl, Nat.le_refl _, hll, rfl, hB.congr (fun j _ => gtab_congr (fun x _ => (chl_start x).symm) j), hbX2, hbLO.congr (fun k _ => by rw [if_neg (by omega)]), fun k hk => absurd hk (by omega), by omega, kp⟩ ?_
        clear hB hbX2 hbLO kp hk9 hsLO
        intro k f w10 HJ
        obtain ⟨s0, s1, s11, s13, s14, j, s15, hj1, hj2, rfl, hB, hbX2, hbLO, hfi, hsz, kp⟩ := HJ
        refine slots (fc s0 (fc s1 (fc s11 (fc s13 (fc s14 (fc s15 fnil)))))) ?_
        have hr16 := rvb 16 j
        have hr9 := rvb 9 j
        have h216 : (2 : Nat) ^ 16 = 65536 := rfl
        have h29 : (2 : Nat) ^ 9 = 512 := rfl
        have hr97 : rev 16 j / 2 ^ 7 = rev 9 j := rv_div (n := 9) (k := 16) j (by omega)
        refine wp_seq ?_
        refine sqr ?_
        refine Mi rfl ?_
        refine L1 (bi rfl rfl (bn_lss (v := decide (j < 512)) (decide_eq_decide.2 (by omega)))) ?_
        refine nt ?_
        refine cond_d (p := j < 512) rfl (fun hlt => ?_) (fun hlt => ?_)
        ·skip
         refine skn ?_
         refine wp_seq ?_
         refine wp_block ?_
         refine sqr ?_
         refine Mi rfl ?_
         refine L1 (cv38_37 rfl (wrap_u16n _ (by omega) (by omega))) ?_
         refine LC (cl1 has65 rfl rfl) (reverse16_c _ j (by omega)) ?_
         rintro v w1 ⟨rfl, rfl⟩
         have hB := hB.drew
         have hbX2 := hbX2.drew
         have hbLO := hbLO.drew
         have hfi := fun k hk => (hfi k hk).drew
         have kp := kp.drew
         have hsz : w10.drew.heap.size = LO + 1 + (j - lnk L) := hsz
         refine L1 (cv37_3 rfl (wrap_s64 _ (by omega) (by omega))) ?_
         refine Ai rfl ?_
         refine nt ?_
         refine sqr ?_
         refine Mi rfl ?_
         refine L1 (bi rfl rfl (bn_shr (x := rev 16 j) (n := 7) rfl rfl (by decide))) ?_
         refine L1 (asg (v := .int .i64 ((rev 9 j : Nat) : Int)) (by show Value.int .i64 ((rev 16 j / 2 ^ 7 : Nat) : Int) = _; rw [hr97])) ?_
         refine nt ?_
         refine sqr ?_
         refine Mi rfl ?_
         refine Mi rfl ?_
         refine L1 (cv3_38 rfl (wrap_u64n _ (by omega) (by omega))) ?_
         refine L1 (bi rfl rfl (bn_subu (c := ((j - lnk L : Nat) : Int)) (by omega) (by omega) (by omega))) ?_
         refine Ai rfl ?_
         refine nt ?_
         refine wp_seq ?_
         refine sqr ?_
         refine Mb rfl ?_
         refine Lskip (t := 141) (b := true) rfl (by decide) rfl ?_
         refine Lskip (t := 141) (b := true) rfl (by decide) rfl ?_
         refine Lskip (t := 141) (b := true) rfl (by decide) rfl ?_
         refine Lskip (t := 141) (b := true) rfl (by decide) rfl ?_
         refine Lskip (t := 141) (b := true) rfl (by decide) rfl ?_
         refine Lskip (t := 141) (b := true) rfl (by decide) rfl ?_
         refine Lskip (t := 141) (b := true) rfl (by decide) rfl ?_
         refine L1 (pk_f rfl rfl) ?_
         refine nt ?_
         refine cond_f rfl ?_
         refine skn ?_
         refine sqr ?_
         refine Mp rfl ?_
         refine Mi rfl ?_
         refine Mi rfl ?_
         refine L1 (bi rfl rfl (bn_shl (K := .u64) (x := j - lnk L) (n := 4) rfl rfl (by decide) (wrap_u64n _ (by omega) (by omega)))) ?_
         refine L1 (bi rfl rfl (bn_oru (x := (j - lnk L) * 2 ^ 4) (y := 10) (z := (j - lnk L) * 16 + 10) rfl rfl (by omega) (by omega) (or_low16 _ (by omega)))) ?_
         refine L1 (cv38_82 rfl (wrap_u32n _ (by omega) (by omega))) ?_
         refine Np rfl ?_
         refine L1 (fb86_1 rfl) ?_
         refine L1 (ixA und83 sz82 rfl rfl (j := rev 9 j) rfl (by omega)) ?_
         refine Lst_anyS 82 sz82 (v := .int .u32 (((j - lnk L) * 16 + 10 : Nat) : Int)) rfl rfl rfl hB (by omega) ?_
         intro w11 hB kp1 hs11
         have hB := hB.congr (fun x _ => gtab_setch (x := rev 9 j) (c := (j - lnk L) * 16 + 10) (by omega) x)
         have hB := hB.congr (fun x _ => gtab_congr (fun y hy => chl_succ hy hlt hj1) x)
         have hbX2 := hbX2.kp kp1 (by simp; omega)
         have hbLO := hbLO.kp kp1 (by simp; omega)
         have hfi := fun k hk => (hfi k hk).kp kp1 (by simp; omega)
         have kp := kp.trans kp1
         have hsz : w11.heap.size = LO + 1 + (j - lnk L) := by omega
         refine nt ?_
         have hC0 : w11.drew.cell? ⟨hb, o + 513, none⟩ = some (.slice (some ⟨LO, 0, none⟩) (512 - lnk L) (512 - lnk L)) := hB.drew.cellv (by omega) gtab_la
         have hB := hB.drew
         have hbX2 := hbX2.drew
         have hbLO := hbLO.drew
         have hfi := fun k hk => (hfi k hk).drew
         have kp := kp.drew
         have hsz : w11.drew.heap.size = LO + 1 + (j - lnk L) := hsz
         refine reg_mix [false, false, false, false, false, false, true, false, true] (fun w => w.cell? ⟨hb, o + 513, none⟩ = some (.slice (some ⟨LO, 0, none⟩) (512 - lnk L) (512 - lnk L))) mixed (by kernel_rfl) ?_ ?_
         ·exact hC0
         refine T1 (fun w hC => mv (v := .pointer _) rfl) ?_
         refine T1 (fun w hC => nilP rfl) ?_
         refine T1 (fun w hC => fb86_2 rfl) ?_
         refine T1 (fun w hC => ld84 rfl hC) ?_
         refine T1 (fun w hC => mv (v := .int _ _) rfl) ?_
         refine T1 (fun w hC => mv (v := .int _ _) rfl) ?_
         refine Emk130 (n := nl L) rfl rfl (by omega) ?_
         intro IB w12 hIB hbI kp1 hsI
         obtain rfl : IB = LO + 1 + (j - lnk L) := by omega
         have hC1 := kp1.cell hC0 (by simp)
         have hB := hB.kp kp1 (by simp)
         have hbX2 := hbX2.kp kp1 (by simp)
         have hbLO := hbLO.kp kp1 (by simp)
         have hfi := fun k hk => (hfi k hk).kp kp1 (by simp)
         have kp := kp.trans (kp1.mono (by simp))
         refine ⟨hC1, ?_⟩
         refine T1 (fun w hC => ix und84 sz130 rfl rfl (j := j - lnk L) rfl (by omega)) ?_
         refine Est130 (v := .slice (some ⟨LO + 1 + (j - lnk L), 0, none⟩) (nl L) (nl L)) rfl rfl rfl hbLO (by omega) ?_
         intro w13 hbLO kp1 hs13
         have hC2 := kp1.cell hC1 (by simp; omega)
         have hB := hB.kp kp1 (by simp; omega)
         have hbX2 := hbX2.kp kp1 (by simp; omega)
         have hbI := hbI.kp kp1 (by simp; omega)
         have hfi := fun k hk => (hfi k hk).kp kp1 (by simp; omega)
         have kp := kp.transNew kp1 (by simp; omega)
         refine ⟨hC2, ?_⟩
         refine mix_nil ?_
         refine inb_n ?_
         refine then_n ?_
         refine reg_lit ?_
         refine Mi rfl ?_
         refine L1 (bi rfl rfl (bn_addu (c := ((j + 1 : Nat) : Int)) (by omega) (by omega) (by omega))) ?_
         refine Ai rfl ?_
         refine nt ?_
         refine ⟨512 - (j + 1), _, by omega, rfl, rfl, rfl, rfl, rfl, rfl, j + 1, rfl, by omega, by omega, rfl, hB, hbX2, hbLO.congr fun k _ => ?_, fun k hk => ?_, by omega, kp⟩
         ·show upd (fun k => if k < j - lnk L then Value.slice (some ⟨LO + 1 + k, 0, none⟩) (nl L) (nl L) else Value.slice none 0 0) _ _ k = _
          unfold upd
          by_cases hk : k = j - lnk L
          ·subst hk; rw [Nat.zero_add, if_pos rfl, if_pos (by omega)]
          ·rw [Nat.zero_add, if_neg hk]
           show (if k < j - lnk L then Value.slice (some ⟨LO + 1 + k, 0, none⟩) (nl L) (nl L) else Value.slice none 0 0) = _
           by_cases hk2 : k < j - lnk L
           ·rw [if_pos hk2, if_pos (by omega)]
           ·rw [if_neg hk2, if_neg (by omega)]
         ·by_cases hk2 : k < j - lnk L
          ·exact hfi k hk2
          ·obtain rfl : k = j - lnk L := by omega
           exact hbI
        ·skip
         obtain rfl : j = 512 := by omega
         refine wp_exit ?_
         refine then_e ?_
         refine then_e ?_
         refine inb_same ?_
         refine then_n ?_
         refine ⟨_, rfl, rfl, rfl, rfl, LO, hB.congr fun j _ => ?_, hbX2, fun _ => ⟨hbLO.congr fun k hk => ?_, fun k hk => (hfi k hk).congr fun y _ => by rw [lkv_start]; rfl⟩, kp, hhb, by omega, by omega⟩
         ·unfold laV mkV; rw [if_neg (by omega), if_neg (by omega)]; exact gtab_congr (fun x hx => chl_end hF hx) j
         ·rw [if_pos hk]
       ·skip
        refine skn ?_
        refine ⟨_, rfl, rfl, rfl, rfl, w6.heap.size, hB.congr fun j _ => ?_, hbX2, fun h => absurd h h9, kp, hhb, by omega, hX2lt⟩
        unfold laV mkV
        rw [if_pos (by omega), if_pos (by omega)]
        refine gtab_congr (fun x _ => ?_) j
        rw [chv_start hF, if_pos]
        unfold lnk
        rw [if_pos (by omega)]
        exact rvb 9 x
      ·skip
       clear hB hbX2 kp
       rintro f w10 ⟨s0, s1, s11, LO, hI⟩
       refine slots (fc s0 (fc s1 (fc s11 fnil))) ?_
       refine wp_seq ?_
       refine sqr ?_
       refine Ms rfl ?_
       refine L1 (ln und24 rfl) ?_
       refine Mi rfl ?_
       refine nt ?_
       refine wp_block ?_
       refine loop_fr (fun k f w' => f 0 = .pointer (some ⟨hb, o, none⟩) ∧ f 11 = .pointer (some ⟨X2, 0, none⟩) ∧ f 168 = .slice (some ⟨lb, lo, none⟩) L.length lcap ∧ f 169 = .int .i64 ((L.length : Nat) : Int) ∧ ∃ i : Nat, f 170 = .int .i64 ((i : Nat) : Int) ∧ i ≤ L.length ∧ k = L.length - i ∧ IT w w' hb nb tb o gx L X2 LO i) L.length ⟨rfl, rfl, rfl, rfl, 0, rfl, Nat.zero_le _, rfl, hI⟩ ?_
       clear hI
       intro k f w11 HJ
       obtain ⟨s0, s11, s168, s169, i, s170, hi, rfl, hI⟩ := HJ
       have hlt0 := hI.lt0
       have hlt1 := hI.lt1
       have hlt2 := hI.lt2
       refine slots (fc s0 (fc s11 (fc s168 (fc s169 (fc s170 fnil))))) ?_
       refine sqr ?_
       refine L1 (bi rfl rfl (bn_lss (v := decide (i < L.length)) (decide_eq_decide.2 (by omega)))) ?_
       refine nt ?_
       refine wp_seq ?_
       refine cond_d (p := i < L.length) rfl (fun hlt => ?_) (fun hlt => ?_)
       ·skip
        have hcell := lens_at hL hlb hI.kp i hlt
        have hn15 := h15 i
        have hlem := le_mx L i
        obtain ⟨n, hn⟩ : ∃ n, L.getD i 0 = n := ⟨_, rfl⟩
        rw [hn] at hcell hn15 hlem
        refine skn ?_
        refine wp_seq ?_
        refine wp_block ?_
        refine sqr ?_
        refine Mi rfl ?_
        refine L1 (ix und24 sz3 rfl rfl rfl hlt) ?_
        refine L1 (ld3 (v := .int .i64 ((n : Nat) : Int)) rfl hcell) ?_
        refine Ai rfl ?_
        refine Ai rfl ?_
        refine nt ?_
        refine wp_seq ?_
        refine sqr ?_
        refine Mi rfl ?_
        refine L1 (bi rfl rfl (bn_eql (v := decide (n = 0)) (decide_eq_decide.2 (by omega)))) ?_
        refine nt ?_
        refine cond_d (p := n = 0) rfl (fun hz => ?_) (fun hz => ?_)
        ·skip
         have hI := hI.skip hF hlt (by rw [hn, hz])
         refine wp_exit ?_
         refine then_e ?_
         refine inb_same ?_
         refine then_n ?_
         refine reg_lit ?_
         refine L1 (bi rfl rfl (bn_add (c := ((i + 1 : Nat) : Int)) (by omega) (by omega) (by omega))) ?_
         refine Mi rfl ?_
         refine nt ?_
         exact ⟨L.length - (i + 1), _, by omega, rfl, rfl, rfl, rfl, rfl, i + 1, rfl, by omega, rfl, hI⟩
        ·skip
         obtain ⟨hB, hbX2, hfar, kp, _, _, _⟩ := hI
         have hcod : cod L i < 2 ^ n := by have := hF.cod (s := i) (by omega); rwa [hn] at this
         have h2n : 2 ^ n ≤ 2 ^ 15 := Nat.pow_le_pow_right (by decide) hn15
         have h215 : (2 : Nat) ^ 15 = 32768 := rfl
         have hnxn := nx_cod hn hz hlem
         have hr16 := rvb 16 (cod L i)
         have h216 : (2 : Nat) ^ 16 = 65536 := rfl
         have hrd : rev 16 (cod L i) / 2 ^ (16 - n) = rev n (cod L i) := rv_div (n := n) (k := 16) (cod L i) (by omega)
         have hrb := rvb n (cod L i)
         refine skn ?_
         refine sqr ?_
         refine Mi rfl ?_
         refine L1 (ixA und128 sz3 rfl rfl (j := n) rfl (by omega)) ?_
         refine L1 (ld3 (v := .int .i64 ((cod L i : Nat) : Int)) rfl (hbX2.cellv (by omega) (by rw [Nat.zero_add, hnxn]))) ?_
         refine Ai rfl ?_
         refine nt ?_
         refine sqr ?_
         refine Mi rfl ?_
         refine L1 (ixA und128 sz3 rfl rfl (j := n) rfl (by omega)) ?_
         refine L1 (ld3 (v := .int .i64 ((cod L i : Nat) : Int)) rfl (hbX2.cellv (by omega) (by rw [Nat.zero_add, hnxn]))) ?_
         refine L1 (bi rfl rfl (bn_add (c := ((cod L i + 1 : Nat) : Int)) (by omega) (by omega) (by omega))) ?_
         refine L1 (ixA und128 sz3 rfl rfl (j := n) rfl (by omega)) ?_
         refine Lst3 (v := .int .i64 ((cod L i + 1 : Nat) : Int)) rfl rfl rfl hbX2 (by omega) ?_
         intro w12 hbX2 kp1
         have hB := hB.kp kp1 (by simp; omega)
         have hfar : (9 < mx L → Bk w12 LO (512 - lnk L) 130 (fun k => .slice (some ⟨LO + 1 + k, 0, none⟩) (nl L) (nl L)) ∧ ∀ k, k < 512 - lnk L → Bk w12 (LO + 1 + k) (nl L) 82 (fun y => .int .u32 ((lkv L i k y : Nat) : Int))) := fun h9 => ⟨(hfar h9).1.kp kp1 (by simp; omega), fun k hk => ((hfar h9).2 k hk).kp kp1 (by simp; omega)⟩
         have hbX2 : Bk w12 X2 16 128 (fun k => .int .i64 ((nxc L (i + 1) k : Nat) : Int)) := hbX2.congr fun k _ => by
          unfold upd
          rw [← nx_succ hlt hn hz hlem, hnxn, Nat.zero_add]
          by_cases hk : k = n
          ·rw [if_pos hk, if_pos hk]
          ·rw [if_neg hk, if_neg hk]
         have kp := kp.transNew kp1 (by simp; omega)
         refine nt ?_
         refine sqr ?_
         refine Mi rfl ?_
         refine L1 (bi rfl rfl (bn_shl64 (x := i) (n := 4) rfl rfl (by omega) (by omega))) ?_
         refine Mi rfl ?_
         refine L1 (bi rfl rfl (bn_orz (x := i * 2 ^ 4) (y := n) (z := i * 16 + n) rfl rfl (by omega) (by omega) (or_low16 _ (by omega)))) ?_
         refine L1 (cv3_82 rfl (wrap_u32n _ (by omega) (by omega))) ?_
         refine L1 (asg (v := .int .u32 ((16 * i + n : Nat) : Int)) (by show Value.int .u32 ((i * 16 + n : Nat) : Int) = _; rw [Nat.mul_comm])) ?_
         refine nt ?_
         refine sqr ?_
         refine Mi rfl ?_
         refine L1 (cv3_37 rfl (wrap_u16n _ (by omega) (by omega))) ?_
         refine LC (cl1 has65 rfl rfl) (reverse16_c _ (cod L i) (by omega)) ?_
         rintro v w1 ⟨rfl, rfl⟩
         have hB := hB.drew
         have hbX2 := hbX2.drew
         have hfar : (9 < mx L → Bk w12.drew LO (512 - lnk L) 130 (fun k => .slice (some ⟨LO + 1 + k, 0, none⟩) (nl L) (nl L)) ∧ ∀ k, k < 512 - lnk L → Bk w12.drew (LO + 1 + k) (nl L) 82 (fun y => .int .u32 ((lkv L i k y : Nat) : Int))) := fun h9 => ⟨(hfar h9).1.drew, fun k hk => ((hfar h9).2 k hk).drew⟩
         have kp := kp.drew
         refine L1 (cv37_3 rfl (wrap_s64 _ (by omega) (by omega))) ?_
         refine Ai rfl ?_
         refine nt ?_
         refine sqr ?_
         refine Mi rfl ?_
         refine Mi rfl ?_
         refine L1 (bi rfl rfl (bn_sub (c := ((16 - n : Nat) : Int)) (by omega) (by omega) (by omega))) ?_
         refine L1 (cv3_38 rfl (wrap_u64n _ (by omega) (by omega))) ?_
         refine L1 (bi rfl rfl (bn_shr (x := rev 16 (cod L i)) (n := 16 - n) rfl rfl (by show 16 - n ≤ 64; omega))) ?_
         refine L1 (asg (v := .int .i64 ((rev n (cod L i) : Nat) : Int)) (by show Value.int .i64 ((rev 16 (cod L i) / 2 ^ (16 - n) : Nat) : Int) = _; rw [hrd])) ?_
         refine nt ?_
         refine sqr ?_
         refine Mi rfl ?_
         refine L1 (bi rfl rfl (bn_leq (v := decide (n ≤ 9)) (decide_eq_decide.2 (by omega)))) ?_
         refine nt ?_
         have h0' : L.getD i 0 ≠ 0 := by omega
         obtain ⟨r, hr⟩ : ∃ r, rev n (cod L i) = r := ⟨_, rfl⟩
         rw [hr] at hrb
         refine cond_d (p := n ≤ 9) rfl (fun h9 => ?_) (fun h9 => ?_)
         ·skip
          have h2n9 : 2 ^ n ≤ 2 ^ 9 := Nat.pow_le_pow_right (by decide) h9
          have h29 : (2 : Nat) ^ 9 = 512 := rfl
          have h2pos : 0 < 2 ^ n := Nat.two_pow_pos n
          refine sqr ?_
          refine Mi rfl ?_
          refine L1 (asg (v := .int .i64 ((r : Nat) : Int)) (by show Value.int .i64 ((rev n (cod L i) : Nat) : Int) = _; rw [hr])) ?_
          refine nt ?_
          refine wp_block ?_
          refine loop_fr (fun k f w' => f 0 = .pointer (some ⟨hb, o, none⟩) ∧ f 11 = .pointer (some ⟨X2, 0, none⟩) ∧ f 19 = .int .i64 ((n : Nat) : Int) ∧ f 21 = .int .u32 ((16 * i + n : Nat) : Int) ∧ f 168 = .slice (some ⟨lb, lo, none⟩) L.length lcap ∧ f 169 = .int .i64 ((L.length : Nat) : Int) ∧ f 170 = .int .i64 ((i : Nat) : Int) ∧ ∃ off : Nat, f 23 = .int .i64 ((off : Nat) : Int) ∧ off % 2 ^ n = r ∧ off ≤ 1024 ∧ k = 1024 - off ∧ Bk w' hb nb tb (gtab gx o (mn L) (fil (2 ^ n) r (16 * i + n) off (chv L i)) (laV L LO) (mkV L)) ∧ Bk w' X2 16 128 (fun k => .int .i64 ((nxc L (i + 1) k : Nat) : Int)) ∧ (9 < mx L → Bk w' LO (512 - lnk L) 130 (fun k => .slice (some ⟨LO + 1 + k, 0, none⟩) (nl L) (nl L)) ∧ ∀ k, k < 512 - lnk L → Bk w' (LO + 1 + k) (nl L) 82 (fun y => .int .u32 ((lkv L i k y : Nat) : Int))) ∧ Kp [hb] w w') (1024 - r) ⟨rfl, rfl, rfl, rfl, rfl, rfl, rfl, r, rfl, Nat.mod_eq_of_lt hrb, by omega, rfl, hB.congr (fun j _ => gtab_congr (fun x _ => (fil_start x).symm) j), hbX2, hfar, kp⟩ ?_
          clear hB hbX2 hfar kp
          intro k f w13 HJ
          obtain ⟨s0, s11, s19, s21, s168, s169, s170, off, s23, hoff, hoff2, rfl, hB, hbX2, hfar, kp⟩ := HJ
          refine slots (fc s0 (fc s11 (fc s19 (fc s21 (fc s23 (fc s168 (fc s169 (fc s170 fnil)))))))) ?_
          refine wp_seq ?_
          refine sqr ?_
          refine Mi rfl ?_
          refine L1 (bi rfl rfl (bn_lss (v := decide (off < 512)) (decide_eq_decide.2 (by omega)))) ?_
          refine nt ?_
          refine cond_d (p := off < 512) rfl (fun hlo => ?_) (fun hlo => ?_)
          ·skip
           refine skn ?_
           refine wp_seq ?_
           refine wp_block ?_
           refine wp_seq ?_
           refine sqr ?_
           refine Mb rfl ?_
           refine Lskip (t := 209) (b := true) rfl (by decide) rfl ?_
           refine Lskip (t := 209) (b := true) rfl (by decide) rfl ?_
           refine Lskip (t := 209) (b := true) rfl (by decide) rfl ?_
           refine Lskip (t := 209) (b := true) rfl (by decide) rfl ?_
           refine Lskip (t := 209) (b := true) rfl (by decide) rfl ?_
           refine Lskip (t := 209) (b := true) rfl (by decide) rfl ?_
           refine Lskip (t := 209) (b := true) rfl (by decide) rfl ?_
           refine L1 (pk_f rfl rfl) ?_
           refine nt ?_
           refine cond_f rfl ?_
           refine skn ?_
           refine reg_lit ?_
           refine Mp rfl ?_
           refine Mi rfl ?_
           refine Mi rfl ?_
           refine Np rfl ?_
           refine L1 (fb86_1 rfl) ?_
           refine L1 (ixA und83 sz82 rfl rfl (j := off) rfl hlo) ?_
           refine Lst82 (v := .int .u32 ((16 * i + n : Nat) : Int)) rfl rfl rfl hB (by omega) ?_
           intro w14 hB kp1
           have hB := hB.congr (fun x _ => gtab_setch (x := off) (c := 16 * i + n) hlo x)
           have hB := hB.congr (fun x _ => gtab_congr (fun y _ => fil_succ h2pos hoff y) x)
           have hbX2 := hbX2.kp kp1 (by simp; omega)
           have hfar : (9 < mx L → Bk w14 LO (512 - lnk L) 130 (fun k => .slice (some ⟨LO + 1 + k, 0, none⟩) (nl L) (nl L)) ∧ ∀ k, k < 512 - lnk L → Bk w14 (LO + 1 + k) (nl L) 82 (fun y => .int .u32 ((lkv L i k y : Nat) : Int))) := fun h9 => ⟨(hfar h9).1.kp kp1 (by simp; omega), fun k hk => ((hfar h9).2 k hk).kp kp1 (by simp; omega)⟩
           have kp := kp.trans kp1
           refine wpList_nil ?_
           refine inb_n ?_
           refine then_n ?_
           refine reg_lit ?_
           refine Mi rfl ?_
           refine Mi rfl ?_
           refine L1 (cv3_38 rfl (wrap_u64n _ (by omega) (by omega))) ?_
           refine L1 (bi rfl rfl (bn_shl64 (x := 1) (n := n) rfl rfl (by omega) (by omega))) ?_
           refine L1 (bi rfl rfl (bn_add (c := ((off + 2 ^ n : Nat) : Int)) (by omega) (by omega) (by omega))) ?_
           refine Ai rfl ?_
           refine nt ?_
           refine ⟨1024 - (off + 2 ^ n), _, by omega, rfl, rfl, rfl, rfl, rfl, rfl, rfl, rfl, off + 2 ^ n, rfl, by rw [Nat.add_mod_right]; exact hoff, by omega, rfl, hB, hbX2, hfar, kp⟩
          ·skip
           have hI : IT w w13 hb nb tb o gx L X2 LO (i + 1) := ⟨hB.congr fun j _ => gtab_congr (fun x hx => by rw [fil_end (show 512 ≤ off by omega) hx, chv_short hF h0' (by omega), hn, hr]) j, hbX2, fun hm => ⟨(hfar hm).1, fun k hk => ((hfar hm).2 k hk).congr fun y _ => by rw [lkv_short hF h0' (by omega) hk]⟩, kp, hlt0, hlt1, hlt2⟩
           refine wp_exit ?_
           refine then_e ?_
           refine then_e ?_
           refine inb_same ?_
           refine inb_n ?_
           refine then_n ?_
           refine reg_lit ?_
           refine L1 (bi rfl rfl (bn_add (c := ((i + 1 : Nat) : Int)) (by omega) (by omega) (by omega))) ?_
           refine Mi rfl ?_
           refine nt ?_
           exact ⟨L.length - (i + 1), _, by omega, rfl, rfl, rfl, rfl, rfl, i + 1, rfl, by omega, rfl, hI⟩
         ·skip
          have hn9 : 9 < n := by omega
          have hm9 : 9 < mx L := by omega
          have h9' : 9 < L.getD i 0 := by omega
          have h29 : (2 : Nat) ^ 9 = 512 := rfl
          have hlc := long_code hF h9'
          rw [hn, hr] at hlc
          have hr9 := rvb 9 r
          have h512r : r % 2 ^ 9 < 512 := by have := Nat.mod_lt r (show 0 < 2 ^ 9 by decide); omega
          have hchv : chv L i (r % 2 ^ 9) = (rev 9 r - lnk L) * 16 + 10 := by unfold chv; rw [rv_mod, if_neg (by omega)]
          obtain ⟨vv, hvv⟩ : ∃ vv, rev 9 r - lnk L = vv := ⟨_, rfl⟩
          rw [hvv] at hchv
          have hvlt : vv < 512 - lnk L := by omega
          obtain ⟨hbLO, hfi⟩ := hfar hm9
          have hpp : 2 ^ n = 2 ^ (n - 9) * 512 := by rw [← h29, ← Nat.pow_add]; congr 1; omega
          have hq : r / 2 ^ 9 < 2 ^ (n - 9) := by rw [h29]; exact Nat.div_lt_of_lt_mul (by rw [Nat.mul_comm, ← hpp]; exact hrb)
          have hqn : 2 ^ (n - 9) ≤ nl L := Nat.pow_le_pow_right (by decide) (by omega)
          have h2pos : 0 < 2 ^ (n - 9) := Nat.two_pow_pos _
          have hnl2 := nl_le hF
          refine sqr ?_
          refine L1 (mv (v := .int .i64 ((r : Nat) : Int)) (by show Value.int .i64 ((rev n (cod L i) : Nat) : Int) = _; rw [hr])) ?_
          refine L1 (bi rfl rfl (bn_mask64s (x := r) (k := 9) rfl rfl (by omega) (by decide))) ?_
          refine Ai rfl ?_
          refine nt ?_
          refine wp_seq ?_
          refine sqr ?_
          refine Mb rfl ?_
          refine Lskip (t := 227) (b := true) rfl (by decide) rfl ?_
          refine Lskip (t := 227) (b := true) rfl (by decide) rfl ?_
          refine Lskip (t := 227) (b := true) rfl (by decide) rfl ?_
          refine Lskip (t := 227) (b := true) rfl (by decide) rfl ?_
          refine Lskip (t := 227) (b := true) rfl (by decide) rfl ?_
          refine Lskip (t := 227) (b := true) rfl (by decide) rfl ?_
          refine Lskip (t := 227) (b := true) rfl (by decide) rfl ?_
          refine Lskip (t := 227) (b := true) rfl (by decide) rfl ?_
          refine L1 (pk_f rfl rfl) ?_
          refine nt ?_
          refine cond_f rfl ?_
          refine skn ?_
          refine sqr ?_
          refine Mp rfl ?_
          refine Mi rfl ?_
          refine Np rfl ?_
          refine L1 (fb86_1 rfl) ?_
          refine L1 (ixA und83 sz82 rfl rfl (j := r % 2 ^ 9) rfl h512r) ?_
          refine L1 (ld82 (v := .int .u32 ((vv * 16 + 10 : Nat) : Int)) rfl (hB.cellv (by omega) (by rw [gtab_ch h512r, hchv]))) ?_
          refine L1 (bi rfl rfl (bn_shr (x := vv * 16 + 10) (n := 4) rfl rfl (by decide))) ?_
          refine L1 (asg (v := .int .u32 ((vv : Nat) : Int)) (by show Value.int .u32 (((vv * 16 + 10) / 2 ^ 4 : Nat) : Int) = _; congr 2; omega)) ?_
          refine nt ?_
          refine sqr ?_
          refine Mp rfl ?_
          refine Np rfl ?_
          refine L1 (fb86_2 rfl) ?_
          refine L1 (ld84 (v := .slice (some ⟨LO, 0, none⟩) (512 - lnk L) (512 - lnk L)) rfl (hB.cellv (by omega) (by rw [gtab_la]; unfold laV; rw [if_neg (by omega)]))) ?_
          refine Mi rfl ?_
          refine L1 (ix und84 sz130 rfl rfl (j := vv) rfl hvlt) ?_
          refine L1 (ld130 (v := .slice (some ⟨LO + 1 + vv, 0, none⟩) (nl L) (nl L)) rfl (hbLO.cellv (by omega) (by rw [Nat.zero_add]))) ?_
          refine L1 (asg (v := (.slice (some ⟨LO + 1 + vv, 0, none⟩) (nl L) (nl L))) rfl) ?_
          refine nt ?_
          refine sqr ?_
          refine L1 (mv (v := .int .i64 ((r : Nat) : Int)) (by show Value.int .i64 ((rev n (cod L i) : Nat) : Int) = _; rw [hr])) ?_
          refine L1 (bi rfl rfl (bn_shr (x := r) (n := 9) rfl rfl (by decide))) ?_
          refine Ai rfl ?_
          refine nt ?_
          refine sqr ?_
          refine Mi rfl ?_
          refine Ai rfl ?_
          refine nt ?_
          refine wp_block ?_
          refine loop_fr (fun k f w' => f 0 = .pointer (some ⟨hb, o, none⟩) ∧ f 11 = .pointer (some ⟨X2, 0, none⟩) ∧ f 19 = .int .i64 ((n : Nat) : Int) ∧ f 21 = .int .u32 ((16 * i + n : Nat) : Int) ∧ f 26 = .slice (some ⟨LO + 1 + vv, 0, none⟩) (nl L) (nl L) ∧ f 168 = .slice (some ⟨lb, lo, none⟩) L.length lcap ∧ f 169 = .int .i64 ((L.length : Nat) : Int) ∧ f 170 = .int .i64 ((i : Nat) : Int) ∧ ∃ off : Nat, f 27 = .int .i64 ((off : Nat) : Int) ∧ off % 2 ^ (n - 9) = r / 2 ^ 9 ∧ off ≤ 128 ∧ k = 128 - off ∧ Bk w' hb nb tb (gtab gx o (mn L) (chv L i) (laV L LO) (mkV L)) ∧ Bk w' X2 16 128 (fun k => .int .i64 ((nxc L (i + 1) k : Nat) : Int)) ∧ Bk w' LO (512 - lnk L) 130 (fun k => .slice (some ⟨LO + 1 + k, 0, none⟩) (nl L) (nl L)) ∧ Bk w' (LO + 1 + vv) (nl L) 82 (fun y => .int .u32 ((fil (2 ^ (n - 9)) (r / 2 ^ 9) (16 * i + n) off (lkv L i vv) y : Nat) : Int)) ∧ (∀ k, k < 512 - lnk L → k ≠ vv → Bk w' (LO + 1 + k) (nl L) 82 (fun y => .int .u32 ((lkv L i k y : Nat) : Int))) ∧ Kp [hb] w w') (128 - r / 2 ^ 9) ⟨rfl, rfl, rfl, rfl, rfl, rfl, rfl, rfl, r / 2 ^ 9, rfl, Nat.mod_eq_of_lt hq, by omega, rfl, hB, hbX2, hbLO, (hfi vv hvlt).congr (fun y _ => by rw [fil_start]), fun k hk _ => hfi k hk, kp⟩ ?_
          clear hB hbX2 hfar hbLO hfi kp
          intro k f w13 HJ
          obtain ⟨s0, s11, s19, s21, s26, s168, s169, s170, off, s27, hoff, hoff2, rfl, hB, hbX2, hbLO, hin, hfi, kp⟩ := HJ
          refine slots (fc s0 (fc s11 (fc s19 (fc s21 (fc s26 (fc s27 (fc s168 (fc s169 (fc s170 fnil))))))))) ?_
          refine wp_seq ?_
          refine sqr ?_
          refine Mi rfl ?_
          refine L1 (mv (v := (.slice (some ⟨LO + 1 + vv, 0, none⟩) (nl L) (nl L))) rfl) ?_
          refine L1 (ln und130 rfl) ?_
          refine L1 (bi rfl rfl (bn_lss (v := decide (off < nl L)) (decide_eq_decide.2 (by omega)))) ?_
          refine nt ?_
          refine cond_d (p := off < nl L) rfl (fun hlo => ?_) (fun hlo => ?_)
          ·skip
           refine skn ?_
           refine wp_seq ?_
           refine wp_block ?_
           refine wp_seq ?_
           refine sqr ?_
           refine Mb rfl ?_
           refine Lskip (t := 265) (b := true) rfl (by decide) rfl ?_
           refine Lskip (t := 265) (b := true) rfl (by decide) rfl ?_
           refine Lskip (t := 265) (b := true) rfl (by decide) rfl ?_
           refine Lskip (t := 265) (b := true) rfl (by decide) rfl ?_
           refine Lskip (t := 265) (b := true) rfl (by decide) rfl ?_
           refine L1 (pk_f rfl rfl) ?_
           refine nt ?_
           refine cond_f rfl ?_
           refine skn ?_
           refine reg_lit ?_
           refine L1 (mv (v := (.slice (some ⟨LO + 1 + vv, 0, none⟩) (nl L) (nl L))) rfl) ?_
           refine Mi rfl ?_
           refine Mi rfl ?_
           refine L1 (ix und130 sz82 rfl rfl (j := off) rfl hlo) ?_
           refine Lst82 (v := .int .u32 ((16 * i + n : Nat) : Int)) rfl rfl rfl hin (by omega) ?_
           intro w14 hin kp1
           have hin : Bk w14 (LO + 1 + vv) (nl L) 82 (fun y => .int .u32 ((fil (2 ^ (n - 9)) (r / 2 ^ 9) (16 * i + n) (off + 2 ^ (n - 9)) (lkv L i vv) y : Nat) : Int)) := hin.congr fun y _ => by
            unfold upd
            rw [← fil_succ h2pos hoff, Nat.zero_add]
            by_cases hy : y = off
            ·rw [if_pos hy, if_pos hy]
            ·rw [if_neg hy, if_neg hy]
           have hB := hB.kp kp1 (by simp; omega)
           have hbX2 := hbX2.kp kp1 (by simp; omega)
           have hbLO := hbLO.kp kp1 (by simp; omega)
           have hfi : (∀ k, k < 512 - lnk L → k ≠ vv → Bk w14 (LO + 1 + k) (nl L) 82 (fun y => .int .u32 ((lkv L i k y : Nat) : Int))) := fun k hk hne => (hfi k hk hne).kp kp1 (by simp; omega)
           have kp := kp.transNew kp1 (by simp; omega)
           refine wpList_nil ?_
           refine inb_n ?_
           refine then_n ?_
           refine reg_lit ?_
           refine Mi rfl ?_
           refine Mi rfl ?_
           refine L1 (bi rfl rfl (bn_sub (c := ((n - 9 : Nat) : Int)) (by omega) (by omega) (by omega))) ?_
           refine L1 (cv3_38 rfl (wrap_u64n _ (by omega) (by omega))) ?_
           refine L1 (bi rfl rfl (bn_shl64 (x := 1) (n := n - 9) rfl rfl (by omega) (by omega))) ?_
           refine L1 (bi rfl rfl (bn_add (c := ((off + 2 ^ (n - 9) : Nat) : Int)) (by omega) (by omega) (by omega))) ?_
           refine Ai rfl ?_
           refine nt ?_
           refine ⟨128 - (off + 2 ^ (n - 9)), _, by omega, rfl, rfl, rfl, rfl, rfl, rfl, rfl, rfl, rfl, off + 2 ^ (n - 9), rfl, by rw [Nat.add_mod_right]; exact hoff, by omega, rfl, hB, hbX2, hbLO, hin, hfi, kp⟩
          ·skip
           have hfn : ∀ k, k < 512 - lnk L → Bk w13 (LO + 1 + k) (nl L) 82 (fun y => .int .u32 ((lkv L (i + 1) k y : Nat) : Int)) := by
            intro k hk
            by_cases hk2 : k = vv
            ·subst hk2
             refine hin.congr fun y hy => ?_
             rw [fil_end (show nl L ≤ off by omega) hy, lkv_long hF h9' hk, hn, hr, hvv]
             by_cases hy2 : y % 2 ^ (n - 9) = r / 512
             ·rw [if_pos hy2, if_pos ⟨rfl, hy2⟩]
             ·rw [if_neg hy2, if_neg (fun e => hy2 e.2)]
            ·refine (hfi k hk hk2).congr fun y hy => ?_
             rw [lkv_long hF h9' hk, hn, hr, hvv, if_neg (fun e => hk2 e.1)]
           have hI : IT w w13 hb nb tb o gx L X2 LO (i + 1) := ⟨hB.congr fun j _ => gtab_congr (fun x hx => by rw [chv_long hF h9']) j, hbX2, fun _ => ⟨hbLO, hfn⟩, kp, hlt0, hlt1, hlt2⟩
           refine wp_exit ?_
           refine then_e ?_
           refine then_e ?_
           refine inb_same ?_
           refine inb_n ?_
           refine then_n ?_
           refine reg_lit ?_
           refine L1 (bi rfl rfl (bn_add (c := ((i + 1 : Nat) : Int)) (by omega) (by omega) (by omega))) ?_
           refine Mi rfl ?_
           refine nt ?_
           exact ⟨L.length - (i + 1), _, by omega, rfl, rfl, rfl, rfl, rfl, i + 1, rfl, by omega, rfl, hI⟩
       ·skip
        obtain rfl : i = L.length := by omega
        refine wp_exit ?_
        refine then_e ?_
        refine then_e ?_
        refine inb_same ?_
        refine then_n ?_
        refine wp_seq ?_
        refine cond_f rfl ?_
        refine skn ?_
        refine sqr ?_
        refine Ab rfl ?_
        refine nt ?_
        refine wp_ret ?_
        refine ret1 rfl rfl ?_
        exact ⟨_, rfl, (show Value.bool true = Value.bool (okL L) by rw [hok]), _, hI.hB, fun j hj => gtab_out hj, hI.kp, .inl ⟨((mn L : Nat) : Int), by omega, gtab_0⟩, fun _ E hE => hI.tab hF hlen E hE⟩
end Go.Proofs.YtejeloeaklpinaaDoor
namespace Go.Proofs.YtejeloeaklpinaaDoor
theorem und118 : Tryd.prog.underlying 118 = some (.array 288 3) := by kernel_rfl
theorem fix_len : fixL.length = 288 := by decide +kernel
theorem fix_ok : okL fixL = true := by decide +kernel
theorem fix_mx : mx fixL = 9 := by decide +kernel
theorem fix_mn : mn fixL = 7 := by decide +kernel
theorem fix_get : ∀ i, i < 288 → fixL.getD i 0 = if i < 144 then 8 else if i < 256 then 9 else if i < 280 then 7 else 8 := by decide +kernel
theorem fix_15 (s : Nat) : fixL.getD s 0 ≤ 15 := by have := le_mx fixL s; rw [fix_mx] at this; omega
theorem fix_lk : LkOk (cdL fixL) := lk_ok fix_ok (by rw [fix_mx]; decide) (by rw [fix_len]; decide) _ (Nat.le_refl _) (by rw [fix_mn]; decide)
/-- The lengths as far as they are written. -/
def fx (i k : Nat) : Value := .int .i64 ((if k < i then fixL.getD k 0 else 0 : Nat) : Int)
theorem fx_succ {i : Nat} {n : Nat} (h : fixL.getD i 0 = n) (k : Nat) : upd (fx i) (0 + i) (.int .i64 (n : Int)) k = fx (i + 1) k := by
 unfold upd fx
 rw [Nat.zero_add]
 by_cases hk : k = i
 ·subst hk; rw [if_pos rfl, if_pos (by omega), h]
 ·rw [if_neg hk]
  by_cases h2 : k < i
  ·rw [if_pos h2, if_pos (by omega)]
  ·rw [if_neg h2, if_neg (by omega)]
section
variable {ρ : Operand → Value} {d : Option Nat} {x y z : Operand} {ty : TypeId} {pos : String} {af : Array Edge} {gd : Option (Nat × Bool)} {w : World}
theorem sl118 {b : Nat} (hx : ρ x = .pointer (some ⟨b, 0, none⟩)) : (execOp ρ ⟨d, .slice 118 x none none none, ty, pos, af, gd⟩).run Tryd.prog w = .ok (.value (.slice (some ⟨b, 0, none⟩) 288 288)) w := by
 simp only [execOp, hx, Option.map_none]
 kernel_rfl
end
attribute [local irreducible] wpList wpStill wpMix Code.wp Calls fr
section
variable {ops : Array Oper} {Q : Exit → Act → World → Prop} {N : Nat} {L : List (Nat × Value)} {B f : Nat → Value} {w : World} {rest : List Oper} {dd : Nat} {ty : TypeId} {pos : String} {af : Array Edge}
theorem Lal118 (K : ∀ X w1, w.heap.size = X → Bk w1 X 288 118 (fun _ => .int .i64 0) → Kp [] w w1 → w1.heap.size = X + 1 → wpList Tryd.prog ops Q rest (fr N (fl ((dd, .pointer (some ⟨X, 0, none⟩)) :: L) B)) w1) :
  wpList Tryd.prog ops Q (⟨some dd, .alloc 118, ty, pos, af, none⟩ :: rest) (fr N (fl L B)) w := by
 obtain ⟨Z, hZ, hr⟩ : ∃ Z : Array Value, Z.toList = (List.range 288).map (fun _ => .int .i64 0) ∧ ∀ (ρ : Operand → Value) (w : World), (execOp ρ ⟨some dd, .alloc 118, ty, pos, af, none⟩).run Tryd.prog w = .ok (.value (.pointer (some ⟨w.heap.size, 0, none⟩))) (w.alloc (.cells Z 118)) :=
  ⟨(((Tryd.prog.info? 118).bind (·.zero)).map (·.cells)).getD #[], by kernel_rfl, fun ρ w => by kernel_rfl⟩
 exact L1 (hr _ _) (K _ _ rfl (Bk.newOf w Z 118 288 _ hZ) ((Kp.refl [] w).alloc _) (by simp))
theorem Lal86 (K : ∀ X w1, w.heap.size = X → Bk w1 X 515 86 z86 → Kp [] w w1 → w1.heap.size = X + 1 → wpList Tryd.prog ops Q rest (fr N (fl ((dd, .pointer (some ⟨X, 0, none⟩)) :: L) B)) w1) :
  wpList Tryd.prog ops Q (⟨some dd, .alloc 86, ty, pos, af, none⟩ :: rest) (fr N (fl L B)) w := by
 obtain ⟨Z, hZ, hr⟩ : ∃ Z : Array Value, Z.toList = (List.range 515).map z86 ∧ ∀ (ρ : Operand → Value) (w : World), (execOp ρ ⟨some dd, .alloc 86, ty, pos, af, none⟩).run Tryd.prog w = .ok (.value (.pointer (some ⟨w.heap.size, 0, none⟩))) (w.alloc (.cells Z 86)) :=
  ⟨(((Tryd.prog.info? 86).bind (·.zero)).map (·.cells)).getD #[], by kernel_rfl, fun ρ w => by kernel_rfl⟩
 exact L1 (hr _ _) (K _ _ rfl (Bk.newOf w Z 86 515 _ hZ) ((Kp.refl [] w).alloc _) (by simp))
end
theorem z86_hz : HZ z86 0 := by
 refine .inr ⟨rfl, fun k hk => ?_, rfl, rfl⟩
 unfold z86
 rw [if_neg (by omega), if_neg (by omega)]
theorem fixed_c : C43 := by
 intro w
 have kp := Kp.refl [] w
 refine calls_fr (N := 36) Tryd.func43 rfl rfl (by simp) rfl ?_
 refine sqr ?_
 refine L1 (asg (v := .pointer _) rfl) ?_
 refine nt ?_
 refine sqr ?_
 refine Lal118 ?_
 intro X1 w1 hX1 hbX kp1 _
 have kp := kp.trans kp1
 have hbX : Bk w1 X1 288 118 (fx 0) := hbX.congr (fun k _ => by unfold fx; rw [if_neg (by omega)]; rfl)
 refine nt ?_
 refine wp_seq ?_
 refine sqr ?_
 refine Ai rfl ?_
 refine nt ?_
 refine wp_block ?_
 refine loop_fr (fun k f w' => f 1 = .pointer (some ⟨X1, 0, none⟩) ∧ ∃ i : Nat, f 2 = .int .i64 (i : Int) ∧ 0 ≤ i ∧ i ≤ 144 ∧ k = 144 - i ∧ Bk w' X1 288 118 (fx i) ∧ Kp [] w w') (144 - 0) ⟨rfl, 0, rfl, Nat.le_refl _, by omega, rfl, hbX, kp⟩ ?_
 clear hbX kp
 intro k f wl3 HJ
 obtain ⟨s1, i, s2, hi1, hi2, rfl, hbX, kp⟩ := HJ
 refine slots (fc s1 (fc s2 fnil)) ?_
 refine wp_seq ?_
 refine sqr ?_
 refine Mi rfl ?_
 refine L1 (bi rfl rfl (bn_lss (v := decide (i < 144)) (decide_eq_decide.2 (by omega)))) ?_
 refine nt ?_
 refine cond_d (p := i < 144) rfl (fun hlt => ?_) (fun hlt => ?_)
 ·skip
  refine skn ?_
  refine wp_seq ?_
  refine wp_block ?_
  refine reg_lit ?_
  refine Mi rfl ?_
  refine L1 (ixA und118 sz3 rfl rfl (j := i) rfl (by omega)) ?_
  refine Lst3 (v := .int .i64 (8 : Int)) rfl rfl rfl hbX (by omega) ?_
  intro w2 hbX kp1
  have hbX := hbX.congr (fun k _ => fx_succ (i := i) (n := 8) (by rw [fix_get i (by omega)]; repeat (first | rfl | rw [if_pos (by omega)] | rw [if_neg (by omega)])) k)
  have kp := kp.transNew kp1 (by simp; omega)
  refine wpList_nil ?_
  refine inb_n ?_
  refine then_n ?_
  refine reg_lit ?_
  refine Mi rfl ?_
  refine L1 (bi rfl rfl (bn_add (c := ((i + 1 : Nat) : Int)) (by omega) (by omega) (by omega))) ?_
  refine Ai rfl ?_
  refine nt ?_
  exact ⟨144 - (i + 1), _, by omega, rfl, rfl, i + 1, rfl, by omega, by omega, rfl, hbX, kp⟩
 ·skip
  obtain rfl : i = 144 := by omega
  refine wp_exit ?_
  refine then_e ?_
  refine then_e ?_
  refine inb_same ?_
  refine then_n ?_
  refine wp_seq ?_
  refine sqr ?_
  refine Ai rfl ?_
  refine nt ?_
  refine wp_block ?_
  refine loop_fr (fun k f w' => f 1 = .pointer (some ⟨X1, 0, none⟩) ∧ ∃ i : Nat, f 3 = .int .i64 (i : Int) ∧ 144 ≤ i ∧ i ≤ 256 ∧ k = 256 - i ∧ Bk w' X1 288 118 (fx i) ∧ Kp [] w w') (256 - 144) ⟨rfl, 144, rfl, Nat.le_refl _, by omega, rfl, hbX, kp⟩ ?_
  clear hbX kp
  intro k f wl7 HJ
  obtain ⟨s1, i, s2, hi1, hi2, rfl, hbX, kp⟩ := HJ
  refine slots (fc s1 (fc s2 fnil)) ?_
  refine wp_seq ?_
  refine sqr ?_
  refine Mi rfl ?_
  refine L1 (bi rfl rfl (bn_lss (v := decide (i < 256)) (decide_eq_decide.2 (by omega)))) ?_
  refine nt ?_
  refine cond_d (p := i < 256) rfl (fun hlt => ?_) (fun hlt => ?_)
  ·skip
   refine skn ?_
   refine wp_seq ?_
   refine wp_block ?_
   refine reg_lit ?_
   refine Mi rfl ?_
   refine L1 (ixA und118 sz3 rfl rfl (j := i) rfl (by omega)) ?_
   refine Lst3 (v := .int .i64 (9 : Int)) rfl rfl rfl hbX (by omega) ?_
   intro w2 hbX kp1
   have hbX := hbX.congr (fun k _ => fx_succ (i := i) (n := 9) (by rw [fix_get i (by omega)]; repeat (first | rfl | rw [if_pos (by omega)] | rw [if_neg (by omega)])) k)
   have kp := kp.transNew kp1 (by simp; omega)
   refine wpList_nil ?_
   refine inb_n ?_
   refine then_n ?_
   refine reg_lit ?_
   refine Mi rfl ?_
   refine L1 (bi rfl rfl (bn_add (c := ((i + 1 : Nat) : Int)) (by omega) (by omega) (by omega))) ?_
   refine Ai rfl ?_
   refine nt ?_
   exact ⟨256 - (i + 1), _, by omega, rfl, rfl, i + 1, rfl, by omega, by omega, rfl, hbX, kp⟩
  ·skip
   obtain rfl : i = 256 := by omega
   refine wp_exit ?_
   refine then_e ?_
   refine then_e ?_
   refine inb_same ?_
   refine then_n ?_
   refine wp_seq ?_
   refine sqr ?_
   refine Ai rfl ?_
   refine nt ?_
   refine wp_block ?_
   refine loop_fr (fun k f w' => f 1 = .pointer (some ⟨X1, 0, none⟩) ∧ ∃ i : Nat, f 4 = .int .i64 (i : Int) ∧ 256 ≤ i ∧ i ≤ 280 ∧ k = 280 - i ∧ Bk w' X1 288 118 (fx i) ∧ Kp [] w w') (280 - 256) ⟨rfl, 256, rfl, Nat.le_refl _, by omega, rfl, hbX, kp⟩ ?_
   clear hbX kp
   intro k f wl11 HJ
   obtain ⟨s1, i, s2, hi1, hi2, rfl, hbX, kp⟩ := HJ
   refine slots (fc s1 (fc s2 fnil)) ?_
   refine wp_seq ?_
   refine sqr ?_
   refine Mi rfl ?_
   refine L1 (bi rfl rfl (bn_lss (v := decide (i < 280)) (decide_eq_decide.2 (by omega)))) ?_
   refine nt ?_
   refine cond_d (p := i < 280) rfl (fun hlt => ?_) (fun hlt => ?_)
   ·skip
    refine skn ?_
    refine wp_seq ?_
    refine wp_block ?_
    refine reg_lit ?_
    refine Mi rfl ?_
    refine L1 (ixA und118 sz3 rfl rfl (j := i) rfl (by omega)) ?_
    refine Lst3 (v := .int .i64 (7 : Int)) rfl rfl rfl hbX (by omega) ?_
    intro w2 hbX kp1
    have hbX := hbX.congr (fun k _ => fx_succ (i := i) (n := 7) (by rw [fix_get i (by omega)]; repeat (first | rfl | rw [if_pos (by omega)] | rw [if_neg (by omega)])) k)
    have kp := kp.transNew kp1 (by simp; omega)
    refine wpList_nil ?_
    refine inb_n ?_
    refine then_n ?_
    refine reg_lit ?_
    refine Mi rfl ?_
    refine L1 (bi rfl rfl (bn_add (c := ((i + 1 : Nat) : Int)) (by omega) (by omega) (by omega))) ?_
    refine Ai rfl ?_
    refine nt ?_
    exact ⟨280 - (i + 1), _, by omega, rfl, rfl, i + 1, rfl, by omega, by omega, rfl, hbX, kp⟩
   ·skip
    obtain rfl : i = 280 := by omega
    refine wp_exit ?_
    refine then_e ?_
    refine then_e ?_
    refine inb_same ?_
    refine then_n ?_
    refine wp_seq ?_
    refine sqr ?_
    refine Ai rfl ?_
    refine nt ?_
    refine wp_block ?_
    refine loop_fr (fun k f w' => f 1 = .pointer (some ⟨X1, 0, none⟩) ∧ ∃ i : Nat, f 5 = .int .i64 (i : Int) ∧ 280 ≤ i ∧ i ≤ 288 ∧ k = 288 - i ∧ Bk w' X1 288 118 (fx i) ∧ Kp [] w w') (288 - 280) ⟨rfl, 280, rfl, Nat.le_refl _, by omega, rfl, hbX, kp⟩ ?_
    clear hbX kp
    intro k f wl15 HJ
    obtain ⟨s1, i, s2, hi1, hi2, rfl, hbX, kp⟩ := HJ
    refine slots (fc s1 (fc s2 fnil)) ?_
    refine wp_seq ?_
    refine sqr ?_
    refine Mi rfl ?_
    refine L1 (bi rfl rfl (bn_lss (v := decide (i < 288)) (decide_eq_decide.2 (by omega)))) ?_
    refine nt ?_
    refine cond_d (p := i < 288) rfl (fun hlt => ?_) (fun hlt => ?_)
    ·skip
     refine skn ?_
     refine wp_seq ?_
     refine wp_block ?_
     refine reg_lit ?_
     refine Mi rfl ?_
     refine L1 (ixA und118 sz3 rfl rfl (j := i) rfl (by omega)) ?_
     refine Lst3 (v := .int .i64 (8 : Int)) rfl rfl rfl hbX (by omega) ?_
     intro w2 hbX kp1
     have hbX := hbX.congr (fun k _ => fx_succ (i := i) (n := 8) (by rw [fix_get i (by omega)]; repeat (first | rfl | rw [if_pos (by omega)] | rw [if_neg (by omega)])) k)
     have kp := kp.transNew kp1 (by simp; omega)
     refine wpList_nil ?_
     refine inb_n ?_
     refine then_n ?_
     refine reg_lit ?_
     refine Mi rfl ?_
     refine L1 (bi rfl rfl (bn_add (c := ((i + 1 : Nat) : Int)) (by omega) (by omega) (by omega))) ?_
     refine Ai rfl ?_
     refine nt ?_
     exact ⟨288 - (i + 1), _, by omega, rfl, rfl, i + 1, rfl, by omega, by omega, rfl, hbX, kp⟩
    ·skip
     obtain rfl : i = 288 := by omega
     refine wp_exit ?_
     refine then_e ?_
     refine then_e ?_
     refine inb_same ?_
     refine then_n ?_
     refine sqr ?_
     refine Lal86 ?_
     intro X2 w3 hX2 hbZ kp1 hs3
     have hXlt := hbX.lt
     have hks := kp.size
     have hbX := hbX.kp kp1 (by simp)
     have kp := kp.trans kp1
     refine L1 (asg (v := .pointer _) rfl) ?_
     refine nt ?_
     refine sqr ?_
     refine Mp rfl ?_
     refine L1 (sl118 rfl) ?_
     have hic := init_c _ X2 515 86 0 z86 X1 0 288 fixL hbZ (by decide) z86_hz (fun j hj => by rw [fix_len] at hj; rw [Nat.zero_add]; exact hbX.cellv hj (by unfold fx; rw [if_pos hj])) (by omega) fix_15 (by rw [fix_len]; decide)
     rw [fix_len] at hic
     refine LC (cl2 has53 rfl rfl rfl) hic ?_
     rintro v w4 ⟨rfl, gx', hbZ, hout, kp1, hHZ, hT⟩
     have hT := fun E => hT fix_ok E (.inl (by rw [fix_mx]; decide))
     have kp := kp.transNew kp1 (by simp; omega)
     refine nt ?_
     refine sqr ?_
     refine Mp rfl ?_
     refine L1 (asg (v := .pointer _) rfl) ?_
     refine nt ?_
     refine wp_ret ?_
     refine ret1 rfl rfl ?_
     exact ⟨_, rfl, X2, gx', rfl, by omega, hbZ, hT, fix_lk, kp⟩
end Go.Proofs.YtejeloeaklpinaaDoor
