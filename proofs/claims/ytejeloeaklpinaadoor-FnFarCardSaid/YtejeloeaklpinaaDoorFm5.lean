/- Texts of this claim, merged and shortened by gen/pack.py: RefE, RefF0, RefF, RefG, RefH, RefI0, RefI, RLaw. -/
import Derived.Test.YtejeloeaklpinaaDoorFm4
namespace Go.Proofs.YtejeloeaklpinaaDoor
section
variable {S : Src}
theorem rdTo_ex {p pos n : Nat} (h : pos = (p + 7) / 8) : rdTo p pos n = (p + n + 7) / 8 := by unfold rdTo; omega
theorem clLens_pos : ∀ (k p pos : Nat) (f f' : Nat → Nat) (p' pos' : Nat), clLens S k p pos f = some (f', p', pos') → pos = (p + 7) / 8 → pos' = (p' + 7) / 8
 | 0, p, pos, f, f', p', pos', h => by intro hp; simp only [clLens, Option.some.injEq, Prod.mk.injEq] at h; obtain ⟨_, rfl, rfl⟩ := h; exact hp
 | k + 1, p, pos, f, f', p', pos', h => by
  intro hp
  simp only [clLens] at h
  cases hc : clLens S k p pos f with
  | none => rw [hc] at h; cases h
  | some x =>
   obtain ⟨f1, p1, q1⟩ := x
   rw [hc] at h
   simp only at h
   have := clLens_pos k p pos f f1 p1 q1 hc hp
   split at h
   ·simp only [Option.some.injEq, Prod.mk.injEq] at h
    obtain ⟨_, rfl, rfl⟩ := h
    exact rdTo_ex this
   ·cases h
theorem getSym_pos {L : List Nat} (hK : Kraft L) {p pos v p' pos' : Nat} (h : getSym S (cdL L) p pos = .ok v p' pos') (hp : pos = (p + 7) / 8) : pos' = (p' + 7) / 8 := by
 unfold getSym at h
 simp only at h
 split at h
 ·split at h <;> cases h
 ·rename_i h0
  have hne : Vk L L.length (S.D / 2 ^ p) ≠ 0 := by
   intro e; apply h0
   show lkL L (S.D / 2 ^ p) % 16 = 0
   rw [lkL_eq, e]
  obtain ⟨t, h2, h3, h4⟩ := vk_some hne
  obtain ⟨_, h6, h7⟩ := sym_fnd hK h3
  have h15 := hK.n15 t
  have hm := (mn_le L t (by omega)).1
  have e : (cdL L).lk (S.D / 2 ^ p) % 16 = L.getD t 0 := by
   show lkL L (S.D / 2 ^ p) % 16 = _
   rw [lkL_eq, h4]; omega
  split at h
  ·rw [e] at h
   have hmm : max (cdL L).m (L.getD t 0) = L.getD t 0 := Nat.max_eq_right hm
   rw [hmm] at h
   cases h
   exact rdTo_ex hp
  ·cases h
theorem getBits_pos {p pos n v p' pos' : Nat} (h : getBits S p pos n = .ok v p' pos') (hp : pos = (p + 7) / 8) : pos' = (p' + 7) / 8 := by
 unfold getBits at h
 split at h
 ·cases h; exact rdTo_ex hp
 ·cases h
theorem rdLens_pos {L : List Nat} (hK : Kraft L) {n : Nat} : ∀ (k : Nat) (l : List Nat) (p pos : Nat) (l' : List Nat) (p' pos' : Nat), rdLens S (cdL L) n k l p pos = .ok l' p' pos' → pos = (p + 7) / 8 → pos' = (p' + 7) / 8
 | 0, l, p, pos, l', p', pos', h => by intro hp; simp only [rdLens, Lens.ok.injEq] at h; obtain ⟨_, rfl, rfl⟩ := h; exact hp
 | k + 1, l, p, pos, l', p', pos', h => by
  intro hp
  simp only [rdLens] at h
  split at h
  ·simp only [Lens.ok.injEq] at h; obtain ⟨_, rfl, rfl⟩ := h; exact hp
  ·cases hg : getSym S (cdL L) p pos with
   | short => rw [hg] at h; cases h
   | bad => rw [hg] at h; cases h
   | ok x p1 q1 =>
    rw [hg] at h
    have h1 := getSym_pos hK hg hp
    simp only at h
    split at h
    ·exact rdLens_pos hK k _ _ _ _ _ _ h h1
    ·split at h
     ·cases h
     ·cases hb : getBits S p1 q1 (if x = 16 then 2 else if x = 17 then 3 else 7) with
      | short => rw [hb] at h; cases h
      | bad => rw [hb] at h; cases h
      | ok r p2 q2 =>
       rw [hb] at h
       have h2 := getBits_pos hb h1
       simp only at h
       generalize (if x = 18 then 11 else 3) + r = rep at h
       split at h
       ·cases h
       ·exact rdLens_pos hK k _ _ _ _ _ _ h h2
end
theorem mem_take15 {l : List Nat} (h : ∀ x ∈ l, x ≤ 15) (n : Nat) : (∀ x ∈ l.take n, x ≤ 15) ∧ (∀ x ∈ l.drop n, x ≤ 15) := ⟨fun x hx => h x (List.mem_of_mem_take hx), fun x hx => h x (List.mem_of_mem_drop hx)⟩
/-- A good end of the head of a block with codes of its own. -/
def DynOk (S : Src) (a : A) (lit dist : List Nat) (p' : Nat) : Prop := ∃ pos', mDyn S a = ({ a with p := p', pos := pos', md := .huff ⟨max (mn lit) (lit.getD 256 0), lkL lit⟩ (some (cdL dist)) none }, false) ∧ (a.pos = (a.p + 7) / 8 → pos' = (p' + 7) / 8) ∧
 lit.getD 256 0 ≠ 0 ∧ kf lit 15 = 32768 ∧ (∀ x ∈ lit, x ≤ 15) ∧ lit.length ≤ 286 ∧ dist.length ≤ 30 ∧ (∀ x ∈ dist, x ≤ 15) ∧ Rd1 dist ∧ okL dist = true ∧ a.p ≤ p'
/-- The heads that tell codes. -/
structure Lv (S : Src) (a : A) (xl xd xc : Nat) : Prop where
 h14 : ¬ 8 * S.N < a.p + 14
 nl : xl = nL S a
 nd : xd = nD S a
 nc : xc = nC S a
 l286 : xl ≤ 286
theorem Lv.not {S : Src} {a : A} {nl nd nc : Nat} (h : Lv S a nl nd nc) (hd : nd ≤ 30) : ¬ (286 < nL S a ∨ 30 < nD S a) := by have := h.nl; have := h.nd; have := h.l286; omega
attribute [local irreducible] wpList wpStill wpMix Code.wp Calls fr aE eOp
set_option maxHeartbeats 2000000 in
theorem dyn_r {w0 w : World} {X : Nat} {dv ov : Value} {data : List Nat} {p base edge : Nat} (hE : RE w0 dv data X) (hW : RW w0 w X dv p ov base 0 edge) (hp0 : p ≤ 8 * data.length) (a : A) (ha : a.p = p) :
  Ret 23 [px X] w fun v w' => Kp [X] w w' ∧ ∃ l1 c1 s1 l2 c2 s2 q st, v = .tuple #[.agg #[l1, c1, s1], .agg #[l2, c2, s2]] ∧ (l1.oneCell' = true ∧ c1.oneCell' = true ∧ s1.oneCell' = true) ∧ (l2.oneCell' = true ∧ c2.oneCell' = true ∧ s2.oneCell' = true) ∧ RW w0 w' X dv q ov base st edge ∧ q ≤ 8 * data.length ∧
   ((st ≠ 0 ∧ DnE (srcOf data) a q st) ∨ (st = 0 ∧ ∃ lit dist B1 B2, CV w' B1 (.agg #[l1, c1, s1]) lit ∧ CV w' B2 (.agg #[l2, c2, s2]) dist ∧ (∀ b ∈ B1, w.heap.size ≤ b) ∧ (∀ b ∈ B2, w.heap.size ≤ b) ∧ DynOk (srcOf data) a lit dist q)) := by
 obtain ⟨hB, kp⟩ := hW
 have hXn := hE.hX
 have kpX := Kp.refl [X] w
 have hBl := hB.lt
 refine calls_fr (N := 109) Tryd.func23 rfl rfl (by simp [px]) rfl ?_
 refine sqr ?_
 refine Lal56 ?_
 intro D2 w1 D2e hD2 kp1 hs1
 have hxD2 : X < D2 := by have := hB.lt; omega
 have hB := hB.kp kp1 (by simp)
 have kp := kp.trans kp1
 have kpX := kpX.trans (kp1.mono (by simp))
 have hwD2 : w.heap.size ≤ D2 := by omega
 refine Lal56 ?_
 intro D3 w1 D3e hD3 kp1 hs1
 have hxD3 : D2 < D3 := by have := hD2.lt; omega
 have hD2 := hD2.kp kp1 (by simp)
 have hB := hB.kp kp1 (by simp)
 have kp := kp.trans kp1
 have kpX := kpX.trans (kp1.mono (by simp))
 refine nt ?_
 refine sqr ?_
 refine Mp rfl ?_
 refine LC (cl2 has19 rfl rfl rfl) (bits_r2 hE ⟨hB, kp⟩ hp0 5 (by decide)) ?_
 rintro v w2 ⟨n1, p1, s1, rfl, kp1, hn1, hp1, ⟨hB, kp⟩, hc1⟩
 have hpw1 : 2 ^ 5 ≤ 32 := by decide
 have hD2 := hD2.kp kp1 (by simp; omega)
 have hD3 := hD3.kp kp1 (by simp; omega)
 have kpX := kpX.trans kp1
 refine L1 (bi rfl rfl (bn_add (c := ((257 + n1 : Nat) : Int)) (by omega) (by omega) (by omega))) ?_
 refine Mp rfl ?_
 refine LC (cl2 has19 rfl rfl rfl) (bits_r2 hE ⟨hB, kp⟩ hp1 5 (by decide)) ?_
 rintro v w2 ⟨n2, p2, s2, rfl, kp1, hn2, hp2, ⟨hB, kp⟩, hc2⟩
 have hpw2 : 2 ^ 5 ≤ 32 := by decide
 have hD2 := hD2.kp kp1 (by simp; omega)
 have hD3 := hD3.kp kp1 (by simp; omega)
 have kpX := kpX.trans kp1
 refine L1 (bi rfl rfl (bn_add (c := ((1 + n2 : Nat) : Int)) (by omega) (by omega) (by omega))) ?_
 refine Mp rfl ?_
 refine LC (cl2 has19 rfl rfl rfl) (bits_r2 hE ⟨hB, kp⟩ hp2 4 (by decide)) ?_
 rintro v w2 ⟨n3, p3, s3, rfl, kp1, hn3, hp3, ⟨hB, kp⟩, hc3⟩
 have hpw3 : 2 ^ 4 ≤ 32 := by decide
 have hD2 := hD2.kp kp1 (by simp; omega)
 have hD3 := hD3.kp kp1 (by simp; omega)
 have kpX := kpX.trans kp1
 refine L1 (bi rfl rfl (bn_add (c := ((4 + n3 : Nat) : Int)) (by omega) (by omega) (by omega))) ?_
 refine Ai rfl ?_
 refine Ai rfl ?_
 refine Ai rfl ?_
 refine nt ?_
 refine seq_cut (N := 109) (fun f w' => f 0 = .pointer (some ⟨X, 0, none⟩) ∧ f 2 = .pointer (some ⟨D2, 0, none⟩) ∧ f 3 = .pointer (some ⟨D3, 0, none⟩) ∧ ∃ nl nd nc q st : Nat, f 4 = .int .i64 ((nl : Nat) : Int) ∧ f 5 = .int .i64 ((nd : Nat) : Int) ∧ f 6 = .int .i64 ((nc : Nat) : Int) ∧ Bk w' D2 3 56 (fun _ => .slice none 0 0) ∧ Bk w' D3 3 56 (fun _ => .slice none 0 0) ∧ Kp [] w0 w' ∧ Kp [X] w w' ∧ Bk w' X 6 53 (rx dv q ov base st edge) ∧ q ≤ 8 * data.length ∧ (257 ≤ nl ∧ nl ≤ 288 ∧ 1 ≤ nd ∧ nd ≤ 32 ∧ nc ≤ 19) ∧ ((st = 0 ∧ q = a.p + 14 ∧ Lv (srcOf data) a nl nd nc) ∨ (st ≠ 0 ∧ DnE (srcOf data) a q st))) ?_ ?_
 ·skip
  have hh := head3 (S := srcOf data) (a := a) hc1 hc2 hc3 ha
  obtain ⟨nl, hnl⟩ : ∃ nl, 257 + n1 = nl := ⟨_, rfl⟩
  obtain ⟨nd, hnd⟩ : ∃ nd, 1 + n2 = nd := ⟨_, rfl⟩
  obtain ⟨nc, hnc⟩ : ∃ nc, 4 + n3 = nc := ⟨_, rfl⟩
  rw [hnl, hnd, hnc]
  rw [hnl, hnd, hnc] at hh
  rcases hh with ⟨h14, rfl, rfl, hh1, hh2, hh3⟩ | ⟨h14, rfl, rfl⟩
  ·skip
   refine sqr ?_
   refine Mp rfl ?_
   refine Np rfl ?_
   refine L1 (fa53_4 rfl) ?_
   refine L1 (ld3 rfl (hB.cellv (v := .int _ _) (by decide) rfl)) ?_
   refine L1 (bi rfl rfl (bn_eql (v := true) (decide_eq_true rfl))) ?_
   refine Mb rfl ?_
   refine L1g (t := 27) (b := true) rfl (by decide) rfl (mv (v := .int _ _) rfl) ?_
   refine L1g (t := 27) (b := true) rfl (by decide) rfl (bi rfl rfl (bn_gtr (v := decide (286 < nl)) (decide_eq_decide.2 (by omega)))) ?_
   refine L1 (pk_t rfl rfl) ?_
   refine nt ?_
   refine cond_d (p := 286 < nl) rfl (fun hbig => ?_) (fun hbig => ?_)
   ·skip
    refine reg_lit ?_
    refine Mp rfl ?_
    refine Np rfl ?_
    refine L1 (fa53_4 rfl) ?_
    refine Lst3 (v := .int .i64 ((1 : Nat) : Int)) rfl rfl rfl hB (by decide) ?_
    intro wx hB kpx
    have hB := hB.congr (fun k _ => rx_4 k)
    have kp := kp.transNew kpx (by simp; omega)
    have kpX := kpX.trans kpx
    have hD2 := hD2.kp kpx (by simp; omega)
    have hD3 := hD3.kp kpx (by simp; omega)
    clear kpx
    refine nt ?_
    exact ⟨_, rfl, rfl, rfl, rfl, nl, nd, nc, p + 14, 1, rfl, rfl, rfl, hD2, hD3, kp, kpX, hB, hp3, ⟨by omega, by omega, by omega, by omega, by omega⟩, .inr ⟨by decide, .inr (.inl ⟨rfl, a.p, _, md_big (by show ¬ 8 * data.length < _; omega) (.inl (by omega))⟩)⟩⟩
   ·skip
    refine skn ?_
    exact ⟨_, rfl, rfl, rfl, rfl, nl, nd, nc, p + 14, 0, rfl, rfl, rfl, hD2, hD3, kp, kpX, hB, hp3, ⟨by omega, by omega, by omega, by omega, by omega⟩, .inl ⟨rfl, by omega, ⟨by show ¬ 8 * data.length < _; omega, hh1, hh2, hh3, by omega⟩⟩⟩
  ·skip
   refine sqr ?_
   refine Mp rfl ?_
   refine Np rfl ?_
   refine L1 (fa53_4 rfl) ?_
   refine L1 (ld3 rfl (hB.cellv (v := .int _ _) (by decide) rfl)) ?_
   refine L1 (bi rfl rfl (bn_eql (v := false) (decide_eq_false (by decide)))) ?_
   refine Mb rfl ?_
   refine Lskip (t := 27) (b := true) rfl (by decide) rfl ?_
   refine Lskip (t := 27) (b := true) rfl (by decide) rfl ?_
   refine L1 (pk_f rfl rfl) ?_
   refine nt ?_
   refine cond_f rfl ?_
   refine skn ?_
   exact ⟨_, rfl, rfl, rfl, rfl, nl, nd, nc, (8 * data.length), 2, rfl, rfl, rfl, hD2, hD3, kp, kpX, hB, Nat.le_refl _, ⟨by omega, by omega, by omega, by omega, by omega⟩, .inr ⟨by decide, .inl ⟨rfl, rfl, md_short (by rw [ha]; exact h14)⟩⟩⟩
 ·skip
  clear hB hD2 hD3 kp kpX hc1 hc2 hc3
  rintro f w5 ⟨s0, s2, s3, nl, nd, nc, q, st, s4, s5, s6, hD2, hD3, kp, kpX, hB, hq, hrng, hcase⟩
  refine slots (fc s0 (fc s2 (fc s3 (fc s4 (fc s5 (fc s6 fnil)))))) ?_
  refine seq_cut (N := 109) (fun f w' => f 0 = .pointer (some ⟨X, 0, none⟩) ∧ f 2 = .pointer (some ⟨D2, 0, none⟩) ∧ f 3 = .pointer (some ⟨D3, 0, none⟩) ∧ ∃ nl nd nc q st : Nat, f 4 = .int .i64 ((nl : Nat) : Int) ∧ f 5 = .int .i64 ((nd : Nat) : Int) ∧ f 6 = .int .i64 ((nc : Nat) : Int) ∧ Bk w' D2 3 56 (fun _ => .slice none 0 0) ∧ Bk w' D3 3 56 (fun _ => .slice none 0 0) ∧ Kp [] w0 w' ∧ Kp [X] w w' ∧ Bk w' X 6 53 (rx dv q ov base st edge) ∧ q ≤ 8 * data.length ∧ (257 ≤ nl ∧ nl ≤ 288 ∧ 1 ≤ nd ∧ nd ≤ 32 ∧ nc ≤ 19) ∧ ((st = 0 ∧ q = a.p + 14 ∧ Lv (srcOf data) a nl nd nc ∧ nd ≤ 30) ∨ (st ≠ 0 ∧ DnE (srcOf data) a q st))) ?_ ?_
  ·skip
   obtain ⟨hr1, hr2, hr3, hr4, hr5⟩ := hrng
   rcases hcase with ⟨rfl, rfl, hlv⟩ | ⟨hst, hdd⟩
   ·skip
    refine sqr ?_
    refine Mp rfl ?_
    refine Np rfl ?_
    refine L1 (fa53_4 rfl) ?_
    refine L1 (ld3 rfl (hB.cellv (v := .int _ _) (by decide) rfl)) ?_
    refine L1 (bi rfl rfl (bn_eql (v := true) (decide_eq_true rfl))) ?_
    refine Mb rfl ?_
    refine L1g (t := 39) (b := true) rfl (by decide) rfl (mv (v := .int _ _) rfl) ?_
    refine L1g (t := 39) (b := true) rfl (by decide) rfl (bi rfl rfl (bn_gtr (v := decide (30 < nd)) (decide_eq_decide.2 (by omega)))) ?_
    refine L1 (pk_t rfl rfl) ?_
    refine nt ?_
    refine cond_d (p := 30 < nd) rfl (fun hbig => ?_) (fun hbig => ?_)
    ·skip
     refine reg_lit ?_
     refine Mp rfl ?_
     refine Np rfl ?_
     refine L1 (fa53_4 rfl) ?_
     refine Lst3 (v := .int .i64 ((3 : Nat) : Int)) rfl rfl rfl hB (by decide) ?_
     intro wx hB kpx
     have hB := hB.congr (fun k _ => rx_4 k)
     have kp := kp.transNew kpx (by simp; omega)
     have kpX := kpX.trans kpx
     have hD2 := hD2.kp kpx (by simp; omega)
     have hD3 := hD3.kp kpx (by simp; omega)
     clear kpx
     refine nt ?_
     exact ⟨_, rfl, rfl, rfl, rfl, nl, nd, nc, _, 3, rfl, rfl, rfl, hD2, hD3, kp, kpX, hB, hq, ⟨by omega, by omega, by omega, by omega, by omega⟩, .inr ⟨by decide, .inr (.inr rfl)⟩⟩
    ·skip
     refine skn ?_
     exact ⟨_, rfl, rfl, rfl, rfl, nl, nd, nc, _, 0, rfl, rfl, rfl, hD2, hD3, kp, kpX, hB, hq, ⟨by omega, by omega, by omega, by omega, by omega⟩, .inl ⟨rfl, rfl, hlv, by omega⟩⟩
   ·skip
    refine sqr ?_
    refine Mp rfl ?_
    refine Np rfl ?_
    refine L1 (fa53_4 rfl) ?_
    refine L1 (ld3 rfl (hB.cellv (v := .int _ _) (by decide) rfl)) ?_
    refine L1 (bi rfl rfl (bn_eql (v := false) (decide_eq_false (by omega)))) ?_
    refine Mb rfl ?_
    refine Lskip (t := 39) (b := true) rfl (by decide) rfl ?_
    refine Lskip (t := 39) (b := true) rfl (by decide) rfl ?_
    refine L1 (pk_f rfl rfl) ?_
    refine nt ?_
    refine cond_f rfl ?_
    refine skn ?_
    exact ⟨_, rfl, rfl, rfl, rfl, nl, nd, nc, _, st, rfl, rfl, rfl, hD2, hD3, kp, kpX, hB, hq, ⟨by omega, by omega, by omega, by omega, by omega⟩, .inr ⟨hst, hdd⟩⟩
  ·skip
   clear hB hD2 hD3 kp kpX hcase hq hrng s0 s2 s3 s4 s5 s6
   rintro f w5 ⟨s0, s2, s3, nl, nd, nc, q, st, s4, s5, s6, hD2, hD3, kp, kpX, hB, hq, hrng, hcase⟩
   obtain ⟨hr1, hr2, hr3, hr4, hr5⟩ := hrng
   refine slots (fc s0 (fc s2 (fc s3 (fc s4 (fc s5 (fc s6 fnil)))))) ?_
   refine sqr ?_
   refine Lmk24 (n := 19) rfl rfl (by omega) ?_
   intro Lb w2 hLe hL kp2 hs2
   have hxLb : D3 < Lb := by have := hD3.lt; omega
   have hD2 := hD2.kp kp2 (by simp)
   have hD3 := hD3.kp kp2 (by simp)
   have hB := hB.kp kp2 (by simp)
   have kp := kp.trans kp2
   have kpX := kpX.trans (kp2.mono (by simp))
   refine L1 (asg (v := (.slice (some ⟨Lb, 0, none⟩) 19 19)) rfl) ?_
   refine nt ?_
   refine seq_cut (N := 109) (fun f w' => f 0 = .pointer (some ⟨X, 0, none⟩) ∧ f 2 = .pointer (some ⟨D2, 0, none⟩) ∧ f 3 = .pointer (some ⟨D3, 0, none⟩) ∧ f 4 = .int .i64 ((nl : Nat) : Int) ∧ f 5 = .int .i64 ((nd : Nat) : Int) ∧ f 6 = .int .i64 ((nc : Nat) : Int) ∧ f 7 = .slice (some ⟨Lb, 0, none⟩) 19 19 ∧ ∃ (cs : Nat → Value) (F : Nat → Nat) (j q st : Nat), Bk w' Lb 19 3 cs ∧ CL cs F j 19 ∧ Bk w' D2 3 56 (fun _ => .slice none 0 0) ∧ Bk w' D3 3 56 (fun _ => .slice none 0 0) ∧ Kp [] w0 w' ∧ Kp [X] w w' ∧ Bk w' X 6 53 (rx dv q ov base st edge) ∧ q ≤ 8 * data.length ∧ ((st = 0 ∧ Lv (srcOf data) a nl nd nc ∧ nd ≤ 30 ∧ ∃ posq, clLens (srcOf data) (nC (srcOf data) a) (a.p + 14) (rdTo a.p a.pos 14) (fun _ => 0) = some (F, q, posq)) ∨ (st ≠ 0 ∧ DnE (srcOf data) a q st))) ?_ ?_
   ·skip
    refine sqr ?_
    refine Ai rfl ?_
    refine nt ?_
    refine wp_block ?_
    have hJ0 : ∃ k0, (st = 0 ∧ 0 ≤ nc ∧ k0 = nc - 0 + 1 ∧ Lv (srcOf data) a nl nd nc ∧ nd ≤ 30 ∧ CL (fun _ => .int .i64 0) (fun _ => 0) 0 19 ∧ ∃ posq, clLens (srcOf data) 0 (a.p + 14) (rdTo a.p a.pos 14) (fun _ => 0) = some (fun _ => 0, q, posq)) ∨ (st ≠ 0 ∧ k0 = 0 ∧ 0 ≤ 1000 ∧ (∃ j, CL (fun _ => .int .i64 0) (fun _ => 0) j 19) ∧ DnE (srcOf data) a q st) := by
     rcases hcase with ⟨h1, h2, h3, h4⟩ | ⟨h1, h2⟩
     ·exact ⟨_, .inl ⟨h1, Nat.zero_le _, rfl, h3, h4, CL.zeros, _, by rw [h2]; rfl⟩⟩
     ·exact ⟨0, .inr ⟨h1, rfl, by omega, ⟨0, CL.zeros⟩, h2⟩⟩
    obtain ⟨k0, hJ0⟩ := hJ0
    refine loop_fr (fun k f w' => f 0 = .pointer (some ⟨X, 0, none⟩) ∧ f 2 = .pointer (some ⟨D2, 0, none⟩) ∧ f 3 = .pointer (some ⟨D3, 0, none⟩) ∧ f 4 = .int .i64 ((nl : Nat) : Int) ∧ f 5 = .int .i64 ((nd : Nat) : Int) ∧ f 6 = .int .i64 ((nc : Nat) : Int) ∧ f 7 = .slice (some ⟨Lb, 0, none⟩) 19 19 ∧ ∃ (i : Nat) (cs : Nat → Value) (F : Nat → Nat) (q st : Nat), f 8 = .int .i64 ((i : Nat) : Int) ∧ Bk w' Lb 19 3 cs ∧ Bk w' D2 3 56 (fun _ => .slice none 0 0) ∧ Bk w' D3 3 56 (fun _ => .slice none 0 0) ∧ Kp [] w0 w' ∧ Kp [X] w w' ∧ Bk w' X 6 53 (rx dv q ov base st edge) ∧ q ≤ 8 * data.length ∧ ((st = 0 ∧ i ≤ nc ∧ k = nc - i + 1 ∧ Lv (srcOf data) a nl nd nc ∧ nd ≤ 30 ∧ CL cs F i 19 ∧ ∃ posq, clLens (srcOf data) i (a.p + 14) (rdTo a.p a.pos 14) (fun _ => 0) = some (F, q, posq)) ∨ (st ≠ 0 ∧ k = 0 ∧ i ≤ 1000 ∧ (∃ j, CL cs F j 19) ∧ DnE (srcOf data) a q st))) k0 ⟨rfl, rfl, rfl, rfl, rfl, rfl, rfl, 0, _, _, q, st, rfl, hL, hD2, hD3, kp, kpX, hB, hq, hJ0⟩ ?_
    clear hL hD2 hD3 kp kpX hB hq hJ0 hcase kp2 s0 s2 s3 s4 s5 s6
    intro k f w6 HJ
    obtain ⟨s0, s2, s3, s4, s5, s6, s7, i, cs, F, q, st, s8, hL, hD2, hD3, kp, kpX, hB, hq, hcase⟩ := HJ
    refine slots (fc s0 (fc s2 (fc s3 (fc s4 (fc s5 (fc s6 (fc s7 (fc s8 fnil)))))))) ?_
    rcases hcase with ⟨rfl, hin, rfl, hlv, hnd30, hcl, posq, hcll⟩ | ⟨hst, rfl, hi1000, ⟨j, hcl⟩, hdd⟩
    ·skip
     have hni := hlv.nc
     have hnc19 := nC_le (srcOf data) a
     by_cases hlt : i < nc
     ·skip
      refine wp_seq ?_
      refine sqr ?_
      refine Mi rfl ?_
      refine Mi rfl ?_
      refine L1 (bi rfl rfl (bn_lss (v := true) (decide_eq_true (by omega)))) ?_
      refine Mb rfl ?_
      refine L1g (t := 50) (b := true) rfl (by decide) rfl (mv (v := .pointer _) rfl) ?_
      refine L1g (t := 50) (b := true) rfl (by decide) rfl (nilP rfl) ?_
      refine L1g (t := 50) (b := true) rfl (by decide) rfl (fa53_4 rfl) ?_
      refine L1g (t := 50) (b := true) rfl (by decide) rfl (ld3 rfl (hB.cellv (v := .int _ _) (by decide) rfl)) ?_
      refine L1g (t := 50) (b := true) rfl (by decide) rfl (bi rfl rfl (bn_eql (v := true) (decide_eq_true rfl))) ?_
      refine L1 (pk_t rfl rfl) ?_
      refine nt ?_
      refine cond_t rfl ?_
      refine skn ?_
      refine wp_seq ?_
      refine wp_block ?_
      refine reg_br 9 (fun f w' => f 0 = .pointer (some ⟨X, 0, none⟩) ∧ f 2 = .pointer (some ⟨D2, 0, none⟩) ∧ f 3 = .pointer (some ⟨D3, 0, none⟩) ∧ f 4 = .int .i64 ((nl : Nat) : Int) ∧ f 5 = .int .i64 ((nd : Nat) : Int) ∧ f 6 = .int .i64 ((nc : Nat) : Int) ∧ f 7 = .slice (some ⟨Lb, 0, none⟩) 19 19 ∧ f 8 = .int .i64 ((i : Nat) : Int) ∧ ∃ z q2 st2 : Nat, Bk w' Lb 19 3 (upd cs (ordN i) (.int .i64 (z : Int))) ∧ Bk w' D2 3 56 (fun _ => .slice none 0 0) ∧ Bk w' D3 3 56 (fun _ => .slice none 0 0) ∧ Kp [] w0 w' ∧ Kp [X] w w' ∧ Bk w' X 6 53 (rx dv q2 ov base st2 edge) ∧ z ≤ 7 ∧ q2 ≤ 8 * data.length ∧ ((q + 3 ≤ 8 * data.length ∧ z = bv (srcOf data).D q 3 ∧ q2 = q + 3 ∧ st2 = 0) ∨ (8 * data.length < q + 3 ∧ z = 0 ∧ q2 = 8 * data.length ∧ st2 = 2))) mixed (by kernel_rfl) ?_ ?_
      ·skip
       have hB := hB.drew
       have kp := kp.drew
       have kpX := kpX.drew
       have hD2 := hD2.drew
       have hD3 := hD3.drew
       have hL := hL.drew
       refine br_p 0 rfl (by kernel_rfl) (fun w => mv (v := (.slice (some ⟨Lb, 0, none⟩) 19 19)) rfl) ?_
       refine br_p 2 rfl (by kernel_rfl) (fun w => mv (v := .int _ _) rfl) ?_
       refine br_p 5 rfl (by kernel_rfl) (fun w => mv (v := .pointer _) rfl) ?_
       have hXlt9 := hB.lt
       refine br_1 1 (by kernel_rfl) ?_
       refine e_c rfl (cl0 has31 rfl) (order_r _) ?_
       rintro v w7 ⟨ob, hob, rfl, hO, kp7⟩
       have hObX : ¬ ob = X := by have := hB.lt; omega
       have hD2 := hD2.kp kp7 (by simp)
       have hD3 := hD3.kp kp7 (by simp)
       have hL := hL.kp kp7 (by simp)
       have hB := hB.kp kp7 (by simp)
       have kp := kp.trans kp7
       have kpX := kpX.trans (kp7.mono (by simp))
       refine br_p 3 rfl (by kernel_rfl) (fun w => ixgb und24 sz3 rfl rfl rfl (j := i) (by omega)) ?_
       refine br_2 4 6 (by kernel_rfl) ?_ ?_
       ·skip
        refine e_v rfl (ld3 (v := .int .i64 ((ordN i : Nat) : Int)) rfl (by rw [Nat.zero_add]; exact hO.cell (by omega))) ?_
        refine br_1 6 (by kernel_rfl) ?_
        refine e_c rfl (cl2 has19 rfl rfl rfl) (bits_r2 hE ⟨hB, kp⟩ hq 3 (by decide)) ?_
        rintro v w8 ⟨z, q2, st2, rfl, kp8, hz8, hq2, ⟨hB, kp⟩, hc⟩
        have hpw3 : 2 ^ 3 = 8 := by decide
        have hD2 := hD2.kp kp8 (by simp; omega)
        have hD3 := hD3.kp kp8 (by simp; omega)
        have hL := hL.kp kp8 (by simp; omega)
        have kpX := kpX.trans kp8
        refine br_1 7 (by kernel_rfl) ?_
        refine e_v rfl (ixgb und24 sz3 rfl rfl rfl (j := ordN i) (ordN_lt i (by omega))) ?_
        refine br_1 8 (by kernel_rfl) ?_
        refine e_st 3 sz3 (k := ordN i) (v := .int .i64 ((z : Nat) : Int)) rfl (by show Value.pointer (some ⟨Lb, 0 + ordN i, none⟩) = _; rw [Nat.zero_add]) rfl rfl hL (ordN_lt i (by omega)) ?_
        intro w9 hL kp9
        have hD2 := hD2.kp kp9 (by simp; omega)
        have hD3 := hD3.kp kp9 (by simp; omega)
        have hB := hB.kp kp9 (by simp; omega)
        have kp := kp.transNew kp9 (by simp; omega)
        have kpX := kpX.transNew kp9 (by simp; omega)
        refine br_nil (by kernel_rfl) ?_
        exact ⟨_, rfl, rfl, rfl, rfl, rfl, rfl, rfl, rfl, rfl, z, q2, st2, hL, hD2, hD3, kp, kpX, hB, by omega, hq2, hc⟩
       ·skip
        refine e_c rfl (cl2 has19 rfl rfl rfl) (bits_r2 hE ⟨hB, kp⟩ hq 3 (by decide)) ?_
        rintro v w8 ⟨z, q2, st2, rfl, kp8, hz8, hq2, ⟨hB, kp⟩, hc⟩
        have hpw3 : 2 ^ 3 = 8 := by decide
        have hD2 := hD2.kp kp8 (by simp; omega)
        have hD3 := hD3.kp kp8 (by simp; omega)
        have hL := hL.kp kp8 (by simp; omega)
        have kpX := kpX.trans kp8
        have hO := hO.kp kp8 (by simp; exact hObX)
        refine br_1 4 (by kernel_rfl) ?_
        refine e_v rfl (ld3 (v := .int .i64 ((ordN i : Nat) : Int)) rfl (by rw [Nat.zero_add]; exact hO.cell (by omega))) ?_
        refine br_1 7 (by kernel_rfl) ?_
        refine e_v rfl (ixgb und24 sz3 rfl rfl rfl (j := ordN i) (ordN_lt i (by omega))) ?_
        refine br_1 8 (by kernel_rfl) ?_
        refine e_st 3 sz3 (k := ordN i) (v := .int .i64 ((z : Nat) : Int)) rfl (by show Value.pointer (some ⟨Lb, 0 + ordN i, none⟩) = _; rw [Nat.zero_add]) rfl rfl hL (ordN_lt i (by omega)) ?_
        intro w9 hL kp9
        have hD2 := hD2.kp kp9 (by simp; omega)
        have hD3 := hD3.kp kp9 (by simp; omega)
        have hB := hB.kp kp9 (by simp; omega)
        have kp := kp.transNew kp9 (by simp; omega)
        have kpX := kpX.transNew kp9 (by simp; omega)
        refine br_nil (by kernel_rfl) ?_
        exact ⟨_, rfl, rfl, rfl, rfl, rfl, rfl, rfl, rfl, rfl, z, q2, st2, hL, hD2, hD3, kp, kpX, hB, by omega, hq2, hc⟩
      rintro f w9 ⟨s0, s2, s3, s4, s5, s6, s7, s8, z, q2, st2, hL, hD2, hD3, kp, kpX, hB, hz7, hq2, hc⟩
      refine inb_n ?_
      refine then_n ?_
      refine slots (fc s0 (fc s2 (fc s3 (fc s4 (fc s5 (fc s6 (fc s7 (fc s8 fnil)))))))) ?_
      refine reg_lit ?_
      refine Mi rfl ?_
      refine L1 (bi rfl rfl (bn_add (c := ((i + 1 : Nat) : Int)) (by omega) (by omega) (by omega))) ?_
      refine Ai rfl ?_
      refine nt ?_
      rcases hc with ⟨hc1, rfl, rfl, rfl⟩ | ⟨hc1, rfl, rfl, rfl⟩
      ·exact ⟨_, _, by omega, rfl, rfl, rfl, rfl, rfl, rfl, rfl, rfl, i + 1, _, _, q + 3, 0, rfl, hL, hD2, hD3, kp, kpX, hB, by omega, .inl ⟨rfl, by omega, rfl, hlv, hnd30, hcl.put (by omega) (by omega), _, clLens_step hcll (by show _ ≤ 8 * data.length; omega)⟩⟩
      ·exact ⟨0, _, by omega, rfl, rfl, rfl, rfl, rfl, rfl, rfl, rfl, i + 1, _, _, 8 * data.length, 2, rfl, hL, hD2, hD3, kp, kpX, hB, Nat.le_refl _, .inr ⟨by decide, rfl, by omega, ⟨_, hcl.put (by omega) (by omega)⟩, .inl ⟨rfl, rfl, md_cln hlv.h14 (hlv.not hnd30) (clLens_none2 hcll (by show 8 * data.length < _; omega) (by omega))⟩⟩⟩
     ·skip
      obtain rfl : i = nc := by omega
      refine wp_seq ?_
      refine sqr ?_
      refine Mi rfl ?_
      refine Mi rfl ?_
      refine L1 (bi rfl rfl (bn_lss (v := false) (decide_eq_false (by omega)))) ?_
      refine Mb rfl ?_
      refine Lskip (t := 50) (b := true) rfl (by decide) rfl ?_
      refine Lskip (t := 50) (b := true) rfl (by decide) rfl ?_
      refine Lskip (t := 50) (b := true) rfl (by decide) rfl ?_
      refine Lskip (t := 50) (b := true) rfl (by decide) rfl ?_
      refine Lskip (t := 50) (b := true) rfl (by decide) rfl ?_
      refine L1 (pk_f rfl rfl) ?_
      refine nt ?_
      refine cond_f rfl ?_
      refine wp_exit ?_
      refine then_e ?_
      refine then_e ?_
      refine inb_same ?_
      refine then_n ?_
      exact ⟨_, rfl, rfl, rfl, rfl, rfl, rfl, rfl, rfl, cs, F, i, q, 0, hL, hcl, hD2, hD3, kp, kpX, hB, hq, .inl ⟨rfl, hlv, hnd30, _, by rw [← hni]; exact hcll⟩⟩
    ·skip
     by_cases hlt : i < nc
     ·skip
      refine wp_seq ?_
      refine sqr ?_
      refine Mi rfl ?_
      refine Mi rfl ?_
      refine L1 (bi rfl rfl (bn_lss (v := true) (decide_eq_true (by omega)))) ?_
      refine Mb rfl ?_
      refine L1g (t := 50) (b := true) rfl (by decide) rfl (mv (v := .pointer _) rfl) ?_
      refine L1g (t := 50) (b := true) rfl (by decide) rfl (nilP rfl) ?_
      refine L1g (t := 50) (b := true) rfl (by decide) rfl (fa53_4 rfl) ?_
      refine L1g (t := 50) (b := true) rfl (by decide) rfl (ld3 rfl (hB.cellv (v := .int _ _) (by decide) rfl)) ?_
      refine L1g (t := 50) (b := true) rfl (by decide) rfl (bi rfl rfl (bn_eql (v := false) (decide_eq_false (by omega)))) ?_
      refine L1 (pk_t rfl rfl) ?_
      refine nt ?_
      refine cond_f rfl ?_
      refine wp_exit ?_
      refine then_e ?_
      refine then_e ?_
      refine inb_same ?_
      refine then_n ?_
      exact ⟨_, rfl, rfl, rfl, rfl, rfl, rfl, rfl, rfl, cs, F, j, q, st, hL, hcl, hD2, hD3, kp, kpX, hB, hq, .inr ⟨hst, hdd⟩⟩
     ·skip
      refine wp_seq ?_
      refine sqr ?_
      refine Mi rfl ?_
      refine Mi rfl ?_
      refine L1 (bi rfl rfl (bn_lss (v := false) (decide_eq_false (by omega)))) ?_
      refine Mb rfl ?_
      refine Lskip (t := 50) (b := true) rfl (by decide) rfl ?_
      refine Lskip (t := 50) (b := true) rfl (by decide) rfl ?_
      refine Lskip (t := 50) (b := true) rfl (by decide) rfl ?_
      refine Lskip (t := 50) (b := true) rfl (by decide) rfl ?_
      refine Lskip (t := 50) (b := true) rfl (by decide) rfl ?_
      refine L1 (pk_f rfl rfl) ?_
      refine nt ?_
      refine cond_f rfl ?_
      refine wp_exit ?_
      refine then_e ?_
      refine then_e ?_
      refine inb_same ?_
      refine then_n ?_
      exact ⟨_, rfl, rfl, rfl, rfl, rfl, rfl, rfl, rfl, cs, F, j, q, st, hL, hcl, hD2, hD3, kp, kpX, hB, hq, .inr ⟨hst, hdd⟩⟩
   ·skip
    clear hB hD2 hD3 kp kpX hL hcase hq s0 s2 s3 s4 s5 s6
    rintro f w8 ⟨s0, s2, s3, s4, s5, s6, s7, cs, F, j, q, st, hL, hcl, hD2, hD3, kp, kpX, hB, hq, hcase2⟩
    refine slots (fc s0 (fc s2 (fc s3 (fc s4 (fc s5 (fc s6 (fc s7 fnil))))))) ?_
    refine sqr ?_
    refine L1 (mv (v := (.slice (some ⟨Lb, 0, none⟩) 19 19)) rfl) ?_
    have hLA := hcl.agn hL
    refine LC (cl1 has27 rfl rfl) (made_r hLA (by simp)) ?_
    rintro v w9 ⟨B9, hC9, hB9, kp9⟩
    have hLl := hL.lt
    have hXB9 : X ∉ B9 := fun hm => by
     rcases hB9 _ hm with h | h
     ·simp at h; omega
     ·have := hB.lt; omega
    have hD2 := hD2.kp kp9 (by simp)
    have hD3 := hD3.kp kp9 (by simp)
    have hL := hL.kp kp9 (by simp)
    have hB := hB.kp kp9 (by simp)
    have kp := kp.trans kp9
    have kpX := kpX.trans (kp9.mono (by simp))
    obtain ⟨lv9, cv9, sv9, rfl, _, _, _, ho9⟩ := id hC9
    have hB9u : ∀ b ∈ B9, b < w9.heap.size := fun b hb => by
     rcases hB9 _ hb with h | h
     ·simp at h; subst h; exact hL.lt
     ·exact h.2
    refine Lal56 ?_
    intro D9 w10 hD9e hD9 kp10 hs10
    have hxD9 : Lb < D9 := by have := hL.lt; omega
    have h99 : D9 ∉ B9 := fun hm => by have := hB9u _ hm; omega
    have hC9 := hC9.kp kp10 (by simp)
    have hD2 := hD2.kp kp10 (by simp)
    have hD3 := hD3.kp kp10 (by simp)
    have hL := hL.kp kp10 (by simp)
    have hB := hB.kp kp10 (by simp)
    have kp := kp.trans kp10
    have kpX := kpX.trans (kp10.mono (by simp))
    refine Lst56 rfl rfl ho9 hD9 ?_
    intro w11 hD9 kp11 _
    have hC9 := hC9.kp kp11 (fun b hb hm => h99 (by simp at hm; rwa [← hm]))
    have hD2 := hD2.kp kp11 (by simp; omega)
    have hD3 := hD3.kp kp11 (by simp; omega)
    have hL := hL.kp kp11 (by simp; omega)
    have hB := hB.kp kp11 (by simp; omega)
    have kp := kp.transNew kp11 (by simp; omega)
    have kpX := kpX.transNew kp11 (by simp; omega)
    refine nt ?_
    refine sqr ?_
    refine Mp rfl ?_
    refine L1 (ld56 rfl hD9 (by decide) rfl rfl rfl) ?_
    refine LC (cl3 has32 rfl rfl rfl rfl) (judge_r hE ⟨hB, kp⟩ hC9 (by simp) false) ?_
    rintro v w12 ⟨kp12, ⟨hB, kp⟩⟩
    have hD2 := hD2.kp kp12 (by simp; omega)
    have hD3 := hD3.kp kp12 (by simp; omega)
    have hL := hL.kp kp12 (by simp; omega)
    have hD9 := hD9.kp kp12 (by simp; omega)
    have kpX := kpX.trans kp12
    have hC9 := hC9.kp kp12 (fun b hb hm => hXB9 (by simp at hm; rwa [← hm]))
    refine wpList_nil ?_
    have h15c : mx ((List.range 19).map F) ≤ 15 := mx_le15 hcl.l15
    have hcase3 : (jd ((List.range 19).map F) false st = 0 ∧ Lv (srcOf data) a nl nd nc ∧ nd ≤ 30 ∧ kf ((List.range 19).map F) 15 = 32768 ∧ ∃ posq, clLens (srcOf data) (nC (srcOf data) a) (a.p + 14) (rdTo a.p a.pos 14) (fun _ => 0) = some (F, q, posq)) ∨ (jd ((List.range 19).map F) false st ≠ 0 ∧ DnE (srcOf data) a q (jd ((List.range 19).map F) false st)) := by
     rcases hcase2 with ⟨h1, h2, h3, posq, h4⟩ | ⟨h1, h2⟩
     ·subst h1
      rcases jd_three (L := ((List.range 19).map F)) (ds := false) (st := 0) with e | e | e
      ·exact .inl ⟨e, h2, h3, jd_lit h15c e, posq, h4⟩
      ·exact .inr ⟨by rw [e]; decide, by rw [e]; exact .inr (.inl ⟨rfl, q, posq, md_clb h2.h14 (h2.not h3) h4 (jd_one h15c e)⟩)⟩
      ·exact .inr ⟨by rw [e]; decide, by rw [e]; exact .inr (.inr rfl)⟩
     ·rw [jd_st h1]; exact .inr ⟨h1, h2⟩
    obtain ⟨st3, hst3⟩ : ∃ s, jd ((List.range 19).map F) false st = s := ⟨_, rfl⟩
    rw [hst3] at hcase3 hB
    clear hcase2 hst3
    rcases hcase3 with ⟨rfl, hlv, hnd30, hkf, posq, hcll⟩ | ⟨hst3, hdd⟩
    ·skip
     refine then_n ?_
     refine sqr ?_
     refine Mp rfl ?_
     refine L1 (ld56 rfl hD9 (by decide) rfl rfl rfl) ?_
     refine Mi rfl ?_
     refine Mi rfl ?_
     refine L1 (bi rfl rfl (bn_add (c := ((nl + nd : Nat) : Int)) (by omega) (by omega) (by omega))) ?_
     have hLr := lengths_r hE ⟨hB, kp⟩ hq hC9 hXB9 (by simp) (fun x hx => by obtain ⟨j, _, rfl⟩ := List.mem_map.1 hx; have := hcl.le j; omega) hkf posq (nl + nd) (by omega)
     refine LC (cl3 has33 rfl rfl rfl rfl) hLr ?_
     rintro sv w13 ⟨kp13, l, v, rfl, hS, hso, hres⟩
     have hD9l := hD9.lt
     have hXl := hB.lt
     have hwl := kpX.size
     have hD2 := hD2.kp kp13 (by simp; omega)
     have hD3 := hD3.kp kp13 (by simp; omega)
     have hL := hL.kp kp13 (by simp; omega)
     have hD9 := hD9.kp kp13 (by simp; omega)
     have kpX := kpX.trans kp13
     refine L1 (asg (v := sv) rfl) ?_
     refine wpList_nil ?_
     have hnn := hlv.not hnd30
     have hok9 := full_ok h15c hkf
     have hnlL := hlv.nl
     have hndD := hlv.nd
     have hl286 := hlv.l286
     rcases hres with ⟨p4, pos4, hrd, hln, hl15, hp4, ⟨hB, kp⟩⟩ | ⟨hrd, ⟨hB, kp⟩⟩ | ⟨p4, pos4, hrd, hp4, ⟨hB, kp⟩⟩
     all_goals rw [hnlL, hndD] at hrd
     ·skip
      obtain ⟨sb, sc, rfl, hlc, hT, hR⟩ := hS.cut (n := nl) (by omega)
      have hsb : D9 < sb := by have := hso sb rfl; omega
      have hsbl : sb < w13.heap.size := hS.lt rfl
      have hrdp : a.pos = (a.p + 7) / 8 → pos4 = (p4 + 7) / 8 := fun h => rdLens_pos (full_kraft h15c hkf) _ _ _ _ _ _ _ hrd (clLens_pos _ _ _ _ _ _ _ hcll (rdTo_ex h))
      clear hS hso kp13
      refine then_n ?_
      refine wp_seq ?_
      refine sqr ?_
      refine Mp rfl ?_
      refine Np rfl ?_
      refine L1 (fa53_4 rfl) ?_
      refine L1 (ld3 rfl (hB.cellv (v := .int _ _) (by decide) rfl)) ?_
      refine L1 (bi rfl rfl (bn_neq (v := false) (decide_eq_true rfl))) ?_
      refine nt ?_
      refine cond_f rfl ?_
      refine skn ?_
      refine wp_seq ?_
      refine reg_br 12 (fun f w' => f 0 = .pointer (some ⟨X, 0, none⟩) ∧ f 2 = .pointer (some ⟨D2, 0, none⟩) ∧ f 3 = .pointer (some ⟨D3, 0, none⟩) ∧ ∃ (dA dB : Nat) (l1 c1 s1 l2 c2 s2 : Value) (B1 B2 : List Nat), f 11 = .pointer (some ⟨dA, 0, none⟩) ∧ f 12 = .pointer (some ⟨dB, 0, none⟩) ∧ Bk w' dA 3 56 (c56 l1 c1 s1) ∧ Bk w' dB 3 56 (c56 l2 c2 s2) ∧ CV w' B1 (.agg #[l1, c1, s1]) (l.take nl) ∧ CV w' B2 (.agg #[l2, c2, s2]) (l.drop nl) ∧ (D3 < dA ∧ D3 < dB ∧ (∀ b ∈ B1, D3 < b) ∧ (∀ b ∈ B2, D3 < b)) ∧ Bk w' D2 3 56 (fun _ => .slice none 0 0) ∧ Bk w' D3 3 56 (fun _ => .slice none 0 0) ∧ Kp [] w0 w' ∧ Kp [X] w w' ∧ Bk w' X 6 53 (rx dv p4 ov base 0 edge)) mixed (by kernel_rfl) ?_ ?_
      ·skip
       have hB := hB.drew
       have kp := kp.drew
       have kpX := kpX.drew
       have hD2 := hD2.drew
       have hD3 := hD3.drew
       have hT := hT.kp ((Kp.refl [] w13).drew) (by simp)
       have hR := hR.kp ((Kp.refl [] w13).drew) (by simp)
       have hsbl : sb < w13.drew.heap.size := hsbl
       have hD9l : D3 < sb := by omega
       refine br_p 0 rfl (by kernel_rfl) (fun w => mv (v := (.slice (some ⟨sb, 0, none⟩) l.length sc)) rfl) ?_
       refine br_p 1 rfl (by kernel_rfl) (fun w => mv (v := .int _ _) rfl) ?_
       refine br_p 4 rfl (by kernel_rfl) (fun w => mv (v := (.slice (some ⟨sb, 0, none⟩) l.length sc)) rfl) ?_
       refine br_p 5 rfl (by kernel_rfl) (fun w => mv (v := .int _ _) rfl) ?_
       refine br_p 2 rfl (by kernel_rfl) (fun w => sl_h und24 sz3 rfl rfl rfl (by omega)) ?_
       refine br_p 6 rfl (by kernel_rfl) (fun w => sl_l und24 sz3 rfl rfl rfl (by omega)) ?_
       refine br_3 3 8 9 (by kernel_rfl) ?_ ?_ ?_
       ·skip
        refine e_c rfl (cl1 has27 rfl rfl) (made_r hT (by simp; omega)) ?_
        rintro v w20 ⟨B1, hC1, hb1, kpk⟩
        obtain ⟨l1, c1, s1, rfl, _, _, _, ho1⟩ := id hC1
        have hu1 : ∀ b ∈ B1, b < w20.heap.size := fun b hb => by
         have := kpk.size
         rcases hb1 _ hb with h | h
         ·simp at h; omega
         ·exact h.2
        have hlo1 : ∀ b ∈ B1, D3 < b := fun b hb => by
         have := hD3.lt
         rcases hb1 _ hb with h | h
         ·simp at h; omega
         ·omega
        have hD2 := hD2.kp kpk (by simp)
        have hD3 := hD3.kp kpk (by simp)
        have hB := hB.kp kpk (by simp)
        have kp := kp.trans kpk
        have kpX := kpX.trans (kpk.mono (by simp))
        have hT := hT.kp kpk (by simp)
        have hR := hR.kp kpk (by simp)
        have hsbl := Nat.lt_of_lt_of_le hsbl kpk.size
        refine br_3 7 8 9 (by kernel_rfl) ?_ ?_ ?_
        ·skip
         refine e_c rfl (cl1 has27 rfl rfl) (made_r hR (by simp; omega)) ?_
         rintro v w20 ⟨B2, hC2, hb2, kpk⟩
         obtain ⟨l2, c2, s2, rfl, _, _, _, ho2⟩ := id hC2
         have hu2 : ∀ b ∈ B2, b < w20.heap.size := fun b hb => by
          have := kpk.size
          rcases hb2 _ hb with h | h
          ·simp at h; omega
          ·exact h.2
         have hlo2 : ∀ b ∈ B2, D3 < b := fun b hb => by
          have := hD3.lt
          rcases hb2 _ hb with h | h
          ·simp at h; omega
          ·omega
         have hD2 := hD2.kp kpk (by simp)
         have hD3 := hD3.kp kpk (by simp)
         have hB := hB.kp kpk (by simp)
         have kp := kp.trans kpk
         have kpX := kpX.trans (kpk.mono (by simp))
         have hT := hT.kp kpk (by simp)
         have hR := hR.kp kpk (by simp)
         have hsbl := Nat.lt_of_lt_of_le hsbl kpk.size
         have hC1 := hC1.kp kpk (by simp)
         have hu1 := fun b hb => Nat.lt_of_lt_of_le (hu1 b hb) kpk.size
         refine br_2 8 9 (by kernel_rfl) ?_ ?_
         ·skip
          refine e_al56 rfl ?_
          intro dA w20 dAe hA kpk hsk
          have hxdA : D3 < dA := by have := hD3.lt; omega
          have hsdA : sb < dA := by omega
          have hA1 : dA ∉ B1 := fun hm => by have := hu1 _ hm; omega
          have hA2 : dA ∉ B2 := fun hm => by have := hu2 _ hm; omega
          have hD2 := hD2.kp kpk (by simp)
          have hD3 := hD3.kp kpk (by simp)
          have hB := hB.kp kpk (by simp)
          have kp := kp.trans kpk
          have kpX := kpX.trans (kpk.mono (by simp))
          have hT := hT.kp kpk (by simp)
          have hR := hR.kp kpk (by simp)
          have hsbl := Nat.lt_of_lt_of_le hsbl kpk.size
          have hC1 := hC1.kp kpk (by simp)
          have hu1 := fun b hb => Nat.lt_of_lt_of_le (hu1 b hb) kpk.size
          have hC2 := hC2.kp kpk (by simp)
          have hu2 := fun b hb => Nat.lt_of_lt_of_le (hu2 b hb) kpk.size
          refine br_1 9 (by kernel_rfl) ?_
          refine e_al56 rfl ?_
          intro dB w20 dBe hBB kpk hsk
          have hxdB : D3 < dB := by have := hD3.lt; omega
          have hsdB : sb < dB := by omega
          have hB1 : dB ∉ B1 := fun hm => by have := hu1 _ hm; omega
          have hB2 : dB ∉ B2 := fun hm => by have := hu2 _ hm; omega
          have hAB : dA < dB := by have := hA.lt; omega
          have hD2 := hD2.kp kpk (by simp)
          have hD3 := hD3.kp kpk (by simp)
          have hB := hB.kp kpk (by simp)
          have kp := kp.trans kpk
          have kpX := kpX.trans (kpk.mono (by simp))
          have hT := hT.kp kpk (by simp)
          have hR := hR.kp kpk (by simp)
          have hsbl := Nat.lt_of_lt_of_le hsbl kpk.size
          have hC1 := hC1.kp kpk (by simp)
          have hu1 := fun b hb => Nat.lt_of_lt_of_le (hu1 b hb) kpk.size
          have hC2 := hC2.kp kpk (by simp)
          have hu2 := fun b hb => Nat.lt_of_lt_of_le (hu2 b hb) kpk.size
          have hA := hA.kp kpk (by simp)
          refine br_1 10 (by kernel_rfl) ?_
          refine e_st56 rfl rfl rfl ho1 hA ?_
          intro w21 hA kpk _
          have hBB := hBB.kp kpk (by simp; omega)
          have hC1 := hC1.kp kpk (fun b hb hm => hA1 (by simp at hm; rwa [← hm]))
          have hC2 := hC2.kp kpk (fun b hb hm => hA2 (by simp at hm; rwa [← hm]))
          have hD2 := hD2.kp kpk (by simp; omega)
          have hD3 := hD3.kp kpk (by simp; omega)
          have hB := hB.kp kpk (by simp; omega)
          have kp := kp.transNew kpk (by simp; omega)
          have kpX := kpX.transNew kpk (by simp; omega)
          refine br_1 11 (by kernel_rfl) ?_
          refine e_st56 rfl rfl rfl ho2 hBB ?_
          intro w22 hBB kpk _
          have hA := hA.kp kpk (by simp; omega)
          have hC1 := hC1.kp kpk (fun b hb hm => hB1 (by simp at hm; rwa [← hm]))
          have hC2 := hC2.kp kpk (fun b hb hm => hB2 (by simp at hm; rwa [← hm]))
          have hD2 := hD2.kp kpk (by simp; omega)
          have hD3 := hD3.kp kpk (by simp; omega)
          have hB := hB.kp kpk (by simp; omega)
          have kp := kp.transNew kpk (by simp; omega)
          have kpX := kpX.transNew kpk (by simp; omega)
          refine br_nil (by kernel_rfl) ?_
          exact ⟨_, rfl, rfl, rfl, rfl, dA, dB, l1, c1, s1, l2, c2, s2, B1, B2, rfl, rfl, hA, hBB, hC1, hC2, ⟨by omega, by omega, hlo1, hlo2⟩, hD2, hD3, kp, kpX, hB⟩
         ·skip
          refine e_al56 rfl ?_
          intro dB w20 dBe hBB kpk hsk
          have hxdB : D3 < dB := by have := hD3.lt; omega
          have hsdB : sb < dB := by omega
          have hB1 : dB ∉ B1 := fun hm => by have := hu1 _ hm; omega
          have hB2 : dB ∉ B2 := fun hm => by have := hu2 _ hm; omega
          have hD2 := hD2.kp kpk (by simp)
          have hD3 := hD3.kp kpk (by simp)
          have hB := hB.kp kpk (by simp)
          have kp := kp.trans kpk
          have kpX := kpX.trans (kpk.mono (by simp))
          have hT := hT.kp kpk (by simp)
          have hR := hR.kp kpk (by simp)
          have hsbl := Nat.lt_of_lt_of_le hsbl kpk.size
          have hC1 := hC1.kp kpk (by simp)
          have hu1 := fun b hb => Nat.lt_of_lt_of_le (hu1 b hb) kpk.size
          have hC2 := hC2.kp kpk (by simp)
          have hu2 := fun b hb => Nat.lt_of_lt_of_le (hu2 b hb) kpk.size
          refine br_1 8 (by kernel_rfl) ?_
          refine e_al56 rfl ?_
          intro dA w20 dAe hA kpk hsk
          have hxdA : D3 < dA := by have := hD3.lt; omega
          have hsdA : sb < dA := by omega
          have hA1 : dA ∉ B1 := fun hm => by have := hu1 _ hm; omega
          have hA2 : dA ∉ B2 := fun hm => by have := hu2 _ hm; omega
          have hAB : dB < dA := by have := hBB.lt; omega
          have hD2 := hD2.kp kpk (by simp)
          have hD3 := hD3.kp kpk (by simp)
          have hB := hB.kp kpk (by simp)
          have kp := kp.trans kpk
          have kpX := kpX.trans (kpk.mono (by simp))
          have hT := hT.kp kpk (by simp)
          have hR := hR.kp kpk (by simp)
          have hsbl := Nat.lt_of_lt_of_le hsbl kpk.size
          have hC1 := hC1.kp kpk (by simp)
          have hu1 := fun b hb => Nat.lt_of_lt_of_le (hu1 b hb) kpk.size
          have hC2 := hC2.kp kpk (by simp)
          have hu2 := fun b hb => Nat.lt_of_lt_of_le (hu2 b hb) kpk.size
          have hBB := hBB.kp kpk (by simp)
          refine br_1 10 (by kernel_rfl) ?_
          refine e_st56 rfl rfl rfl ho1 hA ?_
          intro w21 hA kpk _
          have hBB := hBB.kp kpk (by simp; omega)
          have hC1 := hC1.kp kpk (fun b hb hm => hA1 (by simp at hm; rwa [← hm]))
          have hC2 := hC2.kp kpk (fun b hb hm => hA2 (by simp at hm; rwa [← hm]))
          have hD2 := hD2.kp kpk (by simp; omega)
          have hD3 := hD3.kp kpk (by simp; omega)
          have hB := hB.kp kpk (by simp; omega)
          have kp := kp.transNew kpk (by simp; omega)
          have kpX := kpX.transNew kpk (by simp; omega)
          refine br_1 11 (by kernel_rfl) ?_
          refine e_st56 rfl rfl rfl ho2 hBB ?_
          intro w22 hBB kpk _
          have hA := hA.kp kpk (by simp; omega)
          have hC1 := hC1.kp kpk (fun b hb hm => hB1 (by simp at hm; rwa [← hm]))
          have hC2 := hC2.kp kpk (fun b hb hm => hB2 (by simp at hm; rwa [← hm]))
          have hD2 := hD2.kp kpk (by simp; omega)
          have hD3 := hD3.kp kpk (by simp; omega)
          have hB := hB.kp kpk (by simp; omega)
          have kp := kp.transNew kpk (by simp; omega)
          have kpX := kpX.transNew kpk (by simp; omega)
          refine br_nil (by kernel_rfl) ?_
          exact ⟨_, rfl, rfl, rfl, rfl, dA, dB, l1, c1, s1, l2, c2, s2, B1, B2, rfl, rfl, hA, hBB, hC1, hC2, ⟨by omega, by omega, hlo1, hlo2⟩, hD2, hD3, kp, kpX, hB⟩
        ·skip
         refine e_al56 rfl ?_
         intro dA w20 dAe hA kpk hsk
         have hxdA : D3 < dA := by have := hD3.lt; omega
         have hsdA : sb < dA := by omega
         have hA1 : dA ∉ B1 := fun hm => by have := hu1 _ hm; omega
         have hD2 := hD2.kp kpk (by simp)
         have hD3 := hD3.kp kpk (by simp)
         have hB := hB.kp kpk (by simp)
         have kp := kp.trans kpk
         have kpX := kpX.trans (kpk.mono (by simp))
         have hT := hT.kp kpk (by simp)
         have hR := hR.kp kpk (by simp)
         have hsbl := Nat.lt_of_lt_of_le hsbl kpk.size
         have hC1 := hC1.kp kpk (by simp)
         have hu1 := fun b hb => Nat.lt_of_lt_of_le (hu1 b hb) kpk.size
         refine br_2 7 9 (by kernel_rfl) ?_ ?_
         ·skip
          refine e_c rfl (cl1 has27 rfl rfl) (made_r hR (by simp; omega)) ?_
          rintro v w20 ⟨B2, hC2, hb2, kpk⟩
          obtain ⟨l2, c2, s2, rfl, _, _, _, ho2⟩ := id hC2
          have hu2 : ∀ b ∈ B2, b < w20.heap.size := fun b hb => by
           have := kpk.size
           rcases hb2 _ hb with h | h
           ·simp at h; omega
           ·exact h.2
          have hlo2 : ∀ b ∈ B2, D3 < b := fun b hb => by
           have := hD3.lt
           rcases hb2 _ hb with h | h
           ·simp at h; omega
           ·omega
          have hA2 : dA ∉ B2 := fun hm => by
           have := hA.lt
           rcases hb2 _ hm with h | h
           ·simp at h; omega
           ·omega
          have hD2 := hD2.kp kpk (by simp)
          have hD3 := hD3.kp kpk (by simp)
          have hB := hB.kp kpk (by simp)
          have kp := kp.trans kpk
          have kpX := kpX.trans (kpk.mono (by simp))
          have hT := hT.kp kpk (by simp)
          have hR := hR.kp kpk (by simp)
          have hsbl := Nat.lt_of_lt_of_le hsbl kpk.size
          have hC1 := hC1.kp kpk (by simp)
          have hu1 := fun b hb => Nat.lt_of_lt_of_le (hu1 b hb) kpk.size
          have hA := hA.kp kpk (by simp)
          refine br_1 9 (by kernel_rfl) ?_
          refine e_al56 rfl ?_
          intro dB w20 dBe hBB kpk hsk
          have hxdB : D3 < dB := by have := hD3.lt; omega
          have hsdB : sb < dB := by omega
          have hB1 : dB ∉ B1 := fun hm => by have := hu1 _ hm; omega
          have hB2 : dB ∉ B2 := fun hm => by have := hu2 _ hm; omega
          have hAB : dA < dB := by have := hA.lt; omega
          have hD2 := hD2.kp kpk (by simp)
          have hD3 := hD3.kp kpk (by simp)
          have hB := hB.kp kpk (by simp)
          have kp := kp.trans kpk
          have kpX := kpX.trans (kpk.mono (by simp))
          have hT := hT.kp kpk (by simp)
          have hR := hR.kp kpk (by simp)
          have hsbl := Nat.lt_of_lt_of_le hsbl kpk.size
          have hC1 := hC1.kp kpk (by simp)
          have hu1 := fun b hb => Nat.lt_of_lt_of_le (hu1 b hb) kpk.size
          have hC2 := hC2.kp kpk (by simp)
          have hu2 := fun b hb => Nat.lt_of_lt_of_le (hu2 b hb) kpk.size
          have hA := hA.kp kpk (by simp)
          refine br_1 10 (by kernel_rfl) ?_
          refine e_st56 rfl rfl rfl ho1 hA ?_
          intro w21 hA kpk _
          have hBB := hBB.kp kpk (by simp; omega)
          have hC1 := hC1.kp kpk (fun b hb hm => hA1 (by simp at hm; rwa [← hm]))
          have hC2 := hC2.kp kpk (fun b hb hm => hA2 (by simp at hm; rwa [← hm]))
          have hD2 := hD2.kp kpk (by simp; omega)
          have hD3 := hD3.kp kpk (by simp; omega)
          have hB := hB.kp kpk (by simp; omega)
          have kp := kp.transNew kpk (by simp; omega)
          have kpX := kpX.transNew kpk (by simp; omega)
          refine br_1 11 (by kernel_rfl) ?_
          refine e_st56 rfl rfl rfl ho2 hBB ?_
          intro w22 hBB kpk _
          have hA := hA.kp kpk (by simp; omega)
          have hC1 := hC1.kp kpk (fun b hb hm => hB1 (by simp at hm; rwa [← hm]))
          have hC2 := hC2.kp kpk (fun b hb hm => hB2 (by simp at hm; rwa [← hm]))
          have hD2 := hD2.kp kpk (by simp; omega)
          have hD3 := hD3.kp kpk (by simp; omega)
          have hB := hB.kp kpk (by simp; omega)
          have kp := kp.transNew kpk (by simp; omega)
          have kpX := kpX.transNew kpk (by simp; omega)
          refine br_nil (by kernel_rfl) ?_
          exact ⟨_, rfl, rfl, rfl, rfl, dA, dB, l1, c1, s1, l2, c2, s2, B1, B2, rfl, rfl, hA, hBB, hC1, hC2, ⟨by omega, by omega, hlo1, hlo2⟩, hD2, hD3, kp, kpX, hB⟩
         ·skip
          refine e_al56 rfl ?_
          intro dB w20 dBe hBB kpk hsk
          have hxdB : D3 < dB := by have := hD3.lt; omega
          have hsdB : sb < dB := by omega
          have hB1 : dB ∉ B1 := fun hm => by have := hu1 _ hm; omega
          have hAB : dA < dB := by have := hA.lt; omega
          have hD2 := hD2.kp kpk (by simp)
          have hD3 := hD3.kp kpk (by simp)
          have hB := hB.kp kpk (by simp)
          have kp := kp.trans kpk
          have kpX := kpX.trans (kpk.mono (by simp))
          have hT := hT.kp kpk (by simp)
          have hR := hR.kp kpk (by simp)
          have hsbl := Nat.lt_of_lt_of_le hsbl kpk.size
          have hC1 := hC1.kp kpk (by simp)
          have hu1 := fun b hb => Nat.lt_of_lt_of_le (hu1 b hb) kpk.size
          have hA := hA.kp kpk (by simp)
          refine br_1 7 (by kernel_rfl) ?_
          refine e_c rfl (cl1 has27 rfl rfl) (made_r hR (by simp; omega)) ?_
          rintro v w20 ⟨B2, hC2, hb2, kpk⟩
          obtain ⟨l2, c2, s2, rfl, _, _, _, ho2⟩ := id hC2
          have hu2 : ∀ b ∈ B2, b < w20.heap.size := fun b hb => by
           have := kpk.size
           rcases hb2 _ hb with h | h
           ·simp at h; omega
           ·exact h.2
          have hlo2 : ∀ b ∈ B2, D3 < b := fun b hb => by
           have := hD3.lt
           rcases hb2 _ hb with h | h
           ·simp at h; omega
           ·omega
          have hA2 : dA ∉ B2 := fun hm => by
           have := hA.lt
           rcases hb2 _ hm with h | h
           ·simp at h; omega
           ·omega
          have hB2 : dB ∉ B2 := fun hm => by
           have := hBB.lt
           rcases hb2 _ hm with h | h
           ·simp at h; omega
           ·omega
          have hD2 := hD2.kp kpk (by simp)
          have hD3 := hD3.kp kpk (by simp)
          have hB := hB.kp kpk (by simp)
          have kp := kp.trans kpk
          have kpX := kpX.trans (kpk.mono (by simp))
          have hT := hT.kp kpk (by simp)
          have hR := hR.kp kpk (by simp)
          have hsbl := Nat.lt_of_lt_of_le hsbl kpk.size
          have hC1 := hC1.kp kpk (by simp)
          have hu1 := fun b hb => Nat.lt_of_lt_of_le (hu1 b hb) kpk.size
          have hA := hA.kp kpk (by simp)
          have hBB := hBB.kp kpk (by simp)
          refine br_1 10 (by kernel_rfl) ?_
          refine e_st56 rfl rfl rfl ho1 hA ?_
          intro w21 hA kpk _
          have hBB := hBB.kp kpk (by simp; omega)
          have hC1 := hC1.kp kpk (fun b hb hm => hA1 (by simp at hm; rwa [← hm]))
          have hC2 := hC2.kp kpk (fun b hb hm => hA2 (by simp at hm; rwa [← hm]))
          have hD2 := hD2.kp kpk (by simp; omega)
          have hD3 := hD3.kp kpk (by simp; omega)
          have hB := hB.kp kpk (by simp; omega)
          have kp := kp.transNew kpk (by simp; omega)
          have kpX := kpX.transNew kpk (by simp; omega)
          refine br_1 11 (by kernel_rfl) ?_
          refine e_st56 rfl rfl rfl ho2 hBB ?_
          intro w22 hBB kpk _
          have hA := hA.kp kpk (by simp; omega)
          have hC1 := hC1.kp kpk (fun b hb hm => hB1 (by simp at hm; rwa [← hm]))
          have hC2 := hC2.kp kpk (fun b hb hm => hB2 (by simp at hm; rwa [← hm]))
          have hD2 := hD2.kp kpk (by simp; omega)
          have hD3 := hD3.kp kpk (by simp; omega)
          have hB := hB.kp kpk (by simp; omega)
          have kp := kp.transNew kpk (by simp; omega)
          have kpX := kpX.transNew kpk (by simp; omega)
          refine br_nil (by kernel_rfl) ?_
          exact ⟨_, rfl, rfl, rfl, rfl, dA, dB, l1, c1, s1, l2, c2, s2, B1, B2, rfl, rfl, hA, hBB, hC1, hC2, ⟨by omega, by omega, hlo1, hlo2⟩, hD2, hD3, kp, kpX, hB⟩
        ·skip
         refine e_al56 rfl ?_
         intro dB w20 dBe hBB kpk hsk
         have hxdB : D3 < dB := by have := hD3.lt; omega
         have hsdB : sb < dB := by omega
         have hB1 : dB ∉ B1 := fun hm => by have := hu1 _ hm; omega
         have hD2 := hD2.kp kpk (by simp)
         have hD3 := hD3.kp kpk (by simp)
         have hB := hB.kp kpk (by simp)
         have kp := kp.trans kpk
         have kpX := kpX.trans (kpk.mono (by simp))
         have hT := hT.kp kpk (by simp)
         have hR := hR.kp kpk (by simp)
         have hsbl := Nat.lt_of_lt_of_le hsbl kpk.size
         have hC1 := hC1.kp kpk (by simp)
         have hu1 := fun b hb => Nat.lt_of_lt_of_le (hu1 b hb) kpk.size
         refine br_2 7 8 (by kernel_rfl) ?_ ?_
         ·skip
          refine e_c rfl (cl1 has27 rfl rfl) (made_r hR (by simp; omega)) ?_
          rintro v w20 ⟨B2, hC2, hb2, kpk⟩
          obtain ⟨l2, c2, s2, rfl, _, _, _, ho2⟩ := id hC2
          have hu2 : ∀ b ∈ B2, b < w20.heap.size := fun b hb => by
           have := kpk.size
           rcases hb2 _ hb with h | h
           ·simp at h; omega
           ·exact h.2
          have hlo2 : ∀ b ∈ B2, D3 < b := fun b hb => by
           have := hD3.lt
           rcases hb2 _ hb with h | h
           ·simp at h; omega
           ·omega
          have hB2 : dB ∉ B2 := fun hm => by
           have := hBB.lt
           rcases hb2 _ hm with h | h
           ·simp at h; omega
           ·omega
          have hD2 := hD2.kp kpk (by simp)
          have hD3 := hD3.kp kpk (by simp)
          have hB := hB.kp kpk (by simp)
          have kp := kp.trans kpk
          have kpX := kpX.trans (kpk.mono (by simp))
          have hT := hT.kp kpk (by simp)
          have hR := hR.kp kpk (by simp)
          have hsbl := Nat.lt_of_lt_of_le hsbl kpk.size
          have hC1 := hC1.kp kpk (by simp)
          have hu1 := fun b hb => Nat.lt_of_lt_of_le (hu1 b hb) kpk.size
          have hBB := hBB.kp kpk (by simp)
          refine br_1 8 (by kernel_rfl) ?_
          refine e_al56 rfl ?_
          intro dA w20 dAe hA kpk hsk
          have hxdA : D3 < dA := by have := hD3.lt; omega
          have hsdA : sb < dA := by omega
          have hA1 : dA ∉ B1 := fun hm => by have := hu1 _ hm; omega
          have hA2 : dA ∉ B2 := fun hm => by have := hu2 _ hm; omega
          have hAB : dB < dA := by have := hBB.lt; omega
          have hD2 := hD2.kp kpk (by simp)
          have hD3 := hD3.kp kpk (by simp)
          have hB := hB.kp kpk (by simp)
          have kp := kp.trans kpk
          have kpX := kpX.trans (kpk.mono (by simp))
          have hT := hT.kp kpk (by simp)
          have hR := hR.kp kpk (by simp)
          have hsbl := Nat.lt_of_lt_of_le hsbl kpk.size
          have hC1 := hC1.kp kpk (by simp)
          have hu1 := fun b hb => Nat.lt_of_lt_of_le (hu1 b hb) kpk.size
          have hC2 := hC2.kp kpk (by simp)
          have hu2 := fun b hb => Nat.lt_of_lt_of_le (hu2 b hb) kpk.size
          have hBB := hBB.kp kpk (by simp)
          refine br_1 10 (by kernel_rfl) ?_
          refine e_st56 rfl rfl rfl ho1 hA ?_
          intro w21 hA kpk _
          have hBB := hBB.kp kpk (by simp; omega)
          have hC1 := hC1.kp kpk (fun b hb hm => hA1 (by simp at hm; rwa [← hm]))
          have hC2 := hC2.kp kpk (fun b hb hm => hA2 (by simp at hm; rwa [← hm]))
          have hD2 := hD2.kp kpk (by simp; omega)
          have hD3 := hD3.kp kpk (by simp; omega)
          have hB := hB.kp kpk (by simp; omega)
          have kp := kp.transNew kpk (by simp; omega)
          have kpX := kpX.transNew kpk (by simp; omega)
          refine br_1 11 (by kernel_rfl) ?_
          refine e_st56 rfl rfl rfl ho2 hBB ?_
          intro w22 hBB kpk _
          have hA := hA.kp kpk (by simp; omega)
          have hC1 := hC1.kp kpk (fun b hb hm => hB1 (by simp at hm; rwa [← hm]))
          have hC2 := hC2.kp kpk (fun b hb hm => hB2 (by simp at hm; rwa [← hm]))
          have hD2 := hD2.kp kpk (by simp; omega)
          have hD3 := hD3.kp kpk (by simp; omega)
          have hB := hB.kp kpk (by simp; omega)
          have kp := kp.transNew kpk (by simp; omega)
          have kpX := kpX.transNew kpk (by simp; omega)
          refine br_nil (by kernel_rfl) ?_
          exact ⟨_, rfl, rfl, rfl, rfl, dA, dB, l1, c1, s1, l2, c2, s2, B1, B2, rfl, rfl, hA, hBB, hC1, hC2, ⟨by omega, by omega, hlo1, hlo2⟩, hD2, hD3, kp, kpX, hB⟩
         ·skip
          refine e_al56 rfl ?_
          intro dA w20 dAe hA kpk hsk
          have hxdA : D3 < dA := by have := hD3.lt; omega
          have hsdA : sb < dA := by omega
          have hA1 : dA ∉ B1 := fun hm => by have := hu1 _ hm; omega
          have hAB : dB < dA := by have := hBB.lt; omega
          have hD2 := hD2.kp kpk (by simp)
          have hD3 := hD3.kp kpk (by simp)
          have hB := hB.kp kpk (by simp)
          have kp := kp.trans kpk
          have kpX := kpX.trans (kpk.mono (by simp))
          have hT := hT.kp kpk (by simp)
          have hR := hR.kp kpk (by simp)
          have hsbl := Nat.lt_of_lt_of_le hsbl kpk.size
          have hC1 := hC1.kp kpk (by simp)
          have hu1 := fun b hb => Nat.lt_of_lt_of_le (hu1 b hb) kpk.size
          have hBB := hBB.kp kpk (by simp)
          refine br_1 7 (by kernel_rfl) ?_
          refine e_c rfl (cl1 has27 rfl rfl) (made_r hR (by simp; omega)) ?_
          rintro v w20 ⟨B2, hC2, hb2, kpk⟩
          obtain ⟨l2, c2, s2, rfl, _, _, _, ho2⟩ := id hC2
          have hu2 : ∀ b ∈ B2, b < w20.heap.size := fun b hb => by
           have := kpk.size
           rcases hb2 _ hb with h | h
           ·simp at h; omega
           ·exact h.2
          have hlo2 : ∀ b ∈ B2, D3 < b := fun b hb => by
           have := hD3.lt
           rcases hb2 _ hb with h | h
           ·simp at h; omega
           ·omega
          have hA2 : dA ∉ B2 := fun hm => by
           have := hA.lt
           rcases hb2 _ hm with h | h
           ·simp at h; omega
           ·omega
          have hB2 : dB ∉ B2 := fun hm => by
           have := hBB.lt
           rcases hb2 _ hm with h | h
           ·simp at h; omega
           ·omega
          have hD2 := hD2.kp kpk (by simp)
          have hD3 := hD3.kp kpk (by simp)
          have hB := hB.kp kpk (by simp)
          have kp := kp.trans kpk
          have kpX := kpX.trans (kpk.mono (by simp))
          have hT := hT.kp kpk (by simp)
          have hR := hR.kp kpk (by simp)
          have hsbl := Nat.lt_of_lt_of_le hsbl kpk.size
          have hC1 := hC1.kp kpk (by simp)
          have hu1 := fun b hb => Nat.lt_of_lt_of_le (hu1 b hb) kpk.size
          have hA := hA.kp kpk (by simp)
          have hBB := hBB.kp kpk (by simp)
          refine br_1 10 (by kernel_rfl) ?_
          refine e_st56 rfl rfl rfl ho1 hA ?_
          intro w21 hA kpk _
          have hBB := hBB.kp kpk (by simp; omega)
          have hC1 := hC1.kp kpk (fun b hb hm => hA1 (by simp at hm; rwa [← hm]))
          have hC2 := hC2.kp kpk (fun b hb hm => hA2 (by simp at hm; rwa [← hm]))
          have hD2 := hD2.kp kpk (by simp; omega)
          have hD3 := hD3.kp kpk (by simp; omega)
          have hB := hB.kp kpk (by simp; omega)
          have kp := kp.transNew kpk (by simp; omega)
          have kpX := kpX.transNew kpk (by simp; omega)
          refine br_1 11 (by kernel_rfl) ?_
          refine e_st56 rfl rfl rfl ho2 hBB ?_
          intro w22 hBB kpk _
          have hA := hA.kp kpk (by simp; omega)
          have hC1 := hC1.kp kpk (fun b hb hm => hB1 (by simp at hm; rwa [← hm]))
          have hC2 := hC2.kp kpk (fun b hb hm => hB2 (by simp at hm; rwa [← hm]))
          have hD2 := hD2.kp kpk (by simp; omega)
          have hD3 := hD3.kp kpk (by simp; omega)
          have hB := hB.kp kpk (by simp; omega)
          have kp := kp.transNew kpk (by simp; omega)
          have kpX := kpX.transNew kpk (by simp; omega)
          refine br_nil (by kernel_rfl) ?_
          exact ⟨_, rfl, rfl, rfl, rfl, dA, dB, l1, c1, s1, l2, c2, s2, B1, B2, rfl, rfl, hA, hBB, hC1, hC2, ⟨by omega, by omega, hlo1, hlo2⟩, hD2, hD3, kp, kpX, hB⟩
       ·skip
        refine e_al56 rfl ?_
        intro dA w20 dAe hA kpk hsk
        have hxdA : D3 < dA := by have := hD3.lt; omega
        have hsdA : sb < dA := by omega
        have hD2 := hD2.kp kpk (by simp)
        have hD3 := hD3.kp kpk (by simp)
        have hB := hB.kp kpk (by simp)
        have kp := kp.trans kpk
        have kpX := kpX.trans (kpk.mono (by simp))
        have hT := hT.kp kpk (by simp)
        have hR := hR.kp kpk (by simp)
        have hsbl := Nat.lt_of_lt_of_le hsbl kpk.size
        refine br_2 3 9 (by kernel_rfl) ?_ ?_
        ·skip
         refine e_c rfl (cl1 has27 rfl rfl) (made_r hT (by simp; omega)) ?_
         rintro v w20 ⟨B1, hC1, hb1, kpk⟩
         obtain ⟨l1, c1, s1, rfl, _, _, _, ho1⟩ := id hC1
         have hu1 : ∀ b ∈ B1, b < w20.heap.size := fun b hb => by
          have := kpk.size
          rcases hb1 _ hb with h | h
          ·simp at h; omega
          ·exact h.2
         have hlo1 : ∀ b ∈ B1, D3 < b := fun b hb => by
          have := hD3.lt
          rcases hb1 _ hb with h | h
          ·simp at h; omega
          ·omega
         have hA1 : dA ∉ B1 := fun hm => by
          have := hA.lt
          rcases hb1 _ hm with h | h
          ·simp at h; omega
          ·omega
         have hD2 := hD2.kp kpk (by simp)
         have hD3 := hD3.kp kpk (by simp)
         have hB := hB.kp kpk (by simp)
         have kp := kp.trans kpk
         have kpX := kpX.trans (kpk.mono (by simp))
         have hT := hT.kp kpk (by simp)
         have hR := hR.kp kpk (by simp)
         have hsbl := Nat.lt_of_lt_of_le hsbl kpk.size
         have hA := hA.kp kpk (by simp)
         refine br_2 7 9 (by kernel_rfl) ?_ ?_
         ·skip
          refine e_c rfl (cl1 has27 rfl rfl) (made_r hR (by simp; omega)) ?_
          rintro v w20 ⟨B2, hC2, hb2, kpk⟩
          obtain ⟨l2, c2, s2, rfl, _, _, _, ho2⟩ := id hC2
          have hu2 : ∀ b ∈ B2, b < w20.heap.size := fun b hb => by
           have := kpk.size
           rcases hb2 _ hb with h | h
           ·simp at h; omega
           ·exact h.2
          have hlo2 : ∀ b ∈ B2, D3 < b := fun b hb => by
           have := hD3.lt
           rcases hb2 _ hb with h | h
           ·simp at h; omega
           ·omega
          have hA2 : dA ∉ B2 := fun hm => by
           have := hA.lt
           rcases hb2 _ hm with h | h
           ·simp at h; omega
           ·omega
          have hD2 := hD2.kp kpk (by simp)
          have hD3 := hD3.kp kpk (by simp)
          have hB := hB.kp kpk (by simp)
          have kp := kp.trans kpk
          have kpX := kpX.trans (kpk.mono (by simp))
          have hT := hT.kp kpk (by simp)
          have hR := hR.kp kpk (by simp)
          have hsbl := Nat.lt_of_lt_of_le hsbl kpk.size
          have hC1 := hC1.kp kpk (by simp)
          have hu1 := fun b hb => Nat.lt_of_lt_of_le (hu1 b hb) kpk.size
          have hA := hA.kp kpk (by simp)
          refine br_1 9 (by kernel_rfl) ?_
          refine e_al56 rfl ?_
          intro dB w20 dBe hBB kpk hsk
          have hxdB : D3 < dB := by have := hD3.lt; omega
          have hsdB : sb < dB := by omega
          have hB1 : dB ∉ B1 := fun hm => by have := hu1 _ hm; omega
          have hB2 : dB ∉ B2 := fun hm => by have := hu2 _ hm; omega
          have hAB : dA < dB := by have := hA.lt; omega
          have hD2 := hD2.kp kpk (by simp)
          have hD3 := hD3.kp kpk (by simp)
          have hB := hB.kp kpk (by simp)
          have kp := kp.trans kpk
          have kpX := kpX.trans (kpk.mono (by simp))
          have hT := hT.kp kpk (by simp)
          have hR := hR.kp kpk (by simp)
          have hsbl := Nat.lt_of_lt_of_le hsbl kpk.size
          have hC1 := hC1.kp kpk (by simp)
          have hu1 := fun b hb => Nat.lt_of_lt_of_le (hu1 b hb) kpk.size
          have hC2 := hC2.kp kpk (by simp)
          have hu2 := fun b hb => Nat.lt_of_lt_of_le (hu2 b hb) kpk.size
          have hA := hA.kp kpk (by simp)
          refine br_1 10 (by kernel_rfl) ?_
          refine e_st56 rfl rfl rfl ho1 hA ?_
          intro w21 hA kpk _
          have hBB := hBB.kp kpk (by simp; omega)
          have hC1 := hC1.kp kpk (fun b hb hm => hA1 (by simp at hm; rwa [← hm]))
          have hC2 := hC2.kp kpk (fun b hb hm => hA2 (by simp at hm; rwa [← hm]))
          have hD2 := hD2.kp kpk (by simp; omega)
          have hD3 := hD3.kp kpk (by simp; omega)
          have hB := hB.kp kpk (by simp; omega)
          have kp := kp.transNew kpk (by simp; omega)
          have kpX := kpX.transNew kpk (by simp; omega)
          refine br_1 11 (by kernel_rfl) ?_
          refine e_st56 rfl rfl rfl ho2 hBB ?_
          intro w22 hBB kpk _
          have hA := hA.kp kpk (by simp; omega)
          have hC1 := hC1.kp kpk (fun b hb hm => hB1 (by simp at hm; rwa [← hm]))
          have hC2 := hC2.kp kpk (fun b hb hm => hB2 (by simp at hm; rwa [← hm]))
          have hD2 := hD2.kp kpk (by simp; omega)
          have hD3 := hD3.kp kpk (by simp; omega)
          have hB := hB.kp kpk (by simp; omega)
          have kp := kp.transNew kpk (by simp; omega)
          have kpX := kpX.transNew kpk (by simp; omega)
          refine br_nil (by kernel_rfl) ?_
          exact ⟨_, rfl, rfl, rfl, rfl, dA, dB, l1, c1, s1, l2, c2, s2, B1, B2, rfl, rfl, hA, hBB, hC1, hC2, ⟨by omega, by omega, hlo1, hlo2⟩, hD2, hD3, kp, kpX, hB⟩
         ·skip
          refine e_al56 rfl ?_
          intro dB w20 dBe hBB kpk hsk
          have hxdB : D3 < dB := by have := hD3.lt; omega
          have hsdB : sb < dB := by omega
          have hB1 : dB ∉ B1 := fun hm => by have := hu1 _ hm; omega
          have hAB : dA < dB := by have := hA.lt; omega
          have hD2 := hD2.kp kpk (by simp)
          have hD3 := hD3.kp kpk (by simp)
          have hB := hB.kp kpk (by simp)
          have kp := kp.trans kpk
          have kpX := kpX.trans (kpk.mono (by simp))
          have hT := hT.kp kpk (by simp)
          have hR := hR.kp kpk (by simp)
          have hsbl := Nat.lt_of_lt_of_le hsbl kpk.size
          have hC1 := hC1.kp kpk (by simp)
          have hu1 := fun b hb => Nat.lt_of_lt_of_le (hu1 b hb) kpk.size
          have hA := hA.kp kpk (by simp)
          refine br_1 7 (by kernel_rfl) ?_
          refine e_c rfl (cl1 has27 rfl rfl) (made_r hR (by simp; omega)) ?_
          rintro v w20 ⟨B2, hC2, hb2, kpk⟩
          obtain ⟨l2, c2, s2, rfl, _, _, _, ho2⟩ := id hC2
          have hu2 : ∀ b ∈ B2, b < w20.heap.size := fun b hb => by
           have := kpk.size
           rcases hb2 _ hb with h | h
           ·simp at h; omega
           ·exact h.2
          have hlo2 : ∀ b ∈ B2, D3 < b := fun b hb => by
           have := hD3.lt
           rcases hb2 _ hb with h | h
           ·simp at h; omega
           ·omega
          have hA2 : dA ∉ B2 := fun hm => by
           have := hA.lt
           rcases hb2 _ hm with h | h
           ·simp at h; omega
           ·omega
          have hB2 : dB ∉ B2 := fun hm => by
           have := hBB.lt
           rcases hb2 _ hm with h | h
           ·simp at h; omega
           ·omega
          have hD2 := hD2.kp kpk (by simp)
          have hD3 := hD3.kp kpk (by simp)
          have hB := hB.kp kpk (by simp)
          have kp := kp.trans kpk
          have kpX := kpX.trans (kpk.mono (by simp))
          have hT := hT.kp kpk (by simp)
          have hR := hR.kp kpk (by simp)
          have hsbl := Nat.lt_of_lt_of_le hsbl kpk.size
          have hC1 := hC1.kp kpk (by simp)
          have hu1 := fun b hb => Nat.lt_of_lt_of_le (hu1 b hb) kpk.size
          have hA := hA.kp kpk (by simp)
          have hBB := hBB.kp kpk (by simp)
          refine br_1 10 (by kernel_rfl) ?_
          refine e_st56 rfl rfl rfl ho1 hA ?_
          intro w21 hA kpk _
          have hBB := hBB.kp kpk (by simp; omega)
          have hC1 := hC1.kp kpk (fun b hb hm => hA1 (by simp at hm; rwa [← hm]))
          have hC2 := hC2.kp kpk (fun b hb hm => hA2 (by simp at hm; rwa [← hm]))
          have hD2 := hD2.kp kpk (by simp; omega)
          have hD3 := hD3.kp kpk (by simp; omega)
          have hB := hB.kp kpk (by simp; omega)
          have kp := kp.transNew kpk (by simp; omega)
          have kpX := kpX.transNew kpk (by simp; omega)
          refine br_1 11 (by kernel_rfl) ?_
          refine e_st56 rfl rfl rfl ho2 hBB ?_
          intro w22 hBB kpk _
          have hA := hA.kp kpk (by simp; omega)
          have hC1 := hC1.kp kpk (fun b hb hm => hB1 (by simp at hm; rwa [← hm]))
          have hC2 := hC2.kp kpk (fun b hb hm => hB2 (by simp at hm; rwa [← hm]))
          have hD2 := hD2.kp kpk (by simp; omega)
          have hD3 := hD3.kp kpk (by simp; omega)
          have hB := hB.kp kpk (by simp; omega)
          have kp := kp.transNew kpk (by simp; omega)
          have kpX := kpX.transNew kpk (by simp; omega)
          refine br_nil (by kernel_rfl) ?_
          exact ⟨_, rfl, rfl, rfl, rfl, dA, dB, l1, c1, s1, l2, c2, s2, B1, B2, rfl, rfl, hA, hBB, hC1, hC2, ⟨by omega, by omega, hlo1, hlo2⟩, hD2, hD3, kp, kpX, hB⟩
        ·skip
         refine e_al56 rfl ?_
         intro dB w20 dBe hBB kpk hsk
         have hxdB : D3 < dB := by have := hD3.lt; omega
         have hsdB : sb < dB := by omega
         have hAB : dA < dB := by have := hA.lt; omega
         have hD2 := hD2.kp kpk (by simp)
         have hD3 := hD3.kp kpk (by simp)
         have hB := hB.kp kpk (by simp)
         have kp := kp.trans kpk
         have kpX := kpX.trans (kpk.mono (by simp))
         have hT := hT.kp kpk (by simp)
         have hR := hR.kp kpk (by simp)
         have hsbl := Nat.lt_of_lt_of_le hsbl kpk.size
         have hA := hA.kp kpk (by simp)
         refine br_1 3 (by kernel_rfl) ?_
         refine e_c rfl (cl1 has27 rfl rfl) (made_r hT (by simp; omega)) ?_
         rintro v w20 ⟨B1, hC1, hb1, kpk⟩
         obtain ⟨l1, c1, s1, rfl, _, _, _, ho1⟩ := id hC1
         have hu1 : ∀ b ∈ B1, b < w20.heap.size := fun b hb => by
          have := kpk.size
          rcases hb1 _ hb with h | h
          ·simp at h; omega
          ·exact h.2
         have hlo1 : ∀ b ∈ B1, D3 < b := fun b hb => by
          have := hD3.lt
          rcases hb1 _ hb with h | h
          ·simp at h; omega
          ·omega
         have hA1 : dA ∉ B1 := fun hm => by
          have := hA.lt
          rcases hb1 _ hm with h | h
          ·simp at h; omega
          ·omega
         have hB1 : dB ∉ B1 := fun hm => by
          have := hBB.lt
          rcases hb1 _ hm with h | h
          ·simp at h; omega
          ·omega
         have hD2 := hD2.kp kpk (by simp)
         have hD3 := hD3.kp kpk (by simp)
         have hB := hB.kp kpk (by simp)
         have kp := kp.trans kpk
         have kpX := kpX.trans (kpk.mono (by simp))
         have hT := hT.kp kpk (by simp)
         have hR := hR.kp kpk (by simp)
         have hsbl := Nat.lt_of_lt_of_le hsbl kpk.size
         have hA := hA.kp kpk (by simp)
         have hBB := hBB.kp kpk (by simp)
         refine br_1 7 (by kernel_rfl) ?_
         refine e_c rfl (cl1 has27 rfl rfl) (made_r hR (by simp; omega)) ?_
         rintro v w20 ⟨B2, hC2, hb2, kpk⟩
         obtain ⟨l2, c2, s2, rfl, _, _, _, ho2⟩ := id hC2
         have hu2 : ∀ b ∈ B2, b < w20.heap.size := fun b hb => by
          have := kpk.size
          rcases hb2 _ hb with h | h
          ·simp at h; omega
          ·exact h.2
         have hlo2 : ∀ b ∈ B2, D3 < b := fun b hb => by
          have := hD3.lt
          rcases hb2 _ hb with h | h
          ·simp at h; omega
          ·omega
         have hA2 : dA ∉ B2 := fun hm => by
          have := hA.lt
          rcases hb2 _ hm with h | h
          ·simp at h; omega
          ·omega
         have hB2 : dB ∉ B2 := fun hm => by
          have := hBB.lt
          rcases hb2 _ hm with h | h
          ·simp at h; omega
          ·omega
         have hD2 := hD2.kp kpk (by simp)
         have hD3 := hD3.kp kpk (by simp)
         have hB := hB.kp kpk (by simp)
         have kp := kp.trans kpk
         have kpX := kpX.trans (kpk.mono (by simp))
         have hT := hT.kp kpk (by simp)
         have hR := hR.kp kpk (by simp)
         have hsbl := Nat.lt_of_lt_of_le hsbl kpk.size
         have hC1 := hC1.kp kpk (by simp)
         have hu1 := fun b hb => Nat.lt_of_lt_of_le (hu1 b hb) kpk.size
         have hA := hA.kp kpk (by simp)
         have hBB := hBB.kp kpk (by simp)
         refine br_1 10 (by kernel_rfl) ?_
         refine e_st56 rfl rfl rfl ho1 hA ?_
         intro w21 hA kpk _
         have hBB := hBB.kp kpk (by simp; omega)
         have hC1 := hC1.kp kpk (fun b hb hm => hA1 (by simp at hm; rwa [← hm]))
         have hC2 := hC2.kp kpk (fun b hb hm => hA2 (by simp at hm; rwa [← hm]))
         have hD2 := hD2.kp kpk (by simp; omega)
         have hD3 := hD3.kp kpk (by simp; omega)
         have hB := hB.kp kpk (by simp; omega)
         have kp := kp.transNew kpk (by simp; omega)
         have kpX := kpX.transNew kpk (by simp; omega)
         refine br_1 11 (by kernel_rfl) ?_
         refine e_st56 rfl rfl rfl ho2 hBB ?_
         intro w22 hBB kpk _
         have hA := hA.kp kpk (by simp; omega)
         have hC1 := hC1.kp kpk (fun b hb hm => hB1 (by simp at hm; rwa [← hm]))
         have hC2 := hC2.kp kpk (fun b hb hm => hB2 (by simp at hm; rwa [← hm]))
         have hD2 := hD2.kp kpk (by simp; omega)
         have hD3 := hD3.kp kpk (by simp; omega)
         have hB := hB.kp kpk (by simp; omega)
         have kp := kp.transNew kpk (by simp; omega)
         have kpX := kpX.transNew kpk (by simp; omega)
         refine br_nil (by kernel_rfl) ?_
         exact ⟨_, rfl, rfl, rfl, rfl, dA, dB, l1, c1, s1, l2, c2, s2, B1, B2, rfl, rfl, hA, hBB, hC1, hC2, ⟨by omega, by omega, hlo1, hlo2⟩, hD2, hD3, kp, kpX, hB⟩
       ·skip
        refine e_al56 rfl ?_
        intro dB w20 dBe hBB kpk hsk
        have hxdB : D3 < dB := by have := hD3.lt; omega
        have hsdB : sb < dB := by omega
        have hD2 := hD2.kp kpk (by simp)
        have hD3 := hD3.kp kpk (by simp)
        have hB := hB.kp kpk (by simp)
        have kp := kp.trans kpk
        have kpX := kpX.trans (kpk.mono (by simp))
        have hT := hT.kp kpk (by simp)
        have hR := hR.kp kpk (by simp)
        have hsbl := Nat.lt_of_lt_of_le hsbl kpk.size
        refine br_2 3 8 (by kernel_rfl) ?_ ?_
        ·skip
         refine e_c rfl (cl1 has27 rfl rfl) (made_r hT (by simp; omega)) ?_
         rintro v w20 ⟨B1, hC1, hb1, kpk⟩
         obtain ⟨l1, c1, s1, rfl, _, _, _, ho1⟩ := id hC1
         have hu1 : ∀ b ∈ B1, b < w20.heap.size := fun b hb => by
          have := kpk.size
          rcases hb1 _ hb with h | h
          ·simp at h; omega
          ·exact h.2
         have hlo1 : ∀ b ∈ B1, D3 < b := fun b hb => by
          have := hD3.lt
          rcases hb1 _ hb with h | h
          ·simp at h; omega
          ·omega
         have hB1 : dB ∉ B1 := fun hm => by
          have := hBB.lt
          rcases hb1 _ hm with h | h
          ·simp at h; omega
          ·omega
         have hD2 := hD2.kp kpk (by simp)
         have hD3 := hD3.kp kpk (by simp)
         have hB := hB.kp kpk (by simp)
         have kp := kp.trans kpk
         have kpX := kpX.trans (kpk.mono (by simp))
         have hT := hT.kp kpk (by simp)
         have hR := hR.kp kpk (by simp)
         have hsbl := Nat.lt_of_lt_of_le hsbl kpk.size
         have hBB := hBB.kp kpk (by simp)
         refine br_2 7 8 (by kernel_rfl) ?_ ?_
         ·skip
          refine e_c rfl (cl1 has27 rfl rfl) (made_r hR (by simp; omega)) ?_
          rintro v w20 ⟨B2, hC2, hb2, kpk⟩
          obtain ⟨l2, c2, s2, rfl, _, _, _, ho2⟩ := id hC2
          have hu2 : ∀ b ∈ B2, b < w20.heap.size := fun b hb => by
           have := kpk.size
           rcases hb2 _ hb with h | h
           ·simp at h; omega
           ·exact h.2
          have hlo2 : ∀ b ∈ B2, D3 < b := fun b hb => by
           have := hD3.lt
           rcases hb2 _ hb with h | h
           ·simp at h; omega
           ·omega
          have hB2 : dB ∉ B2 := fun hm => by
           have := hBB.lt
           rcases hb2 _ hm with h | h
           ·simp at h; omega
           ·omega
          have hD2 := hD2.kp kpk (by simp)
          have hD3 := hD3.kp kpk (by simp)
          have hB := hB.kp kpk (by simp)
          have kp := kp.trans kpk
          have kpX := kpX.trans (kpk.mono (by simp))
          have hT := hT.kp kpk (by simp)
          have hR := hR.kp kpk (by simp)
          have hsbl := Nat.lt_of_lt_of_le hsbl kpk.size
          have hC1 := hC1.kp kpk (by simp)
          have hu1 := fun b hb => Nat.lt_of_lt_of_le (hu1 b hb) kpk.size
          have hBB := hBB.kp kpk (by simp)
          refine br_1 8 (by kernel_rfl) ?_
          refine e_al56 rfl ?_
          intro dA w20 dAe hA kpk hsk
          have hxdA : D3 < dA := by have := hD3.lt; omega
          have hsdA : sb < dA := by omega
          have hA1 : dA ∉ B1 := fun hm => by have := hu1 _ hm; omega
          have hA2 : dA ∉ B2 := fun hm => by have := hu2 _ hm; omega
          have hAB : dB < dA := by have := hBB.lt; omega
          have hD2 := hD2.kp kpk (by simp)
          have hD3 := hD3.kp kpk (by simp)
          have hB := hB.kp kpk (by simp)
          have kp := kp.trans kpk
          have kpX := kpX.trans (kpk.mono (by simp))
          have hT := hT.kp kpk (by simp)
          have hR := hR.kp kpk (by simp)
          have hsbl := Nat.lt_of_lt_of_le hsbl kpk.size
          have hC1 := hC1.kp kpk (by simp)
          have hu1 := fun b hb => Nat.lt_of_lt_of_le (hu1 b hb) kpk.size
          have hC2 := hC2.kp kpk (by simp)
          have hu2 := fun b hb => Nat.lt_of_lt_of_le (hu2 b hb) kpk.size
          have hBB := hBB.kp kpk (by simp)
          refine br_1 10 (by kernel_rfl) ?_
          refine e_st56 rfl rfl rfl ho1 hA ?_
          intro w21 hA kpk _
          have hBB := hBB.kp kpk (by simp; omega)
          have hC1 := hC1.kp kpk (fun b hb hm => hA1 (by simp at hm; rwa [← hm]))
          have hC2 := hC2.kp kpk (fun b hb hm => hA2 (by simp at hm; rwa [← hm]))
          have hD2 := hD2.kp kpk (by simp; omega)
          have hD3 := hD3.kp kpk (by simp; omega)
          have hB := hB.kp kpk (by simp; omega)
          have kp := kp.transNew kpk (by simp; omega)
          have kpX := kpX.transNew kpk (by simp; omega)
          refine br_1 11 (by kernel_rfl) ?_
          refine e_st56 rfl rfl rfl ho2 hBB ?_
          intro w22 hBB kpk _
          have hA := hA.kp kpk (by simp; omega)
          have hC1 := hC1.kp kpk (fun b hb hm => hB1 (by simp at hm; rwa [← hm]))
          have hC2 := hC2.kp kpk (fun b hb hm => hB2 (by simp at hm; rwa [← hm]))
          have hD2 := hD2.kp kpk (by simp; omega)
          have hD3 := hD3.kp kpk (by simp; omega)
          have hB := hB.kp kpk (by simp; omega)
          have kp := kp.transNew kpk (by simp; omega)
          have kpX := kpX.transNew kpk (by simp; omega)
          refine br_nil (by kernel_rfl) ?_
          exact ⟨_, rfl, rfl, rfl, rfl, dA, dB, l1, c1, s1, l2, c2, s2, B1, B2, rfl, rfl, hA, hBB, hC1, hC2, ⟨by omega, by omega, hlo1, hlo2⟩, hD2, hD3, kp, kpX, hB⟩
         ·skip
          refine e_al56 rfl ?_
          intro dA w20 dAe hA kpk hsk
          have hxdA : D3 < dA := by have := hD3.lt; omega
          have hsdA : sb < dA := by omega
          have hA1 : dA ∉ B1 := fun hm => by have := hu1 _ hm; omega
          have hAB : dB < dA := by have := hBB.lt; omega
          have hD2 := hD2.kp kpk (by simp)
          have hD3 := hD3.kp kpk (by simp)
          have hB := hB.kp kpk (by simp)
          have kp := kp.trans kpk
          have kpX := kpX.trans (kpk.mono (by simp))
          have hT := hT.kp kpk (by simp)
          have hR := hR.kp kpk (by simp)
          have hsbl := Nat.lt_of_lt_of_le hsbl kpk.size
          have hC1 := hC1.kp kpk (by simp)
          have hu1 := fun b hb => Nat.lt_of_lt_of_le (hu1 b hb) kpk.size
          have hBB := hBB.kp kpk (by simp)
          refine br_1 7 (by kernel_rfl) ?_
          refine e_c rfl (cl1 has27 rfl rfl) (made_r hR (by simp; omega)) ?_
          rintro v w20 ⟨B2, hC2, hb2, kpk⟩
          obtain ⟨l2, c2, s2, rfl, _, _, _, ho2⟩ := id hC2
          have hu2 : ∀ b ∈ B2, b < w20.heap.size := fun b hb => by
           have := kpk.size
           rcases hb2 _ hb with h | h
           ·simp at h; omega
           ·exact h.2
          have hlo2 : ∀ b ∈ B2, D3 < b := fun b hb => by
           have := hD3.lt
           rcases hb2 _ hb with h | h
           ·simp at h; omega
           ·omega
          have hA2 : dA ∉ B2 := fun hm => by
           have := hA.lt
           rcases hb2 _ hm with h | h
           ·simp at h; omega
           ·omega
          have hB2 : dB ∉ B2 := fun hm => by
           have := hBB.lt
           rcases hb2 _ hm with h | h
           ·simp at h; omega
           ·omega
          have hD2 := hD2.kp kpk (by simp)
          have hD3 := hD3.kp kpk (by simp)
          have hB := hB.kp kpk (by simp)
          have kp := kp.trans kpk
          have kpX := kpX.trans (kpk.mono (by simp))
          have hT := hT.kp kpk (by simp)
          have hR := hR.kp kpk (by simp)
          have hsbl := Nat.lt_of_lt_of_le hsbl kpk.size
          have hC1 := hC1.kp kpk (by simp)
          have hu1 := fun b hb => Nat.lt_of_lt_of_le (hu1 b hb) kpk.size
          have hA := hA.kp kpk (by simp)
          have hBB := hBB.kp kpk (by simp)
          refine br_1 10 (by kernel_rfl) ?_
          refine e_st56 rfl rfl rfl ho1 hA ?_
          intro w21 hA kpk _
          have hBB := hBB.kp kpk (by simp; omega)
          have hC1 := hC1.kp kpk (fun b hb hm => hA1 (by simp at hm; rwa [← hm]))
          have hC2 := hC2.kp kpk (fun b hb hm => hA2 (by simp at hm; rwa [← hm]))
          have hD2 := hD2.kp kpk (by simp; omega)
          have hD3 := hD3.kp kpk (by simp; omega)
          have hB := hB.kp kpk (by simp; omega)
          have kp := kp.transNew kpk (by simp; omega)
          have kpX := kpX.transNew kpk (by simp; omega)
          refine br_1 11 (by kernel_rfl) ?_
          refine e_st56 rfl rfl rfl ho2 hBB ?_
          intro w22 hBB kpk _
          have hA := hA.kp kpk (by simp; omega)
          have hC1 := hC1.kp kpk (fun b hb hm => hB1 (by simp at hm; rwa [← hm]))
          have hC2 := hC2.kp kpk (fun b hb hm => hB2 (by simp at hm; rwa [← hm]))
          have hD2 := hD2.kp kpk (by simp; omega)
          have hD3 := hD3.kp kpk (by simp; omega)
          have hB := hB.kp kpk (by simp; omega)
          have kp := kp.transNew kpk (by simp; omega)
          have kpX := kpX.transNew kpk (by simp; omega)
          refine br_nil (by kernel_rfl) ?_
          exact ⟨_, rfl, rfl, rfl, rfl, dA, dB, l1, c1, s1, l2, c2, s2, B1, B2, rfl, rfl, hA, hBB, hC1, hC2, ⟨by omega, by omega, hlo1, hlo2⟩, hD2, hD3, kp, kpX, hB⟩
        ·skip
         refine e_al56 rfl ?_
         intro dA w20 dAe hA kpk hsk
         have hxdA : D3 < dA := by have := hD3.lt; omega
         have hsdA : sb < dA := by omega
         have hAB : dB < dA := by have := hBB.lt; omega
         have hD2 := hD2.kp kpk (by simp)
         have hD3 := hD3.kp kpk (by simp)
         have hB := hB.kp kpk (by simp)
         have kp := kp.trans kpk
         have kpX := kpX.trans (kpk.mono (by simp))
         have hT := hT.kp kpk (by simp)
         have hR := hR.kp kpk (by simp)
         have hsbl := Nat.lt_of_lt_of_le hsbl kpk.size
         have hBB := hBB.kp kpk (by simp)
         refine br_1 3 (by kernel_rfl) ?_
         refine e_c rfl (cl1 has27 rfl rfl) (made_r hT (by simp; omega)) ?_
         rintro v w20 ⟨B1, hC1, hb1, kpk⟩
         obtain ⟨l1, c1, s1, rfl, _, _, _, ho1⟩ := id hC1
         have hu1 : ∀ b ∈ B1, b < w20.heap.size := fun b hb => by
          have := kpk.size
          rcases hb1 _ hb with h | h
          ·simp at h; omega
          ·exact h.2
         have hlo1 : ∀ b ∈ B1, D3 < b := fun b hb => by
          have := hD3.lt
          rcases hb1 _ hb with h | h
          ·simp at h; omega
          ·omega
         have hA1 : dA ∉ B1 := fun hm => by
          have := hA.lt
          rcases hb1 _ hm with h | h
          ·simp at h; omega
          ·omega
         have hB1 : dB ∉ B1 := fun hm => by
          have := hBB.lt
          rcases hb1 _ hm with h | h
          ·simp at h; omega
          ·omega
         have hD2 := hD2.kp kpk (by simp)
         have hD3 := hD3.kp kpk (by simp)
         have hB := hB.kp kpk (by simp)
         have kp := kp.trans kpk
         have kpX := kpX.trans (kpk.mono (by simp))
         have hT := hT.kp kpk (by simp)
         have hR := hR.kp kpk (by simp)
         have hsbl := Nat.lt_of_lt_of_le hsbl kpk.size
         have hA := hA.kp kpk (by simp)
         have hBB := hBB.kp kpk (by simp)
         refine br_1 7 (by kernel_rfl) ?_
         refine e_c rfl (cl1 has27 rfl rfl) (made_r hR (by simp; omega)) ?_
         rintro v w20 ⟨B2, hC2, hb2, kpk⟩
         obtain ⟨l2, c2, s2, rfl, _, _, _, ho2⟩ := id hC2
         have hu2 : ∀ b ∈ B2, b < w20.heap.size := fun b hb => by
          have := kpk.size
          rcases hb2 _ hb with h | h
          ·simp at h; omega
          ·exact h.2
         have hlo2 : ∀ b ∈ B2, D3 < b := fun b hb => by
          have := hD3.lt
          rcases hb2 _ hb with h | h
          ·simp at h; omega
          ·omega
         have hA2 : dA ∉ B2 := fun hm => by
          have := hA.lt
          rcases hb2 _ hm with h | h
          ·simp at h; omega
          ·omega
         have hB2 : dB ∉ B2 := fun hm => by
          have := hBB.lt
          rcases hb2 _ hm with h | h
          ·simp at h; omega
          ·omega
         have hD2 := hD2.kp kpk (by simp)
         have hD3 := hD3.kp kpk (by simp)
         have hB := hB.kp kpk (by simp)
         have kp := kp.trans kpk
         have kpX := kpX.trans (kpk.mono (by simp))
         have hT := hT.kp kpk (by simp)
         have hR := hR.kp kpk (by simp)
         have hsbl := Nat.lt_of_lt_of_le hsbl kpk.size
         have hC1 := hC1.kp kpk (by simp)
         have hu1 := fun b hb => Nat.lt_of_lt_of_le (hu1 b hb) kpk.size
         have hA := hA.kp kpk (by simp)
         have hBB := hBB.kp kpk (by simp)
         refine br_1 10 (by kernel_rfl) ?_
         refine e_st56 rfl rfl rfl ho1 hA ?_
         intro w21 hA kpk _
         have hBB := hBB.kp kpk (by simp; omega)
         have hC1 := hC1.kp kpk (fun b hb hm => hA1 (by simp at hm; rwa [← hm]))
         have hC2 := hC2.kp kpk (fun b hb hm => hA2 (by simp at hm; rwa [← hm]))
         have hD2 := hD2.kp kpk (by simp; omega)
         have hD3 := hD3.kp kpk (by simp; omega)
         have hB := hB.kp kpk (by simp; omega)
         have kp := kp.transNew kpk (by simp; omega)
         have kpX := kpX.transNew kpk (by simp; omega)
         refine br_1 11 (by kernel_rfl) ?_
         refine e_st56 rfl rfl rfl ho2 hBB ?_
         intro w22 hBB kpk _
         have hA := hA.kp kpk (by simp; omega)
         have hC1 := hC1.kp kpk (fun b hb hm => hB1 (by simp at hm; rwa [← hm]))
         have hC2 := hC2.kp kpk (fun b hb hm => hB2 (by simp at hm; rwa [← hm]))
         have hD2 := hD2.kp kpk (by simp; omega)
         have hD3 := hD3.kp kpk (by simp; omega)
         have hB := hB.kp kpk (by simp; omega)
         have kp := kp.transNew kpk (by simp; omega)
         have kpX := kpX.transNew kpk (by simp; omega)
         refine br_nil (by kernel_rfl) ?_
         exact ⟨_, rfl, rfl, rfl, rfl, dA, dB, l1, c1, s1, l2, c2, s2, B1, B2, rfl, rfl, hA, hBB, hC1, hC2, ⟨by omega, by omega, hlo1, hlo2⟩, hD2, hD3, kp, kpX, hB⟩
      clear hB hD2 hD3 hL hD9 hC9 kp kpX hT hR
      rintro f w16 ⟨s0, s2, s3, dA, dB, l1, c1, s1, l2, c2, s2', B1, B2, s11, s12, hA, hBB, hC1, hC2, ⟨hxA, hxB, hlo1, hlo2⟩, hD2, hD3, kp, kpX, hB⟩
      obtain ⟨t2, ht2⟩ : ∃ t, s2' = t := ⟨_, rfl⟩
      rw [ht2] at hBB hC2
      have hX1 : X ∉ B1 := fun hm => by have := hlo1 _ hm; omega
      have hX2 : X ∉ B2 := fun hm => by have := hlo2 _ hm; omega
      obtain ⟨la1, cb1, sv1', he1, hl1, _, _, ho1⟩ := id hC1
      obtain ⟨_, _, _, he2, _, _, _, ho2⟩ := id hC2
      cases he1
      cases he2
      obtain ⟨lA, lC, rfl, hlcell⟩ := hl1
      have hlen1 : (l.take nl).length = nl := by rw [List.length_take]; omega
      obtain ⟨lad, rfl, _, hl256⟩ := hlcell 256 (by omega)
      refine then_n ?_
      refine seq_cut (N := 109) (fun f w' => f 0 = .pointer (some ⟨X, 0, none⟩) ∧ f 2 = .pointer (some ⟨D2, 0, none⟩) ∧ f 3 = .pointer (some ⟨D3, 0, none⟩) ∧ f 11 = .pointer (some ⟨dA, 0, none⟩) ∧ f 12 = .pointer (some ⟨dB, 0, none⟩) ∧ Bk w' dA 3 56 (c56 (.slice (some lad) (l.take nl).length lC) c1 s1) ∧ Bk w' dB 3 56 (c56 l2 c2 t2) ∧ CV w' B1 (.agg #[.slice (some lad) (l.take nl).length lC, c1, s1]) (l.take nl) ∧ CV w' B2 (.agg #[l2, c2, t2]) (l.drop nl) ∧ Bk w' D2 3 56 (fun _ => .slice none 0 0) ∧ Bk w' D3 3 56 (fun _ => .slice none 0 0) ∧ Kp [] w0 w' ∧ Kp [X] w w' ∧ Bk w' X 6 53 (rx dv p4 ov base (if (l.take nl).getD 256 0 = 0 then 3 else 0) edge)) ?_ ?_
      ·skip
       refine slots (fc s0 (fc s2 (fc s3 (fc s11 (fc s12 fnil))))) ?_
       refine sqr ?_
       refine L1 (fa56_0 rfl) ?_
       refine L1 (ld24 rfl (hA.cellv (v := (.slice (some lad) (l.take nl).length lC)) (by decide) rfl)) ?_
       refine L1 (ixg und24 sz3 rfl rfl (j := 256) rfl (by omega)) ?_
       refine L1 (ld3 (v := .int .i64 (((l.take nl).getD 256 0 : Nat) : Int)) rfl hl256) ?_
       refine L1 (bi rfl rfl (bn_eql (v := decide ((l.take nl).getD 256 0 = 0)) (decide_eq_decide.2 (by omega)))) ?_
       refine nt ?_
       refine cond_d (p := (l.take nl).getD 256 0 = 0) rfl (fun h256 => ?_) (fun h256 => ?_)
       ·skip
        refine reg_lit ?_
        refine Mp rfl ?_
        refine Np rfl ?_
        refine L1 (fa53_4 rfl) ?_
        refine Lst3 (v := .int .i64 ((3 : Nat) : Int)) rfl rfl rfl hB (by decide) ?_
        intro wx hB kpx
        have hB := hB.congr (fun k _ => rx_4 k)
        have hC1 := hC1.kp kpx (fun b hb hm => hX1 (by simp at hm; rwa [← hm]))
        have hC2 := hC2.kp kpx (fun b hb hm => hX2 (by simp at hm; rwa [← hm]))
        have hD2 := hD2.kp kpx (by simp; omega)
        have hD3 := hD3.kp kpx (by simp; omega)
        have hA := hA.kp kpx (by simp; omega)
        have hBB := hBB.kp kpx (by simp; omega)
        have kp := kp.transNew kpx (by simp; omega)
        have kpX := kpX.trans kpx
        refine nt ?_
        exact ⟨_, rfl, rfl, rfl, rfl, rfl, rfl, hA, hBB, hC1, hC2, hD2, hD3, kp, kpX, by rw [if_pos h256]; exact hB⟩
       ·skip
        refine skn ?_
        exact ⟨_, rfl, rfl, rfl, rfl, rfl, rfl, hA, hBB, hC1, hC2, hD2, hD3, kp, kpX, by rw [if_neg h256]; exact hB⟩
      ·skip
       clear hB hD2 hD3 hA hBB hC1 hC2 kp kpX s0 s2 s3 s11 s12
       rintro f w17 ⟨s0, s2, s3, s11, s12, hA, hBB, hC1, hC2, hD2, hD3, kp, kpX, hB⟩
       refine slots (fc s0 (fc s2 (fc s3 (fc s11 (fc s12 fnil))))) ?_
       have hm15 := mem_take15 hl15 nl
       have hmx1 : mx (l.take nl) ≤ 15 := mx_le15 (getD_15 hm15.1)
       have hmx2 : mx (l.drop nl) ≤ 15 := mx_le15 (getD_15 hm15.2)
       have hlen2 : (l.drop nl).length = nd := by rw [List.length_drop]; omega
       refine sqr ?_
       refine Mp rfl ?_
       refine L1 (ld56 rfl hA (by decide) rfl rfl rfl) ?_
       refine LC (cl3 has32 rfl rfl rfl rfl) (judge_r hE ⟨hB, kp⟩ hC1 (by omega) false) ?_
       rintro v w18 ⟨kp18, ⟨hB, kp⟩⟩
       have hC1 := hC1.kp kp18 (fun b hb hm => hX1 (by simp at hm; rwa [← hm]))
       have hC2 := hC2.kp kp18 (fun b hb hm => hX2 (by simp at hm; rwa [← hm]))
       have hD2 := hD2.kp kp18 (by simp; omega)
       have hD3 := hD3.kp kp18 (by simp; omega)
       have hA := hA.kp kp18 (by simp; omega)
       have hBB := hBB.kp kp18 (by simp; omega)
       have kpX := kpX.trans kp18
       refine nt ?_
       refine sqr ?_
       refine Mp rfl ?_
       refine L1 (ld56 rfl hBB (by decide) rfl rfl rfl) ?_
       refine LC (cl3 has32 rfl rfl rfl rfl) (judge_r hE ⟨hB, kp⟩ hC2 (by omega) true) ?_
       rintro v w18 ⟨kp18, ⟨hB, kp⟩⟩
       have hC1 := hC1.kp kp18 (fun b hb hm => hX1 (by simp at hm; rwa [← hm]))
       have hC2 := hC2.kp kp18 (fun b hb hm => hX2 (by simp at hm; rwa [← hm]))
       have hD2 := hD2.kp kp18 (by simp; omega)
       have hD3 := hD3.kp kp18 (by simp; omega)
       have hA := hA.kp kp18 (by simp; omega)
       have hBB := hBB.kp kp18 (by simp; omega)
       have kpX := kpX.trans kp18
       refine nt ?_
       refine wp_seq ?_
       have hC0 : Bk w18.drew dA 3 56 (c56 (.slice (some lad) (l.take nl).length lC) c1 s1) ∧ Bk w18.drew dB 3 56 (c56 l2 c2 t2) := ⟨hA, hBB⟩
       refine reg_mix [false, false, true, true] (fun w => Bk w dA 3 56 (c56 (.slice (some lad) (l.take nl).length lC) c1 s1) ∧ Bk w dB 3 56 (c56 l2 c2 t2)) mixed (by kernel_rfl) ?_ ?_
       ·exact hC0
       have hB := hB.drew
       have kp := kp.drew
       have kpX := kpX.drew
       have hD2 := hD2.drew
       have hD3 := hD3.drew
       have hA := hA.drew
       have hBB := hBB.drew
       have hC1 := hC1.kp ((Kp.refl [] w18).drew) (by simp)
       have hC2 := hC2.kp ((Kp.refl [] w18).drew) (by simp)
       refine T1 (fun w hC => ld56 rfl hC.1 (by decide) rfl rfl rfl) ?_
       refine T1 (fun w hC => ld56 rfl hC.2 (by decide) rfl rfl rfl) ?_
       refine Est56 rfl rfl ho1 hD2 ?_
       intro w19 hD2 kp19 _
       have hA := hA.kp kp19 (by simp; omega)
       have hBB := hBB.kp kp19 (by simp; omega)
       refine ⟨⟨hA, hBB⟩, ?_⟩
       have hB := hB.kp kp19 (by simp; omega)
       have hD3 := hD3.kp kp19 (by simp; omega)
       have hC1 := hC1.kp kp19 (fun b hb hm => by have := hlo1 _ hb; simp at hm; omega)
       have hC2 := hC2.kp kp19 (fun b hb hm => by have := hlo2 _ hb; simp at hm; omega)
       have kp := kp.transNew kp19 (by simp; omega)
       have kpX := kpX.transNew kp19 (by simp; omega)
       refine Est56 rfl rfl ho2 hD3 ?_
       intro w19 hD3 kp19 _
       have hA := hA.kp kp19 (by simp; omega)
       have hBB := hBB.kp kp19 (by simp; omega)
       refine ⟨⟨hA, hBB⟩, ?_⟩
       have hB := hB.kp kp19 (by simp; omega)
       have hD2 := hD2.kp kp19 (by simp; omega)
       have hC1 := hC1.kp kp19 (fun b hb hm => by have := hlo1 _ hb; simp at hm; omega)
       have hC2 := hC2.kp kp19 (fun b hb hm => by have := hlo2 _ hb; simp at hm; omega)
       have kp := kp.transNew kp19 (by simp; omega)
       have kpX := kpX.transNew kp19 (by simp; omega)
       refine mix_nil ?_
       refine then_n ?_
       refine wp_ret ?_
       have hjj := judged (lit := (l.take nl)) (dist := (l.drop nl)) hmx1 hmx2 rfl
       refine retc2 (t := 2) (t' := 3) (b := D2) (b' := D3) rfl rfl rfl hD2 hD3 ?_
       refine ⟨_, rfl, kpX, _, _, _, _, _, _, p4, _, rfl, ho1, ho2, ⟨hB, kp⟩, hp4, ?_⟩
       rcases hjj with ⟨e, h256, hkl, hRd, hok2⟩ | ⟨e, hbad⟩ | e
       ·rw [e]
        refine .inr ⟨rfl, (l.take nl), (l.drop nl), B1, B2, hC1, hC2, fun b hb => by have := hlo1 b hb; omega, fun b hb => by have := hlo2 b hb; omega, pos4, ?_, hrdp, h256, hkl, hm15.1, by omega, by omega, hm15.2, hRd, hok2, Nat.le_trans (Nat.le_trans (Nat.le_add_right _ _) (clLens_ok _ _ _ _ _ _ _ hcll)) (rdLens_ok _ _ _ _ _ _ _ hrd)⟩
        have hm := md_ok hlv.h14 hnn hcll hok9 hrd (by rw [← hnlL]; exact full_ok hmx1 hkl) (by rw [← hnlL]; exact hok2)
        rw [← hnlL] at hm
        rw [show (l.take nl).getD 256 0 = l.getD 256 0 by rw [List.getD_eq_getElem?_getD, List.getD_eq_getElem?_getD, List.getElem?_take, if_pos (by omega)]]
        exact hm
       ·rw [e]
        exact .inl ⟨by decide, .inr (.inl ⟨rfl, _, _, md_kb hlv.h14 hnn hcll hok9 hrd (by rw [← hnlL]; exact hbad)⟩)⟩
       ·rw [e]
        exact .inl ⟨by decide, .inr (.inr rfl)⟩
     ·skip
      refine then_n ?_
      refine wp_seq ?_
      refine sqr ?_
      refine Mp rfl ?_
      refine Np rfl ?_
      refine L1 (fa53_4 rfl) ?_
      refine L1 (ld3 rfl (hB.cellv (v := .int _ _) (by decide) rfl)) ?_
      refine L1 (bi rfl rfl (bn_neq (v := true) (decide_eq_false (by decide)))) ?_
      refine nt ?_
      refine cond_t rfl ?_
      refine sqr ?_
      refine L1 (bd56n) ?_
      refine L1 (bd56n) ?_
      refine Lst56 rfl rfl ⟨rfl, rfl, rfl⟩ hD2 ?_
      intro w14 hD2 kp14 _
      have hD3 := hD3.kp kp14 (by simp; omega)
      have hB := hB.kp kp14 (by simp; omega)
      have kp := kp.transNew kp14 (by simp; omega)
      have kpX := kpX.transNew kp14 (by simp; omega)
      refine Lst56 rfl rfl ⟨rfl, rfl, rfl⟩ hD3 ?_
      intro w15 hD3 kp15 _
      have hD2 := hD2.kp kp15 (by simp; omega)
      have hB := hB.kp kp15 (by simp; omega)
      have kp := kp.transNew kp15 (by simp; omega)
      have kpX := kpX.transNew kp15 (by simp; omega)
      refine nt ?_
      refine wp_ret ?_
      refine then_r ?_
      refine retc2 (t := 2) (t' := 3) (b := D2) (b' := D3) rfl rfl rfl hD2 hD3 ?_
      exact ⟨_, rfl, kpX, _, _, _, _, _, _, _, 2, rfl, ⟨rfl, rfl, rfl⟩, ⟨rfl, rfl, rfl⟩, ⟨hB, kp⟩, Nat.le_refl _, .inl ⟨by decide, .inl ⟨rfl, rfl, md_rs hlv.h14 hnn hcll hok9 hrd⟩⟩⟩
     ·skip
      refine then_n ?_
      refine wp_seq ?_
      refine sqr ?_
      refine Mp rfl ?_
      refine Np rfl ?_
      refine L1 (fa53_4 rfl) ?_
      refine L1 (ld3 rfl (hB.cellv (v := .int _ _) (by decide) rfl)) ?_
      refine L1 (bi rfl rfl (bn_neq (v := true) (decide_eq_false (by decide)))) ?_
      refine nt ?_
      refine cond_t rfl ?_
      refine sqr ?_
      refine L1 (bd56n) ?_
      refine L1 (bd56n) ?_
      refine Lst56 rfl rfl ⟨rfl, rfl, rfl⟩ hD2 ?_
      intro w14 hD2 kp14 _
      have hD3 := hD3.kp kp14 (by simp; omega)
      have hB := hB.kp kp14 (by simp; omega)
      have kp := kp.transNew kp14 (by simp; omega)
      have kpX := kpX.transNew kp14 (by simp; omega)
      refine Lst56 rfl rfl ⟨rfl, rfl, rfl⟩ hD3 ?_
      intro w15 hD3 kp15 _
      have hD2 := hD2.kp kp15 (by simp; omega)
      have hB := hB.kp kp15 (by simp; omega)
      have kp := kp.transNew kp15 (by simp; omega)
      have kpX := kpX.transNew kp15 (by simp; omega)
      refine nt ?_
      refine wp_ret ?_
      refine then_r ?_
      refine retc2 (t := 2) (t' := 3) (b := D2) (b' := D3) rfl rfl rfl hD2 hD3 ?_
      exact ⟨_, rfl, kpX, _, _, _, _, _, _, _, 1, rfl, ⟨rfl, rfl, rfl⟩, ⟨rfl, rfl, rfl⟩, ⟨hB, kp⟩, hp4, .inl ⟨by decide, .inr (.inl ⟨rfl, _, _, md_rb hlv.h14 hnn hcll hok9 hrd⟩)⟩⟩
    ·skip
     refine then_n ?_
     refine sqr ?_
     refine Mp rfl ?_
     refine L1 (ld56 rfl hD9 (by decide) rfl rfl rfl) ?_
     refine Mi rfl ?_
     refine Mi rfl ?_
     refine L1 (bi rfl rfl (bn_add (c := ((nl + nd : Nat) : Int)) (by omega) (by omega) (by omega))) ?_
     refine LC (cl3 has33 rfl rfl rfl rfl) (lengths_s hE ⟨hB, kp⟩ hst3 lv9 cv9 sv9 (nl + nd) (by omega)) ?_
     rintro v w13 ⟨kp13, ⟨sa, sc, rfl⟩, ⟨hB, kp⟩⟩
     have hD2 := hD2.kp kp13 (by simp; omega)
     have hD3 := hD3.kp kp13 (by simp; omega)
     have hL := hL.kp kp13 (by simp; omega)
     have hD9 := hD9.kp kp13 (by simp; omega)
     have kpX := kpX.trans kp13
     refine L1 (asg (v := (.slice sa 0 sc)) rfl) ?_
     refine nt ?_
     refine wp_seq ?_
     refine sqr ?_
     refine Mp rfl ?_
     refine Np rfl ?_
     refine L1 (fa53_4 rfl) ?_
     refine L1 (ld3 rfl (hB.cellv (v := .int _ _) (by decide) rfl)) ?_
     refine L1 (bi rfl rfl (bn_neq (v := true) (decide_eq_false (by omega)))) ?_
     refine nt ?_
     refine cond_t rfl ?_
     refine sqr ?_
     refine L1 (bd56n) ?_
     refine L1 (bd56n) ?_
     refine Lst56 rfl rfl ⟨rfl, rfl, rfl⟩ hD2 ?_
     intro w14 hD2 kp14 _
     have hD3 := hD3.kp kp14 (by simp; omega)
     have hB := hB.kp kp14 (by simp; omega)
     have kp := kp.transNew kp14 (by simp; omega)
     have kpX := kpX.transNew kp14 (by simp; omega)
     refine Lst56 rfl rfl ⟨rfl, rfl, rfl⟩ hD3 ?_
     intro w15 hD3 kp15 _
     have hD2 := hD2.kp kp15 (by simp; omega)
     have hB := hB.kp kp15 (by simp; omega)
     have kp := kp.transNew kp15 (by simp; omega)
     have kpX := kpX.transNew kp15 (by simp; omega)
     refine nt ?_
     refine wp_ret ?_
     refine then_r ?_
     refine retc2 (t := 2) (t' := 3) (b := D2) (b' := D3) rfl rfl rfl hD2 hD3 ?_
     exact ⟨_, rfl, kpX, _, _, _, _, _, _, _, st3, rfl, ⟨rfl, rfl, rfl⟩, ⟨rfl, rfl, rfl⟩, ⟨hB, kp⟩, hq, .inl ⟨hst3, hdd⟩⟩
end Go.Proofs.YtejeloeaklpinaaDoor
namespace Go.Proofs.YtejeloeaklpinaaDoor
theorem Sl.one {w : World} {v : Value} {xs : List Nat} (h : Sl w v xs) : v.oneCell' = true := by obtain ⟨a, c, rfl⟩ := h.val; rfl
theorem Sl.nn {w : World} {v : Value} {xs : List Nat} (h : Sl w v xs) (hn : 0 < xs.length) : ∃ b c, v = .slice (some ⟨b, 0, none⟩) xs.length c ∧ ∀ j, j < xs.length → w.cell? ⟨b, j, none⟩ = some (.int .u8 ((xs.getD j 0 : Nat) : Int)) := by
 rcases h with ⟨_, rfl⟩ | ⟨b, cap, g, rfl, h2, h3, h4, h5⟩
 ·simp at hn
 ·exact ⟨b, cap, rfl, fun j hj => h2.cellv (by omega) (h5 j hj)⟩
theorem mem_obk {v : Value} {k : Nat} : k ∈ obk v ↔ v.ownBlock = some k := by
 unfold obk
 cases h : v.ownBlock with
 | none => simp
 | some b => simp only [List.mem_singleton, Option.some.injEq]; exact eq_comm
/-- The bytes told so far, in a walk that began at w with ov0. -/
structure OS (w0 w wk : World) (X : Nat) (ov0 ov : Value) (out : List Nat) : Prop where
 s : Sl wk ov out
 o : ∀ k, ov.ownBlock = some k → k ≠ X ∧ w0.heap.size ≤ k ∧ (ov0.ownBlock = some k ∨ w.heap.size ≤ k)
 k : Kp (X :: obk ov0) w wk
section
variable {w0 w wk w1 : World} {X : Nat} {ov0 ov v' : Value} {out out' : List Nat}
theorem OS.refl (h : Sl w ov out) (ho : ∀ k, ov.ownBlock = some k → k ≠ X ∧ w0.heap.size ≤ k) : OS w0 w w X ov ov out := ⟨h, fun k hk => ⟨(ho k hk).1, (ho k hk).2, .inl hk⟩, Kp.refl _ _⟩
theorem OS.kx (h : OS w0 w wk X ov0 ov out) (k : Kp [X] wk w1) : OS w0 w w1 X ov0 ov out :=
 ⟨h.s.kp k (fun b hb => by simp; exact (h.o b hb).1), h.o, h.k.trans (k.mono (by intro i hi; simp at hi; simp [hi]))⟩
theorem OS.k0 (h : OS w0 w wk X ov0 ov out) (k : Kp [] wk w1) : OS w0 w w1 X ov0 ov out :=
 ⟨h.s.kp k (by simp), h.o, h.k.trans (k.mono (by simp))⟩
theorem OS.drew (h : OS w0 w wk X ov0 ov out) : OS w0 w wk.drew X ov0 ov out := h.k0 (Kp.refl [] wk).drew
theorem OS.x (h : OS w0 w wk X ov0 ov out) : X ∉ obk ov := fun hm => (h.o X (mem_obk.1 hm)).1 rfl
theorem OS.new (h : OS w0 w wk X ov0 ov out) : ∀ i, i ∈ obk ov → i < w0.heap.size → i ∈ ([] : List Nat) := fun i hi hlt => by have := (h.o i (mem_obk.1 hi)).2.1; omega
theorem OS.ap (h : OS w0 w wk X ov0 ov out) (hX : X < wk.heap.size) (hk : Kp [] w0 wk) (hs : Sl w1 v' out') (k : Kp (obk ov) wk w1) (ho : ∀ k, v'.ownBlock = some k → ov.ownBlock = some k ∨ wk.heap.size ≤ k) : OS w0 w w1 X ov0 v' out' := by
 refine ⟨hs, fun i hi => ?_, h.k.transNew k fun i hi hlt => ?_⟩
 ·rcases ho i hi with h1 | h1
  ·exact h.o i h1
  ·exact ⟨by omega, Nat.le_trans hk.size h1, .inr (Nat.le_trans h.k.size h1)⟩
 ·rcases (h.o i (mem_obk.1 hi)).2.2 with h1 | h1
  ·exact List.mem_cons_of_mem _ (mem_obk.2 h1)
  ·omega
theorem OS.trans {ov1 : Value} (h : OS w0 w wk X ov0 ov out) (k : OS w0 wk w1 X ov ov1 out') : OS w0 w w1 X ov0 ov1 out' := by
 refine ⟨k.s, fun i hi => ?_, h.k.transNew k.k fun i hi hlt => ?_⟩
 ·obtain ⟨h1, h2, h3⟩ := k.o i hi
  rcases h3 with h3 | h3
  ·exact h.o i h3
  ·exact ⟨h1, h2, .inr (Nat.le_trans h.k.size h3)⟩
 ·rcases List.mem_cons.1 hi with rfl | hi
  ·simp
  ·rcases (h.o i (mem_obk.1 hi)).2.2 with h1 | h1
   ·exact List.mem_cons_of_mem _ (mem_obk.2 h1)
   ·omega
end
attribute [local irreducible] wpList wpStill wpMix Code.wp Calls fr
section
variable {ops : Array Oper} {Q : Exit → Act → World → Prop} {N : Nat} {L : List (Nat × Value)} {B : Nat → Value} {w : World} {rest : List Oper} {dd : Nat} {x y : Operand} {ty : TypeId} {pos : String} {af : Array Edge}
/-- One byte more: the new slice is built and appended. -/
theorem Lap1 {v : Value} {xs : List Nat} {h : Nat} {i : Int} {d2 : Nat} {ty2 : TypeId} {pos2 : String} {af2 : Array Edge} (hx : ev N (fl L B) x = v) (hy : ev N (fl L B) y = .int .u8 i) (hi : i = (h : Int)) (hne : ∀ t, x = .tmp t → t ≠ d2) (hS : Sl w v xs) (hmax : xs.length + 1 ≤ 140737488355328) (hd : d2 < N)
  (K : ∀ v' u w1, Sl w1 v' (xs ++ [h]) → Kp (obk v) w w1 → (∀ k, v'.ownBlock = some k → v.ownBlock = some k ∨ w.heap.size ≤ k) → wpList Tryd.prog ops Q rest (fr N (fl ((dd, v') :: (d2, u) :: L) B)) w1) :
  wpList Tryd.prog ops Q (⟨some d2, .buildSlice 22 1 #[(0, y)], ty2, pos2, af2, none⟩ :: ⟨some dd, .call ⟨.builtin .append, #[x, .tmp d2], #[22, 22]⟩, ty, pos, af, none⟩ :: rest) (fr N (fl L B)) w := by
 subst hi
 refine L1 (bs1 hy) ?_
 have hb : Bk (w.alloc (.cells #[.int .u8 (h : Int)] 5)) w.heap.size 1 5 (fun _ => .int .u8 (h : Int)) := Bk.newOf w _ 5 1 _ rfl
 have hx' : ev N (fl ((d2, .slice (some ⟨w.heap.size, 0, none⟩) 1 1) :: L) B) x = v := by
  rw [← hx]
  cases x with
  | tmp t =>
   simp only [ev, fl]
   rw [if_neg (hne t rfl)]
  | const u => rfl
  | global g => rfl
  | func k => rfl
 have hk : Kp [] w (w.alloc (.cells #[.int .u8 (h : Int)] 5)) := (Kp.refl [] w).alloc _
 refine Lap (m := 1) (c2 := 1) (b2 := w.heap.size) (o2 := 0) hx' (by simp [ev, fl, hd]) (hS.kp hk (by simp)) hb (ys := [h]) rfl (Nat.le_refl _) (fun j hj => by rw [show j = 0 by omega]; rfl) hmax ?_
 intro v' w1 h1 h2 h3
 refine K v' _ w1 h1 ((hk.mono (by simp)).trans h2) fun k hk2 => ?_
 rcases h3 k hk2 with h | h
 ·exact .inl h
 ·exact .inr (by simp at h; omega)
end
theorem bytesAt_snoc (S : Src) : ∀ (n pos : Nat), bytesAt S pos (n + 1) = bytesAt S pos n ++ [bv S.D (8 * (pos + n)) 8]
 | 0, pos => rfl
 | n + 1, pos => by
  rw [bytesAt, bytesAt_snoc S n (pos + 1), bytesAt, List.cons_append, show pos + 1 + n = pos + (n + 1) by omega]
/-- What the reference makes of a block that is as it stands. -/
def SR (S : Src) (p : Nat) (out : List Nat) (p' : Nat) (out' : List Nat) (st : Nat) : Prop :=
 (8 * S.N < (p + 7) / 8 * 8 + 32 ∧ st = 2 ∧ p' = 8 * S.N ∧ out' = out) ∨
 ((p + 7) / 8 * 8 + 32 ≤ 8 * S.N ∧ bv S.D ((p + 7) / 8 * 8) 16 + bv S.D ((p + 7) / 8 * 8 + 16) 16 ≠ 65535 ∧ st = 1 ∧ p' = (p + 7) / 8 * 8 + 32 ∧ out' = out) ∨
 ((p + 7) / 8 * 8 + 32 ≤ 8 * S.N ∧ bv S.D ((p + 7) / 8 * 8) 16 + bv S.D ((p + 7) / 8 * 8 + 16) 16 = 65535 ∧
  (((p + 7) / 8 + 4 + bv S.D ((p + 7) / 8 * 8) 16 ≤ S.N ∧ st = 0 ∧ p' = 8 * ((p + 7) / 8 + 4 + bv S.D ((p + 7) / 8 * 8) 16) ∧ out' = out ++ bytesAt S ((p + 7) / 8 + 4) (bv S.D ((p + 7) / 8 * 8) 16)) ∨
   (S.N < (p + 7) / 8 + 4 + bv S.D ((p + 7) / 8 * 8) 16 ∧ st = 2 ∧ p' = 8 * S.N ∧ out' = out ++ bytesAt S ((p + 7) / 8 + 4) (S.N - ((p + 7) / 8 + 4)))))
/-- The base of a symbol of distances, and how many bits more: at least one back. -/
theorem dBase_pos (d : Nat) : 1 ≤ dBase d := by
 unfold dBase
 split
 ·show 1 ≤ d + 1; omega
 ·exact Nat.le_trans (Nat.le_add_left 1 _) (Nat.le_add_right _ _)
/-- What the reference makes of a block's symbols. -/
inductive RH (S : Src) (lit dist : List Nat) : Nat → List Nat → Nat → List Nat → Nat → Prop
 | short {p : Nat} {out : List Nat} : rsym S lit p = .short → RH S lit dist p out (8 * S.N) out 2
 | bad {p p1 : Nat} {out : List Nat} : rsym S lit p = .bad p1 0 → RH S lit dist p out p1 out 1
 | eob {p p1 : Nat} {out : List Nat} : rsym S lit p = .ok 256 p1 0 → RH S lit dist p out p1 out 0
 | lit {p p1 s p' st : Nat} {out o' : List Nat} : rsym S lit p = .ok s p1 0 → s < 256 → RH S lit dist p1 (out ++ [s]) p' o' st → RH S lit dist p out p' o' st
 | big {p p1 s : Nat} {out : List Nat} : rsym S lit p = .ok s p1 0 → 285 < s → RH S lit dist p out p1 out 1
 | lshort {p p1 s : Nat} {out : List Nat} : rsym S lit p = .ok s p1 0 → 256 < s → s ≤ 285 → 8 * S.N < p1 + (lenOf s).2 → RH S lit dist p out (8 * S.N) out 2
 | dshort {p p1 s : Nat} {out : List Nat} : rsym S lit p = .ok s p1 0 → 256 < s → s ≤ 285 → p1 + (lenOf s).2 ≤ 8 * S.N → rsym S dist (p1 + (lenOf s).2) = .short → RH S lit dist p out (8 * S.N) out 2
 | dbad {p p1 p3 s : Nat} {out : List Nat} : rsym S lit p = .ok s p1 0 → 256 < s → s ≤ 285 → p1 + (lenOf s).2 ≤ 8 * S.N → rsym S dist (p1 + (lenOf s).2) = .bad p3 0 → RH S lit dist p out p3 out 1
 | dbig {p p1 p3 s d : Nat} {out : List Nat} : rsym S lit p = .ok s p1 0 → 256 < s → s ≤ 285 → p1 + (lenOf s).2 ≤ 8 * S.N → rsym S dist (p1 + (lenOf s).2) = .ok d p3 0 → 29 < d → RH S lit dist p out p3 out 1
 | xshort {p p1 p3 s d : Nat} {out : List Nat} : rsym S lit p = .ok s p1 0 → 256 < s → s ≤ 285 → p1 + (lenOf s).2 ≤ 8 * S.N → rsym S dist (p1 + (lenOf s).2) = .ok d p3 0 → d ≤ 29 → 8 * S.N < p3 + dBits d → RH S lit dist p out (8 * S.N) out 2
 | far {p p1 p3 s d : Nat} {out : List Nat} : rsym S lit p = .ok s p1 0 → 256 < s → s ≤ 285 → p1 + (lenOf s).2 ≤ 8 * S.N → rsym S dist (p1 + (lenOf s).2) = .ok d p3 0 → d ≤ 29 → p3 + dBits d ≤ 8 * S.N →
   (out.length < dBase d + bv S.D p3 (dBits d) ∨ 32768 < dBase d + bv S.D p3 (dBits d)) → RH S lit dist p out (p3 + dBits d) out 1
 | copy {p p1 p3 s d p' st : Nat} {out o' : List Nat} : rsym S lit p = .ok s p1 0 → 256 < s → s ≤ 285 → p1 + (lenOf s).2 ≤ 8 * S.N → rsym S dist (p1 + (lenOf s).2) = .ok d p3 0 → d ≤ 29 → p3 + dBits d ≤ 8 * S.N →
   dBase d + bv S.D p3 (dBits d) ≤ out.length → dBase d + bv S.D p3 (dBits d) ≤ 32768 →
   RH S lit dist (p3 + dBits d) (lz out (dBase d + bv S.D p3 (dBits d)) ((lenOf s).1 + bv S.D p1 (lenOf s).2)) p' o' st → RH S lit dist p out p' o' st
end Go.Proofs.YtejeloeaklpinaaDoor
namespace Go.Proofs.YtejeloeaklpinaaDoor
theorem natv_take {l : List Nat} {i : Nat} (h : i < l.length) : natv (l.take i) ++ [.int .i64 ((l.getD i 0 : Nat) : Int)] = natv (l.take (i + 1)) := by
 rw [List.take_succ_eq_append_getElem h, natv_app, ← One.natv1, List.getD_eq_getElem?_getD, List.getElem?_eq_getElem h]
 rfl
attribute [local irreducible] wpList wpStill wpMix Code.wp Calls fr aE eOp
theorem fixed_r (w : World) :
  Ret 21 [] w fun v w' => ∃ l1 c1 s1 l2 c2 s2 B1 B2, v = .tuple #[.agg #[l1, c1, s1], .agg #[l2, c2, s2]] ∧ CV w' B1 (.agg #[l1, c1, s1]) fixL ∧ CV w' B2 (.agg #[l2, c2, s2]) (List.replicate 32 5) ∧ (∀ b ∈ B1, w.heap.size ≤ b) ∧ (∀ b ∈ B2, w.heap.size ≤ b) ∧ Kp [] w w' := by
 have kp := Kp.refl [] w
 refine calls_fr (N := 40) Tryd.func21 rfl rfl (by simp) rfl ?_
 refine sqr ?_
 refine Lal56 ?_
 intro D0 w1 D0e hD0 kp1 hs1
 have hwD0 : w.heap.size ≤ D0 := by omega
 have kp := kp.trans kp1
 refine Lal56 ?_
 intro D1 w1 D1e hD1 kp1 hs1
 have hx : D0 < D1 := by have := hD0.lt; omega
 have hD0 := hD0.kp kp1 (by simp)
 have kp := kp.trans kp1
 refine nt ?_
 refine sqr ?_
 have hDl := hD1.lt
 skip
 refine L1 bsi0 ?_
 have hS := Go.Proofs.YtejeloeaklpinaaDoor.sv0 w1
 have hoS : ∀ k, (Value.slice (some ⟨w1.heap.size, 0, none⟩) 0 0).ownBlock = some k → D1 < k := by intro k hk; simp only [Value.ownBlock, Option.some.injEq] at hk; omega
 have hk0 := (Kp.refl [] w1).alloc (.cells #[] 3)
 have hD0 := hD0.kp hk0 (by simp)
 have hD1 := hD1.kp hk0 (by simp)
 have kp := kp.trans hk0
 refine L1 (asg (v := .slice _ _ _) rfl) ?_
 refine nt ?_
 refine wp_seq ?_
 refine sqr ?_
 refine Mi rfl ?_
 refine nt ?_
 refine wp_block ?_
 refine loop_fr (fun k f w' => f 0 = .pointer (some ⟨D0, 0, none⟩) ∧ f 1 = .pointer (some ⟨D1, 0, none⟩) ∧ ∃ (i : Nat) (sv : Value), f 7 = .int .i64 ((i : Nat) : Int) ∧ f 2 = sv ∧ i ≤ 288 ∧ k = 288 - i ∧ Bk w' D0 3 56 (fun _ => .slice none 0 0) ∧ Bk w' D1 3 56 (fun _ => .slice none 0 0) ∧ Sv w' sv (natv (fixL.take i)) ∧ (∀ k, Value.ownBlock sv = some k → D1 < k) ∧ Kp [] w w') 288 ⟨rfl, rfl, 0, .slice (some ⟨w1.heap.size, 0, none⟩) 0 0, rfl, rfl, by omega, rfl, hD0, hD1, by simpa [natv] using hS, hoS, kp⟩ ?_
 clear hD0 hD1 hS hoS kp hk0 kp1 hs1 hDl
 intro k f w2 HJ
 obtain ⟨s0, s1, i, sv, s7, s2, hi, rfl, hD0, hD1, hS, hso, kp⟩ := HJ
 refine slots (fc s0 (fc s1 (fc s2 (fc s7 fnil)))) ?_
 refine sqr ?_
 refine L1 (bi rfl rfl (bn_lss (v := decide (i < 288)) (decide_eq_decide.2 (by omega)))) ?_
 refine nt ?_
 refine wp_seq ?_
 refine cond_d (p := i < 288) rfl (fun hlt => ?_) (fun hlt => ?_)
 ·skip
  refine skn ?_
  refine wp_seq ?_
  refine wp_block ?_
  refine sqr ?_
  refine Mi rfl ?_
  refine Ai rfl ?_
  refine nt ?_
  refine sqr ?_
  refine Ai rfl ?_
  refine nt ?_
  refine seq_cut (N := 40) (fun f w' => w2 = w' ∧ f 0 = .pointer (some ⟨D0, 0, none⟩) ∧ f 1 = .pointer (some ⟨D1, 0, none⟩) ∧ f 2 = sv ∧ f 7 = .int .i64 ((i : Nat) : Int) ∧ f 4 = .int .i64 ((fixL.getD i 0 : Nat) : Int)) ?_ ?_
  ·skip
   have hfg := fix_get i hlt
   by_cases h1 : i < 144
   ·skip
    refine wp_block ?_
    refine sqr ?_
    refine Mi rfl ?_
    refine L1 (bi rfl rfl (bn_geq (v := false) (decide_eq_false (by omega)))) ?_
    refine Mb rfl ?_
    refine Lskip (t := 13) (b := true) rfl (by decide) rfl ?_
    refine Lskip (t := 13) (b := true) rfl (by decide) rfl ?_
    refine L1 (pk_f rfl rfl) ?_
    refine Ab rfl ?_
    refine nt ?_
    refine cond_f rfl ?_
    refine sqr ?_
    refine Mi rfl ?_
    refine L1 (bi rfl rfl (bn_geq (v := false) (decide_eq_false (by omega)))) ?_
    refine Mb rfl ?_
    refine Lskip (t := 20) (b := true) rfl (by decide) rfl ?_
    refine Lskip (t := 20) (b := true) rfl (by decide) rfl ?_
    refine L1 (pk_f rfl rfl) ?_
    refine Ab rfl ?_
    refine nt ?_
    refine cond_f rfl ?_
    refine wp_skip ?_
    refine inb_n ?_
    refine then_n ?_
    exact ⟨_, rfl, rfl, rfl, rfl, rfl, rfl, by rw [hfg, if_pos h1]; rfl⟩
   ·skip
    by_cases h2 : i < 256
    ·skip
     refine wp_block ?_
     refine sqr ?_
     refine Mi rfl ?_
     refine L1 (bi rfl rfl (bn_geq (v := true) (decide_eq_true (by omega)))) ?_
     refine Mb rfl ?_
     refine L1g (t := 13) (b := true) rfl (by decide) rfl (mv (v := .int _ _) rfl) ?_
     refine L1g (t := 13) (b := true) rfl (by decide) rfl (bi rfl rfl (bn_lss (v := true) (decide_eq_true (by omega)))) ?_
     refine L1 (pk_t rfl rfl) ?_
     refine Ab rfl ?_
     refine nt ?_
     refine cond_t rfl ?_
     refine reg_lit ?_
     refine Ai rfl ?_
     refine wpList_nil ?_
     refine inb_n ?_
     refine then_n ?_
     exact ⟨_, rfl, rfl, rfl, rfl, rfl, rfl, by rw [hfg, if_neg h1, if_pos h2]; rfl⟩
    ·skip
     refine wp_block ?_
     refine sqr ?_
     refine Mi rfl ?_
     refine L1 (bi rfl rfl (bn_geq (v := true) (decide_eq_true (by omega)))) ?_
     refine Mb rfl ?_
     refine L1g (t := 13) (b := true) rfl (by decide) rfl (mv (v := .int _ _) rfl) ?_
     refine L1g (t := 13) (b := true) rfl (by decide) rfl (bi rfl rfl (bn_lss (v := false) (decide_eq_false (by omega)))) ?_
     refine L1 (pk_t rfl rfl) ?_
     refine Ab rfl ?_
     refine nt ?_
     refine cond_f rfl ?_
     refine sqr ?_
     refine Mi rfl ?_
     refine L1 (bi rfl rfl (bn_geq (v := true) (decide_eq_true (by omega)))) ?_
     refine Mb rfl ?_
     refine L1g (t := 20) (b := true) rfl (by decide) rfl (mv (v := .int _ _) rfl) ?_
     refine L1g (t := 20) (b := true) rfl (by decide) rfl (bi rfl rfl (bn_lss (v := decide (i < 280)) (decide_eq_decide.2 (by omega)))) ?_
     refine L1 (pk_t rfl rfl) ?_
     refine Ab rfl ?_
     refine nt ?_
     refine cond_d (p := i < 280) rfl (fun h3 => ?_) (fun h3 => ?_)
     ·skip
      refine reg_lit ?_
      refine Ai rfl ?_
      refine wpList_nil ?_
      refine inb_n ?_
      refine then_n ?_
      exact ⟨_, rfl, rfl, rfl, rfl, rfl, rfl, by rw [hfg, if_neg h1, if_neg h2, if_pos h3]; rfl⟩
     ·skip
      refine wp_skip ?_
      refine inb_n ?_
      refine then_n ?_
      exact ⟨_, rfl, rfl, rfl, rfl, rfl, rfl, by rw [hfg, if_neg h1, if_neg h2, if_neg h3]; rfl⟩
  ·skip
   rintro f _ ⟨rfl, s0, s1, s2, s7, s4⟩
   refine slots (fc s0 (fc s1 (fc s2 (fc s4 (fc s7 fnil))))) ?_
   refine reg_lit ?_
   refine L1 (mv (v := sv) rfl) ?_
   refine Mi rfl ?_
   have hDl := hD1.lt
   have hDl0 := hD0.lt
   have hwsz := kp.size
   refine Lapv1 rfl rfl (by intro t h; cases h; decide) hS (by rw [natv_len, List.length_take]; omega) (by decide) ?_
   intro sv2 u2 w5 hS2 kp2 hown2
   have e2 := natv_take (by rw [fix_len]; exact hlt)
   rw [e2] at hS2
   have hS := hS2
   have hob : ∀ b, b ≤ D1 → b ∉ obk _ := fun b hb hm => by have := hso _ (mem_obk.1 hm); omega
   have hD0 := hD0.kp kp2 (hob _ (by omega))
   have hD1 := hD1.kp kp2 (hob _ (Nat.le_refl _))
   have kp := kp.transNew kp2 (obk_ge (fun k hk => by have := hso k hk; omega))
   have hso : ∀ k, Value.ownBlock sv2 = some k → D1 < k := fun k hk => by
    rcases hown2 k hk with h | h
    ·exact hso k h
    ·omega
   refine L1 (asg (v := sv2) rfl) ?_
   refine wpList_nil ?_
   refine inb_n ?_
   refine then_n ?_
   refine reg_lit ?_
   refine L1 (bi rfl rfl (bn_add (c := ((i + 1 : Nat) : Int)) (by omega) (by omega) (by omega))) ?_
   refine Mi rfl ?_
   refine nt ?_
   exact ⟨288 - (i + 1), _, by omega, rfl, rfl, rfl, i + 1, sv2, rfl, rfl, by omega, rfl, hD0, hD1, hS, hso, kp⟩
 ·skip
  obtain rfl : i = 288 := by omega
  have hfl : fixL.take 288 = fixL := by rw [← fix_len]; exact List.take_length
  rw [hfl] at hS
  have hsl : ∀ k, Value.ownBlock sv = some k → k < w2.heap.size := fun k hk => hS.lt hk
  refine wp_exit ?_
  refine then_e ?_
  refine then_e ?_
  refine inb_same ?_
  refine then_n ?_
  refine sqr ?_
  have hDl := hD1.lt
  skip
  refine L1 bsi0 ?_
  have hR := Go.Proofs.YtejeloeaklpinaaDoor.sv0 w2
  have hoR : ∀ k, (Value.slice (some ⟨w2.heap.size, 0, none⟩) 0 0).ownBlock = some k → D1 < k := by intro k hk; simp only [Value.ownBlock, Option.some.injEq] at hk; omega
  have hk0 := (Kp.refl [] w2).alloc (.cells #[] 3)
  have hD0 := hD0.kp hk0 (by simp)
  have hD1 := hD1.kp hk0 (by simp)
  have hS := hS.kp hk0 (by simp)
  have kp := kp.trans hk0
  refine L1 (asg (v := .slice _ _ _) rfl) ?_
  refine nt ?_
  refine wp_seq ?_
  refine sqr ?_
  refine Mi rfl ?_
  refine nt ?_
  refine wp_block ?_
  have hsw0 := hk0.size
  have hoR : ∀ k, (Value.slice (some ⟨w2.heap.size, 0, none⟩) 0 0).ownBlock = some k → D1 < k ∧ w2.heap.size ≤ k := fun k hk => ⟨hoR k hk, by simp only [Value.ownBlock, Option.some.injEq] at hk; omega⟩
  obtain ⟨sz, hsz⟩ : ∃ z : Nat, w2.heap.size = z := ⟨_, rfl⟩
  obtain ⟨rv0, hrv0⟩ : ∃ v, Value.slice (some ⟨w2.heap.size, 0, none⟩) 0 0 = v := ⟨_, rfl⟩
  rw [hrv0] at hR hoR ⊢
  rw [hsz] at hsl hsw0 hoR
  refine loop_fr (fun k f w' => f 0 = .pointer (some ⟨D0, 0, none⟩) ∧ f 1 = .pointer (some ⟨D1, 0, none⟩) ∧ f 2 = sv ∧ ∃ (i : Nat) (rv : Value), f 30 = .int .i64 ((i : Nat) : Int) ∧ f 5 = rv ∧ i ≤ 32 ∧ k = 32 - i ∧ Bk w' D0 3 56 (fun _ => .slice none 0 0) ∧ Bk w' D1 3 56 (fun _ => .slice none 0 0) ∧ Sv w' sv (natv (fixL)) ∧ (∀ k, Value.ownBlock sv = some k → D1 < k) ∧ Kp [] w w' ∧ Sv w' rv (natv (List.replicate i 5)) ∧ (∀ k, Value.ownBlock rv = some k → D1 < k ∧ sz ≤ k) ∧ sz ≤ w'.heap.size) 32 ⟨rfl, rfl, rfl, 0, rv0, rfl, rfl, by omega, rfl, hD0, hD1, hS, hso, kp, hR, hoR, hsw0⟩ ?_
  clear hD0 hD1 hS hR hoR kp hk0 hDl
  intro k f w3 HJ
  obtain ⟨s0, s1, s2, i, rv, s30, s5, hi, rfl, hD0, hD1, hS, _, kp, hR, hro, hszw⟩ := HJ
  refine slots (fc s0 (fc s1 (fc s2 (fc s5 (fc s30 fnil))))) ?_
  refine sqr ?_
  refine L1 (bi rfl rfl (bn_lss (v := decide (i < 32)) (decide_eq_decide.2 (by omega)))) ?_
  refine nt ?_
  refine wp_seq ?_
  refine cond_d (p := i < 32) rfl (fun hlt2 => ?_) (fun hlt2 => ?_)
  ·skip
   refine skn ?_
   refine wp_seq ?_
   refine wp_block ?_
   refine reg_lit ?_
   refine L1 (mv (v := rv) rfl) ?_
   have hro1 : ∀ k, Value.ownBlock rv = some k → D1 < k := fun k hk => (hro k hk).1
   skip
   have hDl := hD1.lt
   have hDl0 := hD0.lt
   have hwsz := kp.size
   refine Lapv1 (h := ((5 : Nat) : Int)) rfl rfl (by intro t h; cases h; decide) hR (by rw [natv_len, List.length_replicate]; omega) (by decide) ?_
   intro rv2 u2 w5 hR2 kp2 hown2
   have e2 : natv (List.replicate i 5) ++ [.int .i64 ((5 : Nat) : Int)] = natv (List.replicate (i + 1) 5) := by rw [List.replicate_succ', natv_app, One.natv1]
   rw [e2] at hR2
   have hob : ∀ b, b ≤ D1 → b ∉ obk rv := fun b hb hm => by have := hro _ (mem_obk.1 hm); omega
   have hobs : ∀ k, Value.ownBlock sv = some k → k ∉ obk rv := fun k hk hm => by have := hsl k hk; have := hro _ (mem_obk.1 hm); omega
   have hD0 := hD0.kp kp2 (hob _ (by omega))
   have hD1 := hD1.kp kp2 (hob _ (Nat.le_refl _))
   have hS := hS.kp kp2 hobs
   have kp := kp.transNew kp2 (obk_ge (fun k hk => by have := hro k hk; omega))
   have hro2 : ∀ k, Value.ownBlock rv2 = some k → D1 < k ∧ sz ≤ k := fun k hk => by
    rcases hown2 k hk with h | h
    ·exact hro k h
    ·omega
   refine L1 (asg (v := rv2) rfl) ?_
   refine wpList_nil ?_
   refine inb_n ?_
   refine then_n ?_
   refine reg_lit ?_
   refine L1 (bi rfl rfl (bn_add (c := ((i + 1 : Nat) : Int)) (by omega) (by omega) (by omega))) ?_
   refine Mi rfl ?_
   refine nt ?_
   exact ⟨32 - (i + 1), _, by omega, rfl, rfl, rfl, rfl, i + 1, rv2, rfl, rfl, by omega, rfl, hD0, hD1, hS, hso, kp, hR2, hro2, Nat.le_trans hszw kp2.size⟩
  ·skip
   obtain rfl : i = 32 := by omega
   refine wp_exit ?_
   refine then_e ?_
   refine then_e ?_
   refine inb_same ?_
   refine then_n ?_
   refine sqr ?_
   refine L1 (mv (v := sv) rfl) ?_
   have hA1 := hS.agn (B := obk sv) (fun b hb => mem_obk.2 hb)
   refine LC (cl1 has27 rfl rfl) (made_r hA1 (by rw [fix_len]; omega)) ?_
   rintro v w6 ⟨B1, hC1, hb1, kp6⟩
   obtain ⟨l1, c1, s1, rfl, _, _, _, ho1⟩ := id hC1
   have hlo1 : ∀ b ∈ B1, D1 < b := fun b hb => by
    have := hD1.lt
    rcases hb1 _ hb with h | h
    ·exact hso _ (mem_obk.1 h)
    ·omega
   have hD0 := hD0.kp kp6 (by simp)
   have hD1 := hD1.kp kp6 (by simp)
   have hR := hR.kp kp6 (by simp)
   have kp := kp.trans kp6
   refine L1 (mv (v := rv) rfl) ?_
   have hA2 := hR.agn (B := obk rv) (fun b hb => mem_obk.2 hb)
   refine LC (cl1 has27 rfl rfl) (made_r hA2 (by simp)) ?_
   rintro v w6 ⟨B2, hC2, hb2, kp6⟩
   obtain ⟨l2, c2, s2, rfl, _, _, _, ho2⟩ := id hC2
   have hlo2 : ∀ b ∈ B2, D1 < b := fun b hb => by
    have := hD1.lt
    rcases hb2 _ hb with h | h
    ·exact (hro _ (mem_obk.1 h)).1
    ·omega
   have hD0 := hD0.kp kp6 (by simp)
   have hD1 := hD1.kp kp6 (by simp)
   have hC1 := hC1.kp kp6 (by simp)
   have kp := kp.trans kp6
   refine Lst56 rfl rfl ho1 hD0 ?_
   intro w7 hD0 kp7 _
   have hD1 := hD1.kp kp7 (by simp; omega)
   have hC1 := hC1.kp kp7 (fun b hb hm => by have := hlo1 _ hb; simp at hm; omega)
   have hC2 := hC2.kp kp7 (fun b hb hm => by have := hlo2 _ hb; simp at hm; omega)
   have kp := kp.transNew kp7 (by simp; omega)
   refine Lst56 rfl rfl ho2 hD1 ?_
   intro w7 hD1 kp7 _
   have hD0 := hD0.kp kp7 (by simp; omega)
   have hC1 := hC1.kp kp7 (fun b hb hm => by have := hlo1 _ hb; simp at hm; omega)
   have hC2 := hC2.kp kp7 (fun b hb hm => by have := hlo2 _ hb; simp at hm; omega)
   have kp := kp.transNew kp7 (by simp; omega)
   refine nt ?_
   refine wp_ret ?_
   refine retc2 (t := 0) (t' := 1) (b := D0) (b' := D1) rfl rfl rfl hD0 hD1 ?_
   exact ⟨_, rfl, _, _, _, _, _, _, B1, B2, rfl, hC1, hC2, fun b hb => by have := hlo1 b hb; omega, fun b hb => by have := hlo2 b hb; omega, kp⟩
end Go.Proofs.YtejeloeaklpinaaDoor
namespace Go.Proofs.YtejeloeaklpinaaDoor
theorem CV.os {w0 w wk : World} {X : Nat} {ov0 ov v : Value} {out B L : List Nat} (h : CV w B v L) (ho : OS w0 w wk X ov0 ov out) (hB : ∀ b ∈ B, b ≠ X ∧ ov0.ownBlock ≠ some b) : CV wk B v L :=
 h.kp ho.k fun b hb hm => by
  rcases List.mem_cons.1 hm with h1 | h1
  ·exact (hB b hb).1 h1
  ·exact (hB b hb).2 (mem_obk.1 h1)
attribute [local irreducible] wpList wpStill wpMix Code.wp Calls fr aE eOp
theorem sym_s {w : World} {X : Nat} {dv ov : Value} {p base st edge : Nat} (hB : Bk w X 6 53 (rx dv p ov base st edge)) (hst : st ≠ 0) (lv cv : Value) (sa : Option Addr) (sn sc : Nat) :
  Ret 28 [px X, .agg #[lv, cv, .slice sa sn sc]] w fun v w' => v = .int .i64 (-1) ∧ Kp [] w w' ∧ Bk w' X 6 53 (rx dv p ov base st edge) := by
 have kp := Kp.refl [] w
 refine calls_fr (N := 75) Tryd.func28 rfl rfl (by simp [px]) rfl ?_
 refine sqr ?_
 refine L1 (bx56 rfl) ?_
 have hkb := (Kp.refl [] w).alloc (.cells #[lv, cv, .slice sa sn sc] 56)
 have hD : Bk (w.alloc (.cells #[lv, cv, .slice sa sn sc] 56)) w.heap.size 3 56 (c56 lv cv (.slice sa sn sc)) := Bk.newOf w _ 56 3 _ rfl
 have hB := hB.kp hkb (by simp)
 have kp := kp.trans hkb
 obtain ⟨Db, hDb⟩ : ∃ Db, w.heap.size = Db := ⟨_, rfl⟩
 rw [hDb] at hD ⊢
 refine Ai rfl ?_
 refine nt ?_
 refine sqr ?_
 refine Ai rfl ?_
 refine Ai rfl ?_
 refine Ai rfl ?_
 refine nt ?_
 refine wp_seq ?_
 refine sqr ?_
 refine Ai rfl ?_
 refine nt ?_
 refine wp_block ?_
 refine loop_fr (fun k f w' => f 0 = .pointer (some ⟨X, 0, none⟩) ∧ f 3 = .pointer (some ⟨Db, 0, none⟩) ∧ f 7 = .int .i64 0 ∧ f 8 = .int .i64 1 ∧ (∃ z5 z6 : Int, f 5 = .int .i64 z5 ∧ f 6 = .int .i64 z6) ∧ Bk w' Db 3 56 (c56 lv cv (.slice sa sn sc)) ∧ Bk w' X 6 53 (rx dv p ov base st edge) ∧ Kp [] w w') 0 ⟨rfl, rfl, rfl, rfl, ⟨_, _, rfl, rfl⟩, hD, hB, kp⟩ ?_
 clear hD hB kp hkb
 intro k f w1 HJ
 obtain ⟨s0, s3, s7, s8, ⟨z5, z6, s5, s6⟩, hD, hB, kp⟩ := HJ
 refine slots (fc s0 (fc s3 (fc s5 (fc s6 (fc s7 (fc s8 fnil)))))) ?_
 by_cases hat : (0 : Int) < ((sn : Nat) : Int)
 ·skip
  refine wp_seq ?_
  refine sqr ?_
  refine Mi rfl ?_
  refine L1 (bi rfl rfl (bn_leq (v := true) (decide_eq_true (by decide)))) ?_
  refine Mb rfl ?_
  refine L1g (t := 12) (b := true) rfl (by decide) rfl (mv (v := .int _ _) rfl) ?_
  refine L1g (t := 12) (b := true) rfl (by decide) rfl (fa56_2 rfl) ?_
  refine L1g (t := 12) (b := true) rfl (by decide) rfl (ld24 rfl (hD.cellv (v := (.slice sa sn sc)) (by decide) rfl)) ?_
  refine L1g (t := 12) (b := true) rfl (by decide) rfl (ln und24 rfl) ?_
  refine L1g (t := 12) (b := true) rfl (by decide) rfl (bi rfl rfl (bn_lss (v := true) (decide_eq_true hat))) ?_
  refine L1 (pk_t rfl rfl) ?_
  refine Mb rfl ?_
  refine L1g (t := 19) (b := true) rfl (by decide) rfl (mv (v := .pointer _) rfl) ?_
  refine L1g (t := 19) (b := true) rfl (by decide) rfl (nilP rfl) ?_
  refine L1g (t := 19) (b := true) rfl (by decide) rfl (fa53_4 rfl) ?_
  refine L1g (t := 19) (b := true) rfl (by decide) rfl (ld3 rfl (hB.cellv (v := .int _ _) (by decide) rfl)) ?_
  refine L1g (t := 19) (b := true) rfl (by decide) rfl (bi rfl rfl (bn_eql (v := false) (decide_eq_false (by omega)))) ?_
  refine L1 (pk_t rfl rfl) ?_
  refine nt ?_
  refine cond_f rfl ?_
  refine wp_exit ?_
  refine then_e ?_
  refine then_e ?_
  refine inb_same ?_
  refine then_n ?_
  refine wp_seq ?_
  refine sqr ?_
  refine Mp rfl ?_
  refine Np rfl ?_
  refine L1 (fa53_4 rfl) ?_
  refine L1 (ld3 rfl (hB.cellv (v := .int _ _) (by decide) rfl)) ?_
  refine L1 (bi rfl rfl (bn_eql (v := false) (decide_eq_false (by omega)))) ?_
  refine nt ?_
  refine cond_f rfl ?_
  refine skn ?_
  refine sqr ?_
  refine Ai rfl ?_
  refine nt ?_
  refine wp_ret ?_
  refine ret1 rfl rfl ?_
  exact ⟨_, rfl, rfl, kp, hB⟩
 ·skip
  refine wp_seq ?_
  refine sqr ?_
  refine Mi rfl ?_
  refine L1 (bi rfl rfl (bn_leq (v := true) (decide_eq_true (by decide)))) ?_
  refine Mb rfl ?_
  refine L1g (t := 12) (b := true) rfl (by decide) rfl (mv (v := .int _ _) rfl) ?_
  refine L1g (t := 12) (b := true) rfl (by decide) rfl (fa56_2 rfl) ?_
  refine L1g (t := 12) (b := true) rfl (by decide) rfl (ld24 rfl (hD.cellv (v := (.slice sa sn sc)) (by decide) rfl)) ?_
  refine L1g (t := 12) (b := true) rfl (by decide) rfl (ln und24 rfl) ?_
  refine L1g (t := 12) (b := true) rfl (by decide) rfl (bi rfl rfl (bn_lss (v := false) (decide_eq_false hat))) ?_
  refine L1 (pk_t rfl rfl) ?_
  refine Mb rfl ?_
  refine Lskip (t := 19) (b := true) rfl (by decide) rfl ?_
  refine Lskip (t := 19) (b := true) rfl (by decide) rfl ?_
  refine Lskip (t := 19) (b := true) rfl (by decide) rfl ?_
  refine Lskip (t := 19) (b := true) rfl (by decide) rfl ?_
  refine Lskip (t := 19) (b := true) rfl (by decide) rfl ?_
  refine L1 (pk_f rfl rfl) ?_
  refine nt ?_
  refine cond_f rfl ?_
  refine wp_exit ?_
  refine then_e ?_
  refine then_e ?_
  refine inb_same ?_
  refine then_n ?_
  refine wp_seq ?_
  refine sqr ?_
  refine Mp rfl ?_
  refine Np rfl ?_
  refine L1 (fa53_4 rfl) ?_
  refine L1 (ld3 rfl (hB.cellv (v := .int _ _) (by decide) rfl)) ?_
  refine L1 (bi rfl rfl (bn_eql (v := false) (decide_eq_false (by omega)))) ?_
  refine nt ?_
  refine cond_f rfl ?_
  refine skn ?_
  refine sqr ?_
  refine Ai rfl ?_
  refine nt ?_
  refine wp_ret ?_
  refine ret1 rfl rfl ?_
  exact ⟨_, rfl, rfl, kp, hB⟩
theorem stored_r {w0 w : World} {X : Nat} {dv ov : Value} {data out : List Nat} {p base edge : Nat} (hE : RE w0 dv data X) (hW : RW w0 w X dv p ov base 0 edge) (hp : p ≤ 8 * data.length) (hS : Sl w ov out) (hov : ∀ k, ov.ownBlock = some k → k ≠ X ∧ w0.heap.size ≤ k) (hol : out.length + 130 * (8 * data.length - p) ≤ 140737488355328) :
  Ret 20 [px X] w fun _ w' => ∃ p' st' ov' out', RW w0 w' X dv p' ov' base st' edge ∧ OS w0 w w' X ov ov' out' ∧ p' ≤ 8 * data.length ∧ SR (srcOf data) p out p' out' st' := by
 obtain ⟨hB, kp⟩ := hW
 have hXn := hE.hX
 have hlen := hE.len
 have hO := OS.refl (w0 := w0) (X := X) hS hov
 obtain ⟨pb, hpb⟩ : ∃ q, (p + 7) / 8 = q := ⟨_, rfl⟩
 refine calls_fr (N := 64) Tryd.func20 rfl rfl (by simp [px]) rfl ?_
 refine sqr ?_
 refine Mp rfl ?_
 refine Mp rfl ?_
 refine Np rfl ?_
 refine L1 (fa53_1 rfl) ?_
 refine L1 (ld3 rfl (hB.cellv (v := .int _ _) (by decide) rfl)) ?_
 refine L1 (bi rfl rfl (bn_add (c := ((p + 7 : Nat) : Int)) (by omega) (by omega) (by omega))) ?_
 refine L1 (bi rfl rfl ((bn_quo (x := p + 7) (m := 8) rfl rfl (by decide) (by omega)).trans (congrArg (fun x : Nat => pure (Value.int .i64 (x : Int))) hpb))) ?_
 refine L1 (bi rfl rfl (bn_mul (c := ((pb * 8 : Nat) : Int)) (by omega) (by omega) (by omega))) ?_
 refine Np rfl ?_
 refine L1 (fa53_1 rfl) ?_
 refine Lst3 (v := .int .i64 ((pb * 8 : Nat) : Int)) rfl rfl rfl hB (by decide) ?_
 intro wx hB kpx
 have hB := hB.congr (fun k _ => rx_1 k)
 have kp := kp.transNew kpx (by simp; omega)
 have hO := hO.kx kpx
 clear kpx
 refine nt ?_
 refine sqr ?_
 refine Mp rfl ?_
 refine LC (cl2 has19 rfl rfl rfl) (bits_r2 hE ⟨hB, kp⟩ (by omega) 16 (by decide)) ?_
 rintro v w2 ⟨n1, p1, s1, rfl, kp1, hn1, hp1, ⟨hB, kp⟩, hc1⟩
 have hO := hO.kx kp1
 refine Mp rfl ?_
 refine LC (cl2 has19 rfl rfl rfl) (bits_r2 hE ⟨hB, kp⟩ (hp1) 16 (by decide)) ?_
 rintro v w2 ⟨n2, p2, s2, rfl, kp1, hn2, hp2, ⟨hB, kp⟩, hc2⟩
 have hO := hO.kx kp1
 refine Ai rfl ?_
 refine Ai rfl ?_
 refine nt ?_
 have h216 : (2 : Nat) ^ 16 = 65536 := rfl
 refine seq_cut (N := 64) (fun f w' => f 0 = .pointer (some ⟨X, 0, none⟩) ∧ ∃ (n q st : Nat), f 2 = .int .i64 ((n : Nat) : Int) ∧ n < 65536 ∧ Bk w' X 6 53 (rx dv q ov base st edge) ∧ Kp [] w0 w' ∧ OS w0 w w' X ov ov out ∧ q ≤ 8 * data.length ∧ ((st = 0 ∧ q = pb * 8 + 32 ∧ n = bv (srcOf data).D (pb * 8) 16 ∧ n + bv (srcOf data).D (pb * 8 + 16) 16 = 65535) ∨ (st ≠ 0 ∧ SR (srcOf data) p out q out st))) ?_ ?_
 ·skip
  have hcc : (pb * 8 + 32 ≤ 8 * data.length ∧ s2 = 0 ∧ p2 = pb * 8 + 32 ∧ n1 = bv (srcOf data).D (pb * 8) 16 ∧ n2 = bv (srcOf data).D (pb * 8 + 16) 16) ∨ (8 * data.length < pb * 8 + 32 ∧ s2 = 2 ∧ p2 = 8 * data.length) := by
   rcases hc1 with ⟨a1, a2, a3, a4⟩ | ⟨a1, a2, a3, a4⟩
   ·subst a3 a4
    rcases hc2 with ⟨b1, b2, b3, b4⟩ | ⟨b1, b2, b3, b4⟩
    ·exact .inl ⟨by omega, b4, by omega, a2, b2⟩
    ·exact .inr ⟨by omega, b4, b3⟩
   ·have : s1 = 2 := a4
    subst this
    rcases hc2 with ⟨b1, b2, b3, b4⟩ | ⟨b1, b2, b3, b4⟩
    ·omega
    ·exact .inr ⟨by omega, b4, b3⟩
  rcases hcc with ⟨h32, rfl, rfl, hn1e, hn2e⟩ | ⟨h32, rfl, rfl⟩
  ·skip
   by_cases hsum : n1 + n2 = 65535
   ·skip
    refine sqr ?_
    refine Mp rfl ?_
    refine Np rfl ?_
    refine L1 (fa53_4 rfl) ?_
    refine L1 (ld3 rfl (hB.cellv (v := .int _ _) (by decide) rfl)) ?_
    refine L1 (bi rfl rfl (bn_eql (v := true) (decide_eq_true rfl))) ?_
    refine Mb rfl ?_
    refine L1g (t := 25) (b := true) rfl (by decide) rfl (mv (v := .int _ _) rfl) ?_
    refine L1g (t := 25) (b := true) rfl (by decide) rfl (mv (v := .int _ _) rfl) ?_
    refine L1g (t := 25) (b := true) rfl (by decide) rfl (bi rfl rfl (bn_add (c := ((n1 + n2 : Nat) : Int)) (by omega) (by omega) (by omega))) ?_
    refine L1g (t := 25) (b := true) rfl (by decide) rfl (bi rfl rfl (bn_neq (v := false) (decide_eq_true (by omega)))) ?_
    refine L1 (pk_t rfl rfl) ?_
    refine nt ?_
    refine cond_f rfl ?_
    refine skn ?_
    exact ⟨_, rfl, rfl, n1, pb * 8 + 32, 0, rfl, by omega, hB, kp, hO, by omega, .inl ⟨rfl, rfl, hn1e, by rw [← hn2e]; exact hsum⟩⟩
   ·skip
    refine sqr ?_
    refine Mp rfl ?_
    refine Np rfl ?_
    refine L1 (fa53_4 rfl) ?_
    refine L1 (ld3 rfl (hB.cellv (v := .int _ _) (by decide) rfl)) ?_
    refine L1 (bi rfl rfl (bn_eql (v := true) (decide_eq_true rfl))) ?_
    refine Mb rfl ?_
    refine L1g (t := 25) (b := true) rfl (by decide) rfl (mv (v := .int _ _) rfl) ?_
    refine L1g (t := 25) (b := true) rfl (by decide) rfl (mv (v := .int _ _) rfl) ?_
    refine L1g (t := 25) (b := true) rfl (by decide) rfl (bi rfl rfl (bn_add (c := ((n1 + n2 : Nat) : Int)) (by omega) (by omega) (by omega))) ?_
    refine L1g (t := 25) (b := true) rfl (by decide) rfl (bi rfl rfl (bn_neq (v := true) (decide_eq_false (by omega)))) ?_
    refine L1 (pk_t rfl rfl) ?_
    refine nt ?_
    refine cond_t rfl ?_
    refine reg_lit ?_
    refine Mp rfl ?_
    refine Np rfl ?_
    refine L1 (fa53_4 rfl) ?_
    refine Lst3 (v := .int .i64 ((1 : Nat) : Int)) rfl rfl rfl hB (by decide) ?_
    intro wx hB kpx
    have hB := hB.congr (fun k _ => rx_4 k)
    have kp := kp.transNew kpx (by simp; omega)
    have hO := hO.kx kpx
    clear kpx
    refine nt ?_
    exact ⟨_, rfl, rfl, n1, pb * 8 + 32, 1, rfl, by omega, hB, kp, hO, by omega, .inr ⟨by decide, .inr (.inl ⟨by rw [hpb]; exact h32, by rw [hpb, ← hn1e, ← hn2e]; exact hsum, rfl, by rw [hpb], rfl⟩)⟩⟩
  ·skip
   refine sqr ?_
   refine Mp rfl ?_
   refine Np rfl ?_
   refine L1 (fa53_4 rfl) ?_
   refine L1 (ld3 rfl (hB.cellv (v := .int _ _) (by decide) rfl)) ?_
   refine L1 (bi rfl rfl (bn_eql (v := false) (decide_eq_false (by decide)))) ?_
   refine Mb rfl ?_
   refine Lskip (t := 25) (b := true) rfl (by decide) rfl ?_
   refine Lskip (t := 25) (b := true) rfl (by decide) rfl ?_
   refine Lskip (t := 25) (b := true) rfl (by decide) rfl ?_
   refine Lskip (t := 25) (b := true) rfl (by decide) rfl ?_
   refine L1 (pk_f rfl rfl) ?_
   refine nt ?_
   refine cond_f rfl ?_
   refine skn ?_
   exact ⟨_, rfl, rfl, n1, (8 * data.length), 2, rfl, by omega, hB, kp, hO, by omega, .inr ⟨by decide, .inl ⟨by rw [hpb]; exact h32, rfl, rfl, rfl⟩⟩⟩
 ·skip
  clear hB kp hO hc1 hc2
  rintro f w5 ⟨s0, n, q, st, s2, hn, hB, kp, hO, hq, hcase⟩
  refine slots (fc s0 (fc s2 fnil)) ?_
  obtain ⟨ov1, out1, hO, hJ0⟩ : ∃ ov1 out1, OS w0 w w5 X ov ov1 out1 ∧ (ov1 = ov ∧ out1 = out) := ⟨ov, out, hO, rfl, rfl⟩
  obtain ⟨rfl, rfl⟩ := hJ0
  refine sqr ?_
  refine Ai rfl ?_
  refine nt ?_
  refine wp_block ?_
  have hJ0 : ∃ k0, (st = 0 ∧ 0 ≤ n ∧ k0 = n - 0 + 1 ∧ q = 8 * (pb + 4 + 0) ∧ n = bv (srcOf data).D (pb * 8) 16 ∧ n + bv (srcOf data).D (pb * 8 + 16) 16 = 65535 ∧ out1 = out1 ++ bytesAt (srcOf data) (pb + 4) 0) ∨ (st ≠ 0 ∧ k0 = 0 ∧ SR (srcOf data) p out1 q out1 st) := by
   rcases hcase with ⟨h1, h2, h3, h4⟩ | ⟨h1, h2⟩
   ·exact ⟨_, .inl ⟨h1, Nat.zero_le _, rfl, by omega, h3, h4, by simp [bytesAt]⟩⟩
   ·exact ⟨0, .inr ⟨h1, rfl, h2⟩⟩
  obtain ⟨k0, hJ0⟩ := hJ0
  refine loop_fr (fun k f w' => f 0 = .pointer (some ⟨X, 0, none⟩) ∧ f 2 = .int .i64 ((n : Nat) : Int) ∧ ∃ (i q st : Nat) (v1 : Value) (o1 : List Nat), f 4 = .int .i64 ((i : Nat) : Int) ∧ i ≤ 70000 ∧ Bk w' X 6 53 (rx dv q v1 base st edge) ∧ Kp [] w0 w' ∧ OS w0 w w' X ov1 v1 o1 ∧ q ≤ 8 * data.length ∧ ((st = 0 ∧ i ≤ n ∧ k = n - i + 1 ∧ q = 8 * (pb + 4 + i) ∧ n = bv (srcOf data).D (pb * 8) 16 ∧ n + bv (srcOf data).D (pb * 8 + 16) 16 = 65535 ∧ o1 = out1 ++ bytesAt (srcOf data) (pb + 4) i) ∨ (st ≠ 0 ∧ k = 0 ∧ SR (srcOf data) p out1 q o1 st))) k0 ⟨rfl, rfl, 0, q, st, ov1, out1, rfl, by omega, hB, kp, hO, hq, hJ0⟩ ?_
  clear hB kp hO hq hJ0 hcase
  intro k f w6 HJ
  obtain ⟨s0, s2, i, q, st, v1, o1, s4, hi7, hB, kp, hO, hq, hcase⟩ := HJ
  refine slots (fc s0 (fc s2 (fc s4 fnil))) ?_
  rcases hcase with ⟨rfl, hin, rfl, rfl, hne, hsum, rfl⟩ | ⟨hst, rfl, hsr⟩
  ·skip
   by_cases hlt : i < n
   ·skip
    refine wp_seq ?_
    refine sqr ?_
    refine Mi rfl ?_
    refine Mi rfl ?_
    refine L1 (bi rfl rfl (bn_lss (v := true) (decide_eq_true (by omega)))) ?_
    refine Mb rfl ?_
    refine L1g (t := 37) (b := true) rfl (by decide) rfl (mv (v := .pointer _) rfl) ?_
    refine L1g (t := 37) (b := true) rfl (by decide) rfl (nilP rfl) ?_
    refine L1g (t := 37) (b := true) rfl (by decide) rfl (fa53_4 rfl) ?_
    refine L1g (t := 37) (b := true) rfl (by decide) rfl (ld3 rfl (hB.cellv (v := .int _ _) (by decide) rfl)) ?_
    refine L1g (t := 37) (b := true) rfl (by decide) rfl (bi rfl rfl (bn_eql (v := true) (decide_eq_true rfl))) ?_
    refine L1 (pk_t rfl rfl) ?_
    refine nt ?_
    refine cond_t rfl ?_
    refine skn ?_
    refine wp_seq ?_
    refine wp_block ?_
    refine sqr ?_
    refine Mp rfl ?_
    refine LC (cl2 has19 rfl rfl rfl) (bits_r2 hE ⟨hB, kp⟩ hq 8 (by decide)) ?_
    rintro v w7 ⟨z, q2, st2, rfl, kp7, hz, hq2, ⟨hB, kp⟩, hc⟩
    have h28 : (2 : Nat) ^ 8 = 256 := rfl
    have hO := hO.kx kp7
    refine L1 (cv3_5 rfl (wrap_u8n _ (by omega) (by omega))) ?_
    refine Ai rfl ?_
    refine wpList_nil ?_
    rcases hc with ⟨hle, rfl, rfl, rfl⟩ | ⟨hgt, rfl, rfl, hs2⟩
    ·skip
     refine then_n ?_
     refine sqr ?_
     refine Mp rfl ?_
     refine Np rfl ?_
     refine L1 (fa53_4 rfl) ?_
     refine L1 (ld3 rfl (hB.cellv (v := .int _ _) (by decide) rfl)) ?_
     refine L1 (bi rfl rfl (bn_eql (v := true) (decide_eq_true rfl))) ?_
     refine nt ?_
     refine cond_t rfl ?_
     refine reg_lit ?_
     refine Mp rfl ?_
     refine Mp rfl ?_
     refine Np rfl ?_
     refine L1 (fa53_2 rfl) ?_
     refine L1 (ld22 rfl (hB.cellv (v := v1) (by decide) rfl)) ?_
     refine Mi rfl ?_
     have hXl := hB.lt
     refine Lap1 (h := (bv (srcOf data).D (8 * (pb + 4 + i)) 8)) rfl rfl rfl (by intro t h; cases h; decide) hO.s (by simp only [List.length_append, bytesAt_length]; omega) (by decide) ?_
     intro ov2 u2 w8 hS2 kp2 hown2
     have hB := hB.kp kp2 hO.x
     have hO2 := hO.ap hXl kp hS2 kp2 hown2
     have kp := kp.transNew kp2 hO.new
     have hO := hO2
     clear hO2
     refine Np rfl ?_
     refine L1 (fa53_2 rfl) ?_
     refine Lst22 (v := ov2) rfl rfl hS2.one hB (by decide) ?_
     intro wx hB kpx
     have hB := hB.congr (fun k _ => rx_2 k)
     have kp := kp.transNew kpx (by simp; omega)
     have hO := hO.kx kpx
     clear kpx
     refine wpList_nil ?_
     refine inb_n ?_
     refine then_n ?_
     refine reg_lit ?_
     refine Mi rfl ?_
     refine L1 (bi rfl rfl (bn_add (c := ((i + 1 : Nat) : Int)) (by omega) (by omega) (by omega))) ?_
     refine Ai rfl ?_
     refine nt ?_
     exact ⟨n - (i + 1) + 1, _, by omega, rfl, rfl, rfl, i + 1, 8 * (pb + 4 + i) + 8, 0, ov2, _, rfl, by omega, hB, kp, hO, hq2, .inl ⟨rfl, by omega, rfl, by omega, hne, hsum, by rw [bytesAt_snoc, List.append_assoc]⟩⟩
    ·skip
     have hs2 : st2 = 2 := hs2
     subst hs2
     refine then_n ?_
     refine sqr ?_
     refine Mp rfl ?_
     refine Np rfl ?_
     refine L1 (fa53_4 rfl) ?_
     refine L1 (ld3 rfl (hB.cellv (v := .int _ _) (by decide) rfl)) ?_
     refine L1 (bi rfl rfl (bn_eql (v := false) (decide_eq_false (by decide)))) ?_
     refine nt ?_
     refine cond_f rfl ?_
     refine wp_skip ?_
     refine inb_n ?_
     refine then_n ?_
     refine reg_lit ?_
     refine Mi rfl ?_
     refine L1 (bi rfl rfl (bn_add (c := ((i + 1 : Nat) : Int)) (by omega) (by omega) (by omega))) ?_
     refine Ai rfl ?_
     refine nt ?_
     exact ⟨0, _, by omega, rfl, rfl, rfl, i + 1, 8 * data.length, 2, v1, _, rfl, by omega, hB, kp, hO, hq2, .inr ⟨by decide, rfl, .inr (.inr ⟨by rw [hpb]; show _ ≤ 8 * data.length; omega, by rw [hpb, ← hne]; exact hsum, .inr ⟨by rw [hpb, ← hne]; show data.length < _; omega, rfl, rfl, by rw [hpb, show i = data.length - (pb + 4) by omega]; rfl⟩⟩)⟩⟩
   ·skip
    obtain rfl : i = n := by omega
    refine wp_seq ?_
    refine sqr ?_
    refine Mi rfl ?_
    refine Mi rfl ?_
    refine L1 (bi rfl rfl (bn_lss (v := false) (decide_eq_false (by omega)))) ?_
    refine Mb rfl ?_
    refine Lskip (t := 37) (b := true) rfl (by decide) rfl ?_
    refine Lskip (t := 37) (b := true) rfl (by decide) rfl ?_
    refine Lskip (t := 37) (b := true) rfl (by decide) rfl ?_
    refine Lskip (t := 37) (b := true) rfl (by decide) rfl ?_
    refine Lskip (t := 37) (b := true) rfl (by decide) rfl ?_
    refine L1 (pk_f rfl rfl) ?_
    refine nt ?_
    refine cond_f rfl ?_
    refine wp_exit ?_
    refine then_e ?_
    refine then_e ?_
    refine inb_same ?_
    refine end0 rfl ?_
    exact ⟨_, rfl, _, _, _, _, ⟨hB, kp⟩, hO, hq, .inr (.inr ⟨by rw [hpb]; show _ ≤ 8 * data.length; omega, by rw [hpb, ← hne]; exact hsum, .inl ⟨by rw [hpb, ← hne]; show _ ≤ data.length; omega, rfl, by rw [hpb, ← hne], by rw [hpb, ← hne]⟩⟩)⟩
  ·skip
   by_cases hlt : i < n
   ·skip
    refine wp_seq ?_
    refine sqr ?_
    refine Mi rfl ?_
    refine Mi rfl ?_
    refine L1 (bi rfl rfl (bn_lss (v := true) (decide_eq_true (by omega)))) ?_
    refine Mb rfl ?_
    refine L1g (t := 37) (b := true) rfl (by decide) rfl (mv (v := .pointer _) rfl) ?_
    refine L1g (t := 37) (b := true) rfl (by decide) rfl (nilP rfl) ?_
    refine L1g (t := 37) (b := true) rfl (by decide) rfl (fa53_4 rfl) ?_
    refine L1g (t := 37) (b := true) rfl (by decide) rfl (ld3 rfl (hB.cellv (v := .int _ _) (by decide) rfl)) ?_
    refine L1g (t := 37) (b := true) rfl (by decide) rfl (bi rfl rfl (bn_eql (v := false) (decide_eq_false (by omega)))) ?_
    refine L1 (pk_t rfl rfl) ?_
    refine nt ?_
    refine cond_f rfl ?_
    refine wp_exit ?_
    refine then_e ?_
    refine then_e ?_
    refine inb_same ?_
    refine end0 rfl ?_
    exact ⟨_, rfl, _, _, _, _, ⟨hB, kp⟩, hO, hq, hsr⟩
   ·skip
    refine wp_seq ?_
    refine sqr ?_
    refine Mi rfl ?_
    refine Mi rfl ?_
    refine L1 (bi rfl rfl (bn_lss (v := false) (decide_eq_false (by omega)))) ?_
    refine Mb rfl ?_
    refine Lskip (t := 37) (b := true) rfl (by decide) rfl ?_
    refine Lskip (t := 37) (b := true) rfl (by decide) rfl ?_
    refine Lskip (t := 37) (b := true) rfl (by decide) rfl ?_
    refine Lskip (t := 37) (b := true) rfl (by decide) rfl ?_
    refine Lskip (t := 37) (b := true) rfl (by decide) rfl ?_
    refine L1 (pk_f rfl rfl) ?_
    refine nt ?_
    refine cond_f rfl ?_
    refine wp_exit ?_
    refine then_e ?_
    refine then_e ?_
    refine inb_same ?_
    refine end0 rfl ?_
    exact ⟨_, rfl, _, _, _, _, ⟨hB, kp⟩, hO, hq, hsr⟩
end Go.Proofs.YtejeloeaklpinaaDoor
namespace Go.Proofs.YtejeloeaklpinaaDoor
theorem OS.ne {w0 w wk : World} {X D : Nat} {ov0 ov : Value} {out : List Nat} (h : OS w0 w wk X ov0 ov out) (h1 : ∀ k, ov0.ownBlock = some k → k < D) (h2 : D < w.heap.size) : D ∉ obk ov := fun hm => by
 rcases (h.o D (mem_obk.1 hm)).2.2 with h3 | h3
 ·have := h1 D h3; omega
 ·omega
theorem dist_r2 {w0 w : World} {X : Nat} {dv ov : Value} {data : List Nat} {p base edge : Nat} (hE : RE w0 dv data X) (hW : RW w0 w X dv p ov base 0 edge) (hp : p ≤ 8 * data.length) (d : Nat) (hd : d < 30) :
  Ret 30 [px X, .int .i64 (d : Int)] w fun v w' => ∃ z : Nat, v = .int .i64 (z : Int) ∧ Kp [X] w w' ∧ ((p + dBits d ≤ 8 * data.length ∧ z = dBase d + bv (srcOf data).D p (dBits d) ∧ RW w0 w' X dv (p + dBits d) ov base 0 edge) ∨ (8 * data.length < p + dBits d ∧ RW w0 w' X dv (8 * data.length) ov base 2 edge)) := by
 intro cs
 obtain ⟨e, w', fr, ⟨v, he, hk, h⟩, c⟩ := dist_r hE hW hp d hd cs
 refine ⟨e, w', fr, ⟨v, he, ?_⟩, c⟩
 rcases h with ⟨h1, h2, h3⟩ | ⟨h1, ⟨z, h2⟩, h3⟩
 ·exact ⟨_, h2, hk, .inl ⟨h1, rfl, h3⟩⟩
 ·exact ⟨z, h2, hk, .inr ⟨h1, h3⟩⟩
section
variable {ops : Array Oper} {K : Act → World → Prop} {N : Nat} {L : List (Nat × Value)} {B : Nat → Value} {w : World} {i dd : Nat} {x y : Operand} {ty : TypeId} {pos : String} {af : Array Edge}
theorem e_ap {v : Value} {xs : List Nat} {h b2 c2 : Nat} (hi : ops[i]? = some ⟨some dd, .call ⟨.builtin .append, #[x, y], #[22, 22]⟩, ty, pos, af, none⟩) (hx : ev N (fl L B) x = v) (hy : ev N (fl L B) y = .slice (some ⟨b2, 0, none⟩) 1 c2) (hS : Sl w v xs) (hB2 : Bk w b2 1 5 (fun _ => .int .u8 (h : Int))) (hmax : xs.length + 1 ≤ 140737488355328)
  (k : ∀ v' w1, Sl w1 v' (xs ++ [h]) → Kp (obk v) w w1 → (∀ k, v'.ownBlock = some k → v.ownBlock = some k ∨ w.heap.size ≤ k) → K (fr N (fl ((dd, v') :: L) B)) w1) : eOp Tryd.prog ops All i K (fr N (fl L B)) w := by
 obtain ⟨v', w1, hr, h3, h4, h5⟩ := ap_run w ty (a := ⟨b2, 0, none⟩) (c2 := c2) (ys := [h]) (m := 1) hS rfl (fun j hj => by rw [Addr.add_lit, show 0 + j = 0 by omega, hB2.cell (k := 0) (by decide), show j = 0 by omega]; rfl) hmax
 exact e_v hi (by simp [execOp, resolve, invoke, builtin, hx, hy, hr]) (k v' w1 h3 h4 h5)
end
theorem len_r2 {w0 w : World} {X : Nat} {dv ov : Value} {data : List Nat} {p base edge : Nat} (hE : RE w0 dv data X) (hW : RW w0 w X dv p ov base 0 edge) (hp : p ≤ 8 * data.length) (s : Nat) (h1 : 256 < s) (h2 : s ≤ 285) :
  Ret 29 [px X, .int .i64 (s : Int)] w fun v w' => ∃ z : Nat, v = .int .i64 (z : Int) ∧ Kp [X] w w' ∧ ((p + (lenOf s).2 ≤ 8 * data.length ∧ z = (lenOf s).1 + bv (srcOf data).D p (lenOf s).2 ∧ RW w0 w' X dv (p + (lenOf s).2) ov base 0 edge) ∨ (8 * data.length < p + (lenOf s).2 ∧ RW w0 w' X dv (8 * data.length) ov base 2 edge)) := by
 intro cs
 obtain ⟨e, w', fr, ⟨v, he, hk, h⟩, c⟩ := len_r hE hW hp s h1 h2 cs
 refine ⟨e, w', fr, ⟨v, he, ?_⟩, c⟩
 rcases h with ⟨h1, h2, h3⟩ | ⟨h1, ⟨z, h2⟩, h3⟩
 ·exact ⟨_, h2, hk, .inl ⟨h1, rfl, h3⟩⟩
 ·exact ⟨z, h2, hk, .inr ⟨h1, h3⟩⟩
theorem dist_bound (d : Nat) (hd : d < 30) (D p : Nat) : dBase d + bv D p (dBits d) ≤ 60000 := by
 have hb := bv_lt D p (dBits d)
 have e := exF_dist d hd
 obtain ⟨h1, h2, _, _⟩ := exF_d d hd
 have e1 : (exF 1 4 2 d).1 = dBase d := congrArg Prod.fst e
 have e2 : (exF 1 4 2 d).2.1 = dBits d := congrArg Prod.snd e
 rw [e1] at h1
 rw [e2] at h2
 have : 2 ^ dBits d ≤ 2 ^ 14 := Nat.pow_le_pow_right (by decide) h2
 have h214 : (2 : Nat) ^ 14 = 16384 := rfl
 omega
attribute [local irreducible] wpList wpStill wpMix Code.wp Calls fr aE eOp
theorem rsym_ge {S : Src} {L : List Nat} {p p' : Nat} (h : rsym S L p = .bad p' 0) : p ≤ p' := by
 unfold rsym at h
 split at h
 ·split at h
  ·cases h; omega
  ·cases h
 ·split at h <;> cases h
set_option maxHeartbeats 1000000 in
theorem block_r {w0 w : World} {X : Nat} {dv ov u1 u2 : Value} {data out lit dist B1 B2 : List Nat} {p base edge : Nat} (hE : RE w0 dv data X) (hW : RW w0 w X dv p ov base 0 edge) (hp : p ≤ 8 * data.length) (hS : Sl w ov out) (hov : ∀ k, ov.ownBlock = some k → k ≠ X ∧ w0.heap.size ≤ k) (hol : out.length + 130 * (8 * data.length - p) ≤ 140737488355328)
  (hC1 : CV w B1 u1 lit) (hC2 : CV w B2 u2 dist) (hB1 : ∀ b ∈ B1, b ≠ X ∧ ov.ownBlock ≠ some b) (hB2 : ∀ b ∈ B2, b ≠ X ∧ ov.ownBlock ≠ some b) (hRl : Rd1 lit) (hRd : Rd1 dist) (hl1 : lit.length ≤ 500) (hl2 : dist.length ≤ 500) :
  Ret 22 [px X, u1, u2] w fun _ w' => ∃ p' st' ov' out', RW w0 w' X dv p' ov' base st' edge ∧ OS w0 w w' X ov ov' out' ∧ p' ≤ 8 * data.length ∧ RH (srcOf data) lit dist p out p' out' st' ∧ out'.length + 130 * (8 * data.length - p') ≤ 140737488355328 := by
 obtain ⟨l1, c1, s1, rfl, _⟩ := id hC1
 obtain ⟨l2, c2, s2, rfl, _, _, ⟨sa, sc, rfl, _⟩, _⟩ := id hC2
 obtain ⟨hB, kp⟩ := hW
 have hXn := hE.hX
 have hlen := hE.len
 have hO0 := OS.refl (w0 := w0) (X := X) hS hov
 have hX1 : X ∉ B1 := fun hm => (hB1 X hm).1 rfl
 have hX2 : X ∉ B2 := fun hm => (hB2 X hm).1 rfl
 have hBl := hB.lt
 refine calls_fr (N := 130) Tryd.func22 rfl rfl (by simp [px]) rfl ?_
 refine sqr ?_
 refine L1 (bx56 rfl) ?_
 have hkb := (Kp.refl [] w).alloc (.cells #[l1, c1, s1] 56)
 have hD4 : Bk (w.alloc (.cells #[l1, c1, s1] 56)) w.heap.size 3 56 (c56 l1 c1 s1) := Bk.newOf w _ 56 3 _ rfl
 have hlsD4 : (w.alloc (.cells #[l1, c1, s1] 56)).heap.size = w.heap.size + 1 := by simp
 obtain ⟨D4, hD4e⟩ : ∃ z, w.heap.size = z := ⟨_, rfl⟩
 obtain ⟨wa, hwa⟩ : ∃ z, w.alloc (.cells #[l1, c1, s1] 56) = z := ⟨_, rfl⟩
 rw [hwa] at hkb hD4 hlsD4 ⊢
 rw [hD4e] at hD4 hlsD4 ⊢
 have hO0 := hO0.k0 hkb
 have kp := kp.trans hkb
 have hB := hB.kp hkb (by simp)
 have hC1 := hC1.kp hkb (by simp)
 have hC2 := hC2.kp hkb (by simp)
 clear hkb
 refine L1 (bx56 rfl) ?_
 have hkb := (Kp.refl [] wa).alloc (.cells #[l2, c2, .slice sa (syms dist).length sc] 56)
 have hD5 : Bk (wa.alloc (.cells #[l2, c2, .slice sa (syms dist).length sc] 56)) wa.heap.size 3 56 (c56 l2 c2 (.slice sa (syms dist).length sc)) := Bk.newOf wa _ 56 3 _ rfl
 have hlsD5 : (wa.alloc (.cells #[l2, c2, .slice sa (syms dist).length sc] 56)).heap.size = wa.heap.size + 1 := by simp
 obtain ⟨D5, hD5e⟩ : ∃ z, wa.heap.size = z := ⟨_, rfl⟩
 obtain ⟨wb, hwb⟩ : ∃ z, wa.alloc (.cells #[l2, c2, .slice sa (syms dist).length sc] 56) = z := ⟨_, rfl⟩
 rw [hwb] at hkb hD5 hlsD5 ⊢
 rw [hD5e] at hD5 hlsD5 ⊢
 have hO0 := hO0.k0 hkb
 have kp := kp.trans hkb
 have hB := hB.kp hkb (by simp)
 have hC1 := hC1.kp hkb (by simp)
 have hC2 := hC2.kp hkb (by simp)
 have hD4 := hD4.kp hkb (by simp)
 clear hkb
 refine nt ?_
 refine wp_block ?_
 have hoD4 : ∀ k, ov.ownBlock = some k → k < D4 := fun k hk => by have := hS.lt hk; omega
 have hoD5 : ∀ k, ov.ownBlock = some k → k < D5 := fun k hk => by have := hS.lt hk; omega
 have hlD4 : D4 < wb.heap.size := by omega
 have hlD5 : D5 < wb.heap.size := by omega
 have hxD4 : X < D4 := by omega
 have hxD5 : X < D5 := by omega
 have hO := OS.refl (w0 := w0) (X := X) hO0.s hov
 refine loop_fr (fun k f w' => f 0 = .pointer (some ⟨X, 0, none⟩) ∧ f 4 = .pointer (some ⟨D4, 0, none⟩) ∧ f 5 = .pointer (some ⟨D5, 0, none⟩) ∧ ∃ (p1 st : Nat) (v1 : Value) (o1 : List Nat), Bk w' D4 3 56 (c56 l1 c1 s1) ∧ Bk w' D5 3 56 (c56 l2 c2 (.slice sa (syms dist).length sc)) ∧ Bk w' X 6 53 (rx dv p1 v1 base st edge) ∧ Kp [] w0 w' ∧ OS w0 wb w' X ov v1 o1 ∧ p1 ≤ 8 * data.length ∧ o1.length + 130 * (8 * data.length - p1) ≤ 140737488355328 ∧ ((st = 0 ∧ k = 8 * data.length - p1 + 1 ∧ ∀ p' o' st', RH (srcOf data) lit dist p1 o1 p' o' st' → RH (srcOf data) lit dist p out p' o' st') ∨ (st ≠ 0 ∧ k = 0 ∧ RH (srcOf data) lit dist p out p1 o1 st))) (8 * data.length - p + 1) ⟨rfl, rfl, rfl, p, 0, ov, out, hD4, hD5, hB, kp, hO, hp, hol, .inl ⟨rfl, rfl, fun _ _ _ h => h⟩⟩ ?_
 clear hD4 hD5 hB kp hO
 intro k f w1 HJ
 obtain ⟨s0, s4, s5, p1, st, v1, o1, hD4, hD5, hB, kp, hO, hp1, hol1, hcase⟩ := HJ
 refine slots (fc s0 (fc s4 (fc s5 fnil))) ?_
 rcases hcase with ⟨rfl, rfl, hcont⟩ | ⟨hst, rfl, hrh⟩
 ·skip
  refine wp_seq ?_
  refine sqr ?_
  refine Mp rfl ?_
  refine Np rfl ?_
  refine L1 (fa53_4 rfl) ?_
  refine L1 (ld3 rfl (hB.cellv (v := .int _ _) (by decide) rfl)) ?_
  refine L1 (bi rfl rfl (bn_eql (v := true) (decide_eq_true rfl))) ?_
  refine nt ?_
  refine cond_t rfl ?_
  refine skn ?_
  refine wp_block ?_
  refine sqr ?_
  refine Mp rfl ?_
  refine L1 (ld56 rfl hD4 (by decide) rfl rfl rfl) ?_
  refine LC (cl2 has28 rfl rfl rfl) (sym_r2 hE ⟨hB, kp⟩ hp1 (hC1.os hO hB1) hX1 hRl hl1) ?_
  rintro v w2 ⟨z, rfl, kp2, hres⟩
  have hO := hO.kx kp2
  have hD4 := hD4.kp kp2 (by simp; omega)
  have hD5 := hD5.kp kp2 (by simp; omega)
  refine Ai rfl ?_
  refine wpList_nil ?_
  rcases hres with ⟨s, p2, hr, rfl, hsl, hpp, hp2, hB, kp⟩ | ⟨hr, rfl, hB, kp⟩ | ⟨p2, hr, hp2, rfl, hB, kp⟩
  ·skip
   by_cases h256 : s = 256
   ·skip
    subst h256
    refine then_n ?_
    refine wp_seq ?_
    refine wp_block ?_
    refine sqr ?_
    refine Mp rfl ?_
    refine Np rfl ?_
    refine L1 (fa53_4 rfl) ?_
    refine L1 (ld3 rfl (hB.cellv (v := .int _ _) (by decide) rfl)) ?_
    refine L1 (bi rfl rfl (bn_neq (v := false) (decide_eq_true rfl))) ?_
    refine Mb rfl ?_
    refine L1g (t := 25) (b := false) rfl (by decide) rfl (mv (v := .int _ _) rfl) ?_
    refine L1g (t := 25) (b := false) rfl (by decide) rfl (bi rfl rfl (bn_eql (v := true) (decide_eq_true (by omega)))) ?_
    refine L1 (pk_f rfl rfl) ?_
    refine Ab rfl ?_
    refine nt ?_
    refine cond_t rfl ?_
    refine wp_ret ?_
    refine inb_r ?_
    refine then_r ?_
    refine inb_r ?_
    refine then_r ?_
    refine inb_r ?_
    refine ret0 rfl ?_
    exact ⟨_, rfl, _, _, _, _, ⟨hB, kp⟩, hO0.trans hO, hp2, hcont _ _ _ (RH.eob hr), by omega⟩
   ·skip
    by_cases hlit : s < 256
    ·skip
     refine then_n ?_
     refine wp_seq ?_
     refine wp_block ?_
     refine sqr ?_
     refine Mp rfl ?_
     refine Np rfl ?_
     refine L1 (fa53_4 rfl) ?_
     refine L1 (ld3 rfl (hB.cellv (v := .int _ _) (by decide) rfl)) ?_
     refine L1 (bi rfl rfl (bn_neq (v := false) (decide_eq_true rfl))) ?_
     refine Mb rfl ?_
     refine L1g (t := 25) (b := false) rfl (by decide) rfl (mv (v := .int _ _) rfl) ?_
     refine L1g (t := 25) (b := false) rfl (by decide) rfl (bi rfl rfl (bn_eql (v := false) (decide_eq_false (by omega)))) ?_
     refine L1 (pk_f rfl rfl) ?_
     refine Ab rfl ?_
     refine nt ?_
     refine cond_f rfl ?_
     refine sqr ?_
     refine Mi rfl ?_
     refine L1 (bi rfl rfl (bn_lss (v := true) (decide_eq_true (by omega)))) ?_
     refine Ab rfl ?_
     refine nt ?_
     refine cond_t rfl ?_
     refine sqr ?_
     refine Mp rfl ?_
     refine Mp rfl ?_
     refine Np rfl ?_
     refine L1 (fa53_2 rfl) ?_
     refine L1 (ld22 rfl (hB.cellv (v := v1) (by decide) rfl)) ?_
     refine Mi rfl ?_
     refine L1 (cv3_5 rfl (wrap_u8n _ (by omega) (by omega))) ?_
     have hXl := hB.lt
     refine Lap1 (h := s) rfl rfl rfl (by intro t h; cases h; decide) hO.s (by omega) (by decide) ?_
     intro ov2 u2 w3 hS2 kp2 hown2
     have hB := hB.kp kp2 hO.x
     have hD4 := hD4.kp kp2 (hO.ne hoD4 hlD4)
     have hD5 := hD5.kp kp2 (hO.ne hoD5 hlD5)
     have hO2 := hO.ap hXl kp hS2 kp2 hown2
     have kp := kp.transNew kp2 hO.new
     have hO := hO2
     clear hO2
     refine Np rfl ?_
     refine L1 (fa53_2 rfl) ?_
     refine Lst22 (v := ov2) rfl rfl hS2.one hB (by decide) ?_
     intro wx hB kpx
     have hB := hB.congr (fun k _ => rx_2 k)
     have kp := kp.transNew kpx (by simp; omega)
     have hO := hO.kx kpx
     have hD4 := hD4.kp kpx (by simp; omega)
     have hD5 := hD5.kp kpx (by simp; omega)
     clear kpx
     refine nt ?_
     refine wp_exit ?_
     refine inb_other (by decide) ?_
     refine then_e ?_
     refine inb_same ?_
     refine then_n ?_
     exact ⟨8 * data.length - p2 + 1, _, by omega, rfl, rfl, rfl, rfl, p2, 0, ov2, _, hD4, hD5, hB, kp, hO, hp2, by simp only [List.length_append, List.length_singleton]; omega, .inl ⟨rfl, rfl, fun p' o' st' h => hcont _ _ _ (RH.lit hr hlit h)⟩⟩
    ·skip
     by_cases hbig : 285 < s
     ·skip
      refine then_n ?_
      refine wp_seq ?_
      refine wp_block ?_
      refine sqr ?_
      refine Mp rfl ?_
      refine Np rfl ?_
      refine L1 (fa53_4 rfl) ?_
      refine L1 (ld3 rfl (hB.cellv (v := .int _ _) (by decide) rfl)) ?_
      refine L1 (bi rfl rfl (bn_neq (v := false) (decide_eq_true rfl))) ?_
      refine Mb rfl ?_
      refine L1g (t := 25) (b := false) rfl (by decide) rfl (mv (v := .int _ _) rfl) ?_
      refine L1g (t := 25) (b := false) rfl (by decide) rfl (bi rfl rfl (bn_eql (v := false) (decide_eq_false (by omega)))) ?_
      refine L1 (pk_f rfl rfl) ?_
      refine Ab rfl ?_
      refine nt ?_
      refine cond_f rfl ?_
      refine sqr ?_
      refine Mi rfl ?_
      refine L1 (bi rfl rfl (bn_lss (v := false) (decide_eq_false (by omega)))) ?_
      refine Ab rfl ?_
      refine nt ?_
      refine cond_f rfl ?_
      refine sqr ?_
      refine Mi rfl ?_
      refine L1 (bi rfl rfl (bn_gtr (v := true) (decide_eq_true (by omega)))) ?_
      refine Ab rfl ?_
      refine nt ?_
      refine cond_t rfl ?_
      refine sqr ?_
      refine Mp rfl ?_
      refine Np rfl ?_
      refine L1 (fa53_4 rfl) ?_
      refine Lst3 (v := .int .i64 ((1 : Nat) : Int)) rfl rfl rfl hB (by decide) ?_
      intro wx hB kpx
      have hB := hB.congr (fun k _ => rx_4 k)
      have kp := kp.transNew kpx (by simp; omega)
      have hO := hO.kx kpx
      have hD4 := hD4.kp kpx (by simp; omega)
      have hD5 := hD5.kp kpx (by simp; omega)
      clear kpx
      refine nt ?_
      refine wp_ret ?_
      refine inb_r ?_
      refine then_r ?_
      refine inb_r ?_
      refine then_r ?_
      refine inb_r ?_
      refine ret0 rfl ?_
      exact ⟨_, rfl, _, _, _, _, ⟨hB, kp⟩, hO0.trans hO, hp2, hcont _ _ _ (RH.big hr hbig), by omega⟩
     ·skip
      have hs1 : 256 < s := by omega
      have hs2 : s ≤ 285 := by omega
      refine then_n ?_
      refine wp_seq ?_
      refine wp_block ?_
      refine sqr ?_
      refine Mp rfl ?_
      refine Np rfl ?_
      refine L1 (fa53_4 rfl) ?_
      refine L1 (ld3 rfl (hB.cellv (v := .int _ _) (by decide) rfl)) ?_
      refine L1 (bi rfl rfl (bn_neq (v := false) (decide_eq_true rfl))) ?_
      refine Mb rfl ?_
      refine L1g (t := 25) (b := false) rfl (by decide) rfl (mv (v := .int _ _) rfl) ?_
      refine L1g (t := 25) (b := false) rfl (by decide) rfl (bi rfl rfl (bn_eql (v := false) (decide_eq_false (by omega)))) ?_
      refine L1 (pk_f rfl rfl) ?_
      refine Ab rfl ?_
      refine nt ?_
      refine cond_f rfl ?_
      refine sqr ?_
      refine Mi rfl ?_
      refine L1 (bi rfl rfl (bn_lss (v := false) (decide_eq_false (by omega)))) ?_
      refine Ab rfl ?_
      refine nt ?_
      refine cond_f rfl ?_
      refine sqr ?_
      refine Mi rfl ?_
      refine L1 (bi rfl rfl (bn_gtr (v := false) (decide_eq_false (by omega)))) ?_
      refine Ab rfl ?_
      refine nt ?_
      refine cond_f rfl ?_
      refine wp_skip ?_
      refine inb_n ?_
      refine then_n ?_
      refine sqr ?_
      refine Mp rfl ?_
      refine Mi rfl ?_
      refine LC (cl2 has29 rfl rfl rfl) (len_r2 hE ⟨hB, kp⟩ hp2 s hs1 hs2) ?_
      rintro v w4 ⟨lnn, rfl, kp4, hln⟩
      have hO := hO.kx kp4
      have hD4 := hD4.kp kp4 (by simp; omega)
      have hD5 := hD5.kp kp4 (by simp; omega)
      refine Ai rfl ?_
      refine wpList_nil ?_
      rcases hln with ⟨hle, hlne, hB, kp⟩ | ⟨hgt, hB, kp⟩
      ·skip
       have hbl := bv_lt (srcOf data).D p2 (lenOf s).2
       obtain ⟨hn5, hl3, hl259⟩ := lenOf_le (v := s) (by omega) (by omega)
       have hln3 : 3 ≤ lnn ∧ lnn ≤ 258 := by omega
       refine then_n ?_
       refine sqr ?_
       refine Mp rfl ?_
       refine L1 (ld56 rfl hD5 (by decide) rfl rfl rfl) ?_
       refine LC (cl2 has28 rfl rfl rfl) (sym_r2 hE ⟨hB, kp⟩ hle (hC2.os hO hB2) hX2 hRd hl2) ?_
       rintro v w5 ⟨z2, rfl, kp2, hres⟩
       have hO := hO.kx kp2
       have hD4 := hD4.kp kp2 (by simp; omega)
       have hD5 := hD5.kp kp2 (by simp; omega)
       refine Ai rfl ?_
       refine wpList_nil ?_
       rcases hres with ⟨d, p3, hrd, rfl, hdl, hpp3, hp3, hB, kp⟩ | ⟨hrd, rfl, hB, kp⟩ | ⟨p3, hrd, hp3, rfl, hB, kp⟩
       ·skip
        refine then_n ?_
        refine wp_seq ?_
        refine sqr ?_
        refine Mp rfl ?_
        refine Np rfl ?_
        refine L1 (fa53_4 rfl) ?_
        refine L1 (ld3 rfl (hB.cellv (v := .int _ _) (by decide) rfl)) ?_
        refine L1 (bi rfl rfl (bn_eql (v := true) (decide_eq_true rfl))) ?_
        refine Mb rfl ?_
        refine L1g (t := 60) (b := true) rfl (by decide) rfl (mv (v := .int _ _) rfl) ?_
        refine L1g (t := 60) (b := true) rfl (by decide) rfl (bi rfl rfl (bn_gtr (v := decide (29 < d)) (decide_eq_decide.2 (by omega)))) ?_
        refine L1 (pk_t rfl rfl) ?_
        refine nt ?_
        refine cond_d (p := 29 < d) rfl (fun h29 => ?_) (fun h29 => ?_)
        ·skip
         refine reg_lit ?_
         refine Mp rfl ?_
         refine Np rfl ?_
         refine L1 (fa53_4 rfl) ?_
         refine Lst3 (v := .int .i64 ((1 : Nat) : Int)) rfl rfl rfl hB (by decide) ?_
         intro wx hB kpx
         have hB := hB.congr (fun k _ => rx_4 k)
         have kp := kp.transNew kpx (by simp; omega)
         have hO := hO.kx kpx
         have hD4 := hD4.kp kpx (by simp; omega)
         have hD5 := hD5.kp kpx (by simp; omega)
         clear kpx
         refine nt ?_
         refine wp_seq ?_
         refine sqr ?_
         refine Mp rfl ?_
         refine Np rfl ?_
         refine L1 (fa53_4 rfl) ?_
         refine L1 (ld3 rfl (hB.cellv (v := .int _ _) (by decide) rfl)) ?_
         refine L1 (bi rfl rfl (bn_neq (v := true) (decide_eq_false (by decide)))) ?_
         refine nt ?_
         refine cond_t rfl ?_
         refine wp_ret ?_
         refine then_r ?_
         refine inb_r ?_
         refine then_r ?_
         refine inb_r ?_
         refine ret0 rfl ?_
         exact ⟨_, rfl, _, _, _, _, ⟨hB, kp⟩, hO0.trans hO, hp3, hcont _ _ _ (RH.dbig hr hs1 hs2 hle hrd h29), by omega⟩
        ·skip
         refine skn ?_
         refine wp_seq ?_
         refine sqr ?_
         refine Mp rfl ?_
         refine Np rfl ?_
         refine L1 (fa53_4 rfl) ?_
         refine L1 (ld3 rfl (hB.cellv (v := .int _ _) (by decide) rfl)) ?_
         refine L1 (bi rfl rfl (bn_neq (v := false) (decide_eq_true rfl))) ?_
         refine nt ?_
         refine cond_f rfl ?_
         refine skn ?_
         refine sqr ?_
         refine Mp rfl ?_
         refine Mi rfl ?_
         refine LC (cl2 has30 rfl rfl rfl) (dist_r2 hE ⟨hB, kp⟩ hp3 d (by omega)) ?_
         rintro v w6 ⟨dd, rfl, kp6, hdd⟩
         have hO := hO.kx kp6
         have hD4 := hD4.kp kp6 (by simp; omega)
         have hD5 := hD5.kp kp6 (by simp; omega)
         refine Ai rfl ?_
         refine wpList_nil ?_
         obtain ⟨oa, oc, hve⟩ := hO.s.val
         subst hve
         rcases hdd with ⟨hxle, hdde, hB, kp⟩ | ⟨hxgt, hB, kp⟩
         ·skip
          have hdb := dist_bound d (by omega) (srcOf data).D p3
          have hdp : 1 ≤ dd := by have := dBase_pos d; omega
          by_cases hf1 : o1.length < dd
          ·skip
           refine then_n ?_
           refine wp_seq ?_
           refine sqr ?_
           refine Mp rfl ?_
           refine Np rfl ?_
           refine L1 (fa53_4 rfl) ?_
           refine L1 (ld3 rfl (hB.cellv (v := .int _ _) (by decide) rfl)) ?_
           refine L1 (bi rfl rfl (bn_eql (v := true) (decide_eq_true rfl))) ?_
           refine Mb rfl ?_
           refine L1g (t := 80) (b := true) rfl (by decide) rfl (mv (v := .int _ _) rfl) ?_
           refine L1g (t := 80) (b := true) rfl (by decide) rfl (mv (v := .pointer _) rfl) ?_
           refine L1g (t := 80) (b := true) rfl (by decide) rfl (nilP rfl) ?_
           refine L1g (t := 80) (b := true) rfl (by decide) rfl (fa53_2 rfl) ?_
           refine L1g (t := 80) (b := true) rfl (by decide) rfl (ld22 rfl (hB.cellv (v := (.slice oa o1.length oc)) (by decide) rfl)) ?_
           refine L1g (t := 80) (b := true) rfl (by decide) rfl (ln und22 rfl) ?_
           refine L1g (t := 80) (b := true) rfl (by decide) rfl (bi rfl rfl (bn_gtr (v := true) (decide_eq_true (by omega)))) ?_
           refine L1g (t := 80) (b := true) rfl (by decide) rfl (mv (v := .bool _) rfl) ?_
           refine Lskip (t := 88) (b := false) rfl (by decide) rfl ?_
           refine Lskip (t := 88) (b := false) rfl (by decide) rfl ?_
           refine L1g (t := 80) (b := true) rfl (by decide) rfl (pk_t rfl rfl) ?_
           refine L1 (pk_t rfl rfl) ?_
           refine nt ?_
           refine cond_t rfl ?_
           refine reg_lit ?_
           refine Mp rfl ?_
           refine Np rfl ?_
           refine L1 (fa53_4 rfl) ?_
           refine Lst3 (v := .int .i64 ((1 : Nat) : Int)) rfl rfl rfl hB (by decide) ?_
           intro wx hB kpx
           have hB := hB.congr (fun k _ => rx_4 k)
           have kp := kp.transNew kpx (by simp; omega)
           have hO := hO.kx kpx
           have hD4 := hD4.kp kpx (by simp; omega)
           have hD5 := hD5.kp kpx (by simp; omega)
           clear kpx
           refine nt ?_
           refine sqr ?_
           refine Ai rfl ?_
           refine nt ?_
           refine wp_block ?_
           refine loop_fr (fun k f w' => f 0 = .pointer (some ⟨X, 0, none⟩) ∧ f 4 = .pointer (some ⟨D4, 0, none⟩) ∧ f 5 = .pointer (some ⟨D5, 0, none⟩) ∧ f 7 = .int .i64 ((lnn : Nat) : Int) ∧ f 10 = .int .i64 ((0 : Nat) : Int) ∧ Bk w' D4 3 56 (c56 l1 c1 s1) ∧ Bk w' D5 3 56 (c56 l2 c2 (.slice sa (syms dist).length sc)) ∧ Bk w' X 6 53 (rx dv (p3 + dBits d) (.slice oa o1.length oc) base 1 edge) ∧ Kp [] w0 w' ∧ OS w0 wb w' X ov (.slice oa o1.length oc) o1) 0 ⟨rfl, rfl, rfl, rfl, rfl, hD4, hD5, hB, kp, hO⟩ ?_
           clear hD4 hD5 hB kp hO
           intro k2 f w7 HJ
           obtain ⟨s0, s4, s5, s7, s10, hD4, hD5, hB, kp, hO⟩ := HJ
           refine slots (fc s0 (fc s4 (fc s5 (fc s7 (fc s10 fnil))))) ?_
           refine wp_seq ?_
           refine sqr ?_
           refine Mi rfl ?_
           refine Mi rfl ?_
           refine L1 (bi rfl rfl (bn_lss (v := true) (decide_eq_true (by omega)))) ?_
           refine Mb rfl ?_
           refine L1g (t := 99) (b := true) rfl (by decide) rfl (mv (v := .pointer _) rfl) ?_
           refine L1g (t := 99) (b := true) rfl (by decide) rfl (nilP rfl) ?_
           refine L1g (t := 99) (b := true) rfl (by decide) rfl (fa53_4 rfl) ?_
           refine L1g (t := 99) (b := true) rfl (by decide) rfl (ld3 rfl (hB.cellv (v := .int _ _) (by decide) rfl)) ?_
           refine L1g (t := 99) (b := true) rfl (by decide) rfl (bi rfl rfl (bn_eql (v := false) (decide_eq_false (by decide)))) ?_
           refine L1 (pk_t rfl rfl) ?_
           refine nt ?_
           refine cond_f rfl ?_
           refine wp_exit ?_
           refine then_e ?_
           refine then_e ?_
           refine inb_same ?_
           refine inb_n ?_
           refine then_n ?_
           exact ⟨0, _, by omega, rfl, rfl, rfl, rfl, (p3 + dBits d), 1, _, o1, hD4, hD5, hB, kp, hO, by omega, by omega, .inr ⟨by decide, rfl, hcont _ _ _ (RH.far hr hs1 hs2 hle hrd (by omega) hxle (.inl (by omega)))⟩⟩
          ·skip
           by_cases hf2 : 32768 < dd
           ·skip
            refine then_n ?_
            refine wp_seq ?_
            refine sqr ?_
            refine Mp rfl ?_
            refine Np rfl ?_
            refine L1 (fa53_4 rfl) ?_
            refine L1 (ld3 rfl (hB.cellv (v := .int _ _) (by decide) rfl)) ?_
            refine L1 (bi rfl rfl (bn_eql (v := true) (decide_eq_true rfl))) ?_
            refine Mb rfl ?_
            refine L1g (t := 80) (b := true) rfl (by decide) rfl (mv (v := .int _ _) rfl) ?_
            refine L1g (t := 80) (b := true) rfl (by decide) rfl (mv (v := .pointer _) rfl) ?_
            refine L1g (t := 80) (b := true) rfl (by decide) rfl (nilP rfl) ?_
            refine L1g (t := 80) (b := true) rfl (by decide) rfl (fa53_2 rfl) ?_
            refine L1g (t := 80) (b := true) rfl (by decide) rfl (ld22 rfl (hB.cellv (v := (.slice oa o1.length oc)) (by decide) rfl)) ?_
            refine L1g (t := 80) (b := true) rfl (by decide) rfl (ln und22 rfl) ?_
            refine L1g (t := 80) (b := true) rfl (by decide) rfl (bi rfl rfl (bn_gtr (v := false) (decide_eq_false (by omega)))) ?_
            refine L1g (t := 80) (b := true) rfl (by decide) rfl (mv (v := .bool _) rfl) ?_
            refine L1g (t := 88) (b := false) rfl (by decide) rfl (mv (v := .int _ _) rfl) ?_
            refine L1g (t := 88) (b := false) rfl (by decide) rfl (bi rfl rfl (bn_gtr (v := true) (decide_eq_true (by omega)))) ?_
            refine L1g (t := 80) (b := true) rfl (by decide) rfl (pk_f rfl rfl) ?_
            refine L1 (pk_t rfl rfl) ?_
            refine nt ?_
            refine cond_t rfl ?_
            refine reg_lit ?_
            refine Mp rfl ?_
            refine Np rfl ?_
            refine L1 (fa53_4 rfl) ?_
            refine Lst3 (v := .int .i64 ((1 : Nat) : Int)) rfl rfl rfl hB (by decide) ?_
            intro wx hB kpx
            have hB := hB.congr (fun k _ => rx_4 k)
            have kp := kp.transNew kpx (by simp; omega)
            have hO := hO.kx kpx
            have hD4 := hD4.kp kpx (by simp; omega)
            have hD5 := hD5.kp kpx (by simp; omega)
            clear kpx
            refine nt ?_
            refine sqr ?_
            refine Ai rfl ?_
            refine nt ?_
            refine wp_block ?_
            refine loop_fr (fun k f w' => f 0 = .pointer (some ⟨X, 0, none⟩) ∧ f 4 = .pointer (some ⟨D4, 0, none⟩) ∧ f 5 = .pointer (some ⟨D5, 0, none⟩) ∧ f 7 = .int .i64 ((lnn : Nat) : Int) ∧ f 10 = .int .i64 ((0 : Nat) : Int) ∧ Bk w' D4 3 56 (c56 l1 c1 s1) ∧ Bk w' D5 3 56 (c56 l2 c2 (.slice sa (syms dist).length sc)) ∧ Bk w' X 6 53 (rx dv (p3 + dBits d) (.slice oa o1.length oc) base 1 edge) ∧ Kp [] w0 w' ∧ OS w0 wb w' X ov (.slice oa o1.length oc) o1) 0 ⟨rfl, rfl, rfl, rfl, rfl, hD4, hD5, hB, kp, hO⟩ ?_
            clear hD4 hD5 hB kp hO
            intro k2 f w7 HJ
            obtain ⟨s0, s4, s5, s7, s10, hD4, hD5, hB, kp, hO⟩ := HJ
            refine slots (fc s0 (fc s4 (fc s5 (fc s7 (fc s10 fnil))))) ?_
            refine wp_seq ?_
            refine sqr ?_
            refine Mi rfl ?_
            refine Mi rfl ?_
            refine L1 (bi rfl rfl (bn_lss (v := true) (decide_eq_true (by omega)))) ?_
            refine Mb rfl ?_
            refine L1g (t := 99) (b := true) rfl (by decide) rfl (mv (v := .pointer _) rfl) ?_
            refine L1g (t := 99) (b := true) rfl (by decide) rfl (nilP rfl) ?_
            refine L1g (t := 99) (b := true) rfl (by decide) rfl (fa53_4 rfl) ?_
            refine L1g (t := 99) (b := true) rfl (by decide) rfl (ld3 rfl (hB.cellv (v := .int _ _) (by decide) rfl)) ?_
            refine L1g (t := 99) (b := true) rfl (by decide) rfl (bi rfl rfl (bn_eql (v := false) (decide_eq_false (by decide)))) ?_
            refine L1 (pk_t rfl rfl) ?_
            refine nt ?_
            refine cond_f rfl ?_
            refine wp_exit ?_
            refine then_e ?_
            refine then_e ?_
            refine inb_same ?_
            refine inb_n ?_
            refine then_n ?_
            exact ⟨0, _, by omega, rfl, rfl, rfl, rfl, (p3 + dBits d), 1, _, o1, hD4, hD5, hB, kp, hO, by omega, by omega, .inr ⟨by decide, rfl, hcont _ _ _ (RH.far hr hs1 hs2 hle hrd (by omega) hxle (.inr (by omega)))⟩⟩
           ·skip
            refine then_n ?_
            refine wp_seq ?_
            refine sqr ?_
            refine Mp rfl ?_
            refine Np rfl ?_
            refine L1 (fa53_4 rfl) ?_
            refine L1 (ld3 rfl (hB.cellv (v := .int _ _) (by decide) rfl)) ?_
            refine L1 (bi rfl rfl (bn_eql (v := true) (decide_eq_true rfl))) ?_
            refine Mb rfl ?_
            refine L1g (t := 80) (b := true) rfl (by decide) rfl (mv (v := .int _ _) rfl) ?_
            refine L1g (t := 80) (b := true) rfl (by decide) rfl (mv (v := .pointer _) rfl) ?_
            refine L1g (t := 80) (b := true) rfl (by decide) rfl (nilP rfl) ?_
            refine L1g (t := 80) (b := true) rfl (by decide) rfl (fa53_2 rfl) ?_
            refine L1g (t := 80) (b := true) rfl (by decide) rfl (ld22 rfl (hB.cellv (v := (.slice oa o1.length oc)) (by decide) rfl)) ?_
            refine L1g (t := 80) (b := true) rfl (by decide) rfl (ln und22 rfl) ?_
            refine L1g (t := 80) (b := true) rfl (by decide) rfl (bi rfl rfl (bn_gtr (v := false) (decide_eq_false (by omega)))) ?_
            refine L1g (t := 80) (b := true) rfl (by decide) rfl (mv (v := .bool _) rfl) ?_
            refine L1g (t := 88) (b := false) rfl (by decide) rfl (mv (v := .int _ _) rfl) ?_
            refine L1g (t := 88) (b := false) rfl (by decide) rfl (bi rfl rfl (bn_gtr (v := false) (decide_eq_false (by omega)))) ?_
            refine L1g (t := 80) (b := true) rfl (by decide) rfl (pk_f rfl rfl) ?_
            refine L1 (pk_t rfl rfl) ?_
            refine nt ?_
            refine cond_f rfl ?_
            refine skn ?_
            refine sqr ?_
            refine Ai rfl ?_
            refine nt ?_
            refine wp_block ?_
            refine loop_fr (fun k f w' => f 0 = .pointer (some ⟨X, 0, none⟩) ∧ f 4 = .pointer (some ⟨D4, 0, none⟩) ∧ f 5 = .pointer (some ⟨D5, 0, none⟩) ∧ f 7 = .int .i64 ((lnn : Nat) : Int) ∧ f 9 = .int .i64 ((dd : Nat) : Int) ∧ ∃ (i : Nat) (vi : Value), f 10 = .int .i64 ((i : Nat) : Int) ∧ i ≤ lnn ∧ k = lnn - i ∧ Bk w' D4 3 56 (c56 l1 c1 s1) ∧ Bk w' D5 3 56 (c56 l2 c2 (.slice sa (syms dist).length sc)) ∧ Bk w' X 6 53 (rx dv (p3 + dBits d) vi base 0 edge) ∧ Kp [] w0 w' ∧ OS w0 wb w' X ov vi (lz o1 dd i)) lnn ⟨rfl, rfl, rfl, rfl, rfl, 0, .slice oa o1.length oc, rfl, Nat.zero_le _, rfl, hD4, hD5, hB, kp, hO⟩ ?_
            clear hD4 hD5 hB kp hO
            intro k2 f w7 HJ
            obtain ⟨s0, s4, s5, s7, s9, i, vi, s10, hi, rfl, hD4, hD5, hB, kp, hO⟩ := HJ
            refine slots (fc s0 (fc s4 (fc s5 (fc s7 (fc s9 (fc s10 fnil)))))) ?_
            have hll := lz_length o1 dd i
            by_cases hlt : i < lnn
            ·skip
             obtain ⟨ob, oc2, rfl, hcell⟩ := hO.s.nn (by omega)
             have hcl := hcell ((lz o1 dd i).length - dd) (by omega)
             refine wp_seq ?_
             refine sqr ?_
             refine Mi rfl ?_
             refine Mi rfl ?_
             refine L1 (bi rfl rfl (bn_lss (v := true) (decide_eq_true (by omega)))) ?_
             refine Mb rfl ?_
             refine L1g (t := 99) (b := true) rfl (by decide) rfl (mv (v := .pointer _) rfl) ?_
             refine L1g (t := 99) (b := true) rfl (by decide) rfl (nilP rfl) ?_
             refine L1g (t := 99) (b := true) rfl (by decide) rfl (fa53_4 rfl) ?_
             refine L1g (t := 99) (b := true) rfl (by decide) rfl (ld3 rfl (hB.cellv (v := .int _ _) (by decide) rfl)) ?_
             refine L1g (t := 99) (b := true) rfl (by decide) rfl (bi rfl rfl (bn_eql (v := true) (decide_eq_true rfl))) ?_
             refine L1 (pk_t rfl rfl) ?_
             refine nt ?_
             refine cond_t rfl ?_
             refine skn ?_
             refine wp_seq ?_
             refine wp_block ?_
             refine reg_br 23 (fun f w' => f 0 = .pointer (some ⟨X, 0, none⟩) ∧ f 4 = .pointer (some ⟨D4, 0, none⟩) ∧ f 5 = .pointer (some ⟨D5, 0, none⟩) ∧ f 7 = .int .i64 ((lnn : Nat) : Int) ∧ f 9 = .int .i64 ((dd : Nat) : Int) ∧ f 10 = .int .i64 ((i : Nat) : Int) ∧ ∃ ov2 : Value, Bk w' D4 3 56 (c56 l1 c1 s1) ∧ Bk w' D5 3 56 (c56 l2 c2 (.slice sa (syms dist).length sc)) ∧ Bk w' X 6 53 (rx dv (p3 + dBits d) ov2 base 0 edge) ∧ Kp [] w0 w' ∧ OS w0 wb w' X ov ov2 (lz o1 dd (i + 1))) mixed (by kernel_rfl) ?_ ?_
             ·skip
              have hcl : w7.drew.cell? ⟨ob, (lz o1 dd i).length - dd, none⟩ = _ := hcl
              have hB := hB.drew
              have kp := kp.drew
              have hO := hO.drew
              have hD4 := hD4.drew
              have hD5 := hD5.drew
              refine br_p 0 rfl (by kernel_rfl) (fun w => mv (v := .pointer _) rfl) ?_
              refine br_p 1 rfl (by kernel_rfl) (fun w => mv (v := .pointer _) rfl) ?_
              refine br_p 2 rfl (by kernel_rfl) (fun w => nilP rfl) ?_
              refine br_p 3 rfl (by kernel_rfl) (fun w => fa53_2 rfl) ?_
              refine br_p 5 rfl (by kernel_rfl) (fun w => mv (v := .pointer _) rfl) ?_
              refine br_p 6 rfl (by kernel_rfl) (fun w => nilP rfl) ?_
              refine br_p 7 rfl (by kernel_rfl) (fun w => fa53_2 rfl) ?_
              refine br_p 9 rfl (by kernel_rfl) (fun w => mv (v := .pointer _) rfl) ?_
              refine br_p 10 rfl (by kernel_rfl) (fun w => nilP rfl) ?_
              refine br_p 11 rfl (by kernel_rfl) (fun w => fa53_2 rfl) ?_
              refine br_p 14 rfl (by kernel_rfl) (fun w => mv (v := .int _ _) rfl) ?_
              refine br_3 4 8 12 (by kernel_rfl) ?_ ?_ ?_
              ·skip
               refine e_v rfl (ld22 rfl (hB.cellv (v := (.slice (some ⟨ob, 0, none⟩) (lz o1 dd i).length oc2)) (by decide) rfl)) ?_
               refine br_2 8 12 (by kernel_rfl) ?_ ?_
               ·skip
                refine e_v rfl (ld22 rfl (hB.cellv (v := (.slice (some ⟨ob, 0, none⟩) (lz o1 dd i).length oc2)) (by decide) rfl)) ?_
                refine br_1 12 (by kernel_rfl) ?_
                refine e_v rfl (ld22 rfl (hB.cellv (v := (.slice (some ⟨ob, 0, none⟩) (lz o1 dd i).length oc2)) (by decide) rfl)) ?_
                refine br_p 13 rfl (by kernel_rfl) (fun w => ln und22 rfl) ?_
                refine br_p 15 rfl (by kernel_rfl) (fun w => bi rfl rfl (bn_sub (c := (((lz o1 dd i).length - dd : Nat) : Int)) (by omega) (by omega) (by omega))) ?_
                refine br_p 16 rfl (by kernel_rfl) (fun w => ixgb und22 sz5 rfl rfl rfl (by omega)) ?_
                refine br_1 17 (by kernel_rfl) ?_
                refine e_v rfl (ld5 (v := .int .u8 ((((lz o1 dd i).getD ((lz o1 dd i).length - dd) 0) : Nat) : Int)) rfl (by rw [Nat.zero_add]; exact hcl)) ?_
                refine br_1 18 (by kernel_rfl) ?_
                refine e_v rfl (bs1 rfl) ?_
                have hkb := (Kp.refl [] w7.drew).alloc (.cells #[.int .u8 ((((lz o1 dd i).getD ((lz o1 dd i).length - dd) 0) : Nat) : Int)] 5)
                have hbb : Bk (w7.drew.alloc (.cells #[.int .u8 ((((lz o1 dd i).getD ((lz o1 dd i).length - dd) 0) : Nat) : Int)] 5)) w7.drew.heap.size 1 5 (fun _ => .int .u8 ((((lz o1 dd i).getD ((lz o1 dd i).length - dd) 0) : Nat) : Int)) := Bk.newOf w7.drew _ 5 1 _ rfl
                have hO := hO.k0 hkb
                have kp := kp.trans hkb
                have hB := hB.kp hkb (by simp)
                have hD4 := hD4.kp hkb (by simp)
                have hD5 := hD5.kp hkb (by simp)
                refine br_1 19 (by kernel_rfl) ?_
                have hXl := hB.lt
                refine e_ap (h := ((lz o1 dd i).getD ((lz o1 dd i).length - dd) 0)) rfl rfl rfl hO.s hbb (by omega) ?_
                intro ov2 w8 hS2 kp2 hown2
                have hB := hB.kp kp2 hO.x
                have hD4 := hD4.kp kp2 (hO.ne hoD4 hlD4)
                have hD5 := hD5.kp kp2 (hO.ne hoD5 hlD5)
                have hO2 := hO.ap hXl kp hS2 kp2 hown2
                have kp := kp.transNew kp2 hO.new
                have hO := hO2
                clear hO2
                refine br_p 20 rfl (by kernel_rfl) (fun w => nilP rfl) ?_
                refine br_p 21 rfl (by kernel_rfl) (fun w => fa53_2 rfl) ?_
                refine br_1 22 (by kernel_rfl) ?_
                refine e_st 22 (k := 2) (v := ov2) sz22 rfl rfl rfl hS2.one hB (by decide) ?_
                intro w9 hB kpx
                have hB := hB.congr (fun k _ => rx_2 k)
                have kp := kp.transNew kpx (by simp; omega)
                have hO := hO.kx kpx
                have hD4 := hD4.kp kpx (by simp; omega)
                have hD5 := hD5.kp kpx (by simp; omega)
                refine br_nil (by kernel_rfl) ?_
                exact ⟨_, rfl, rfl, rfl, rfl, rfl, rfl, rfl, ov2, hD4, hD5, hB, kp, hO⟩
               ·skip
                refine e_v rfl (ld22 rfl (hB.cellv (v := (.slice (some ⟨ob, 0, none⟩) (lz o1 dd i).length oc2)) (by decide) rfl)) ?_
                refine br_p 13 rfl (by kernel_rfl) (fun w => ln und22 rfl) ?_
                refine br_p 15 rfl (by kernel_rfl) (fun w => bi rfl rfl (bn_sub (c := (((lz o1 dd i).length - dd : Nat) : Int)) (by omega) (by omega) (by omega))) ?_
                refine br_1 8 (by kernel_rfl) ?_
                refine e_v rfl (ld22 rfl (hB.cellv (v := (.slice (some ⟨ob, 0, none⟩) (lz o1 dd i).length oc2)) (by decide) rfl)) ?_
                refine br_p 16 rfl (by kernel_rfl) (fun w => ixgb und22 sz5 rfl rfl rfl (by omega)) ?_
                refine br_1 17 (by kernel_rfl) ?_
                refine e_v rfl (ld5 (v := .int .u8 ((((lz o1 dd i).getD ((lz o1 dd i).length - dd) 0) : Nat) : Int)) rfl (by rw [Nat.zero_add]; exact hcl)) ?_
                refine br_1 18 (by kernel_rfl) ?_
                refine e_v rfl (bs1 rfl) ?_
                have hkb := (Kp.refl [] w7.drew).alloc (.cells #[.int .u8 ((((lz o1 dd i).getD ((lz o1 dd i).length - dd) 0) : Nat) : Int)] 5)
                have hbb : Bk (w7.drew.alloc (.cells #[.int .u8 ((((lz o1 dd i).getD ((lz o1 dd i).length - dd) 0) : Nat) : Int)] 5)) w7.drew.heap.size 1 5 (fun _ => .int .u8 ((((lz o1 dd i).getD ((lz o1 dd i).length - dd) 0) : Nat) : Int)) := Bk.newOf w7.drew _ 5 1 _ rfl
                have hO := hO.k0 hkb
                have kp := kp.trans hkb
                have hB := hB.kp hkb (by simp)
                have hD4 := hD4.kp hkb (by simp)
                have hD5 := hD5.kp hkb (by simp)
                refine br_1 19 (by kernel_rfl) ?_
                have hXl := hB.lt
                refine e_ap (h := ((lz o1 dd i).getD ((lz o1 dd i).length - dd) 0)) rfl rfl rfl hO.s hbb (by omega) ?_
                intro ov2 w8 hS2 kp2 hown2
                have hB := hB.kp kp2 hO.x
                have hD4 := hD4.kp kp2 (hO.ne hoD4 hlD4)
                have hD5 := hD5.kp kp2 (hO.ne hoD5 hlD5)
                have hO2 := hO.ap hXl kp hS2 kp2 hown2
                have kp := kp.transNew kp2 hO.new
                have hO := hO2
                clear hO2
                refine br_p 20 rfl (by kernel_rfl) (fun w => nilP rfl) ?_
                refine br_p 21 rfl (by kernel_rfl) (fun w => fa53_2 rfl) ?_
                refine br_1 22 (by kernel_rfl) ?_
                refine e_st 22 (k := 2) (v := ov2) sz22 rfl rfl rfl hS2.one hB (by decide) ?_
                intro w9 hB kpx
                have hB := hB.congr (fun k _ => rx_2 k)
                have kp := kp.transNew kpx (by simp; omega)
                have hO := hO.kx kpx
                have hD4 := hD4.kp kpx (by simp; omega)
                have hD5 := hD5.kp kpx (by simp; omega)
                refine br_nil (by kernel_rfl) ?_
                exact ⟨_, rfl, rfl, rfl, rfl, rfl, rfl, rfl, ov2, hD4, hD5, hB, kp, hO⟩
              ·skip
               refine e_v rfl (ld22 rfl (hB.cellv (v := (.slice (some ⟨ob, 0, none⟩) (lz o1 dd i).length oc2)) (by decide) rfl)) ?_
               refine br_2 4 12 (by kernel_rfl) ?_ ?_
               ·skip
                refine e_v rfl (ld22 rfl (hB.cellv (v := (.slice (some ⟨ob, 0, none⟩) (lz o1 dd i).length oc2)) (by decide) rfl)) ?_
                refine br_1 12 (by kernel_rfl) ?_
                refine e_v rfl (ld22 rfl (hB.cellv (v := (.slice (some ⟨ob, 0, none⟩) (lz o1 dd i).length oc2)) (by decide) rfl)) ?_
                refine br_p 13 rfl (by kernel_rfl) (fun w => ln und22 rfl) ?_
                refine br_p 15 rfl (by kernel_rfl) (fun w => bi rfl rfl (bn_sub (c := (((lz o1 dd i).length - dd : Nat) : Int)) (by omega) (by omega) (by omega))) ?_
                refine br_p 16 rfl (by kernel_rfl) (fun w => ixgb und22 sz5 rfl rfl rfl (by omega)) ?_
                refine br_1 17 (by kernel_rfl) ?_
                refine e_v rfl (ld5 (v := .int .u8 ((((lz o1 dd i).getD ((lz o1 dd i).length - dd) 0) : Nat) : Int)) rfl (by rw [Nat.zero_add]; exact hcl)) ?_
                refine br_1 18 (by kernel_rfl) ?_
                refine e_v rfl (bs1 rfl) ?_
                have hkb := (Kp.refl [] w7.drew).alloc (.cells #[.int .u8 ((((lz o1 dd i).getD ((lz o1 dd i).length - dd) 0) : Nat) : Int)] 5)
                have hbb : Bk (w7.drew.alloc (.cells #[.int .u8 ((((lz o1 dd i).getD ((lz o1 dd i).length - dd) 0) : Nat) : Int)] 5)) w7.drew.heap.size 1 5 (fun _ => .int .u8 ((((lz o1 dd i).getD ((lz o1 dd i).length - dd) 0) : Nat) : Int)) := Bk.newOf w7.drew _ 5 1 _ rfl
                have hO := hO.k0 hkb
                have kp := kp.trans hkb
                have hB := hB.kp hkb (by simp)
                have hD4 := hD4.kp hkb (by simp)
                have hD5 := hD5.kp hkb (by simp)
                refine br_1 19 (by kernel_rfl) ?_
                have hXl := hB.lt
                refine e_ap (h := ((lz o1 dd i).getD ((lz o1 dd i).length - dd) 0)) rfl rfl rfl hO.s hbb (by omega) ?_
                intro ov2 w8 hS2 kp2 hown2
                have hB := hB.kp kp2 hO.x
                have hD4 := hD4.kp kp2 (hO.ne hoD4 hlD4)
                have hD5 := hD5.kp kp2 (hO.ne hoD5 hlD5)
                have hO2 := hO.ap hXl kp hS2 kp2 hown2
                have kp := kp.transNew kp2 hO.new
                have hO := hO2
                clear hO2
                refine br_p 20 rfl (by kernel_rfl) (fun w => nilP rfl) ?_
                refine br_p 21 rfl (by kernel_rfl) (fun w => fa53_2 rfl) ?_
                refine br_1 22 (by kernel_rfl) ?_
                refine e_st 22 (k := 2) (v := ov2) sz22 rfl rfl rfl hS2.one hB (by decide) ?_
                intro w9 hB kpx
                have hB := hB.congr (fun k _ => rx_2 k)
                have kp := kp.transNew kpx (by simp; omega)
                have hO := hO.kx kpx
                have hD4 := hD4.kp kpx (by simp; omega)
                have hD5 := hD5.kp kpx (by simp; omega)
                refine br_nil (by kernel_rfl) ?_
                exact ⟨_, rfl, rfl, rfl, rfl, rfl, rfl, rfl, ov2, hD4, hD5, hB, kp, hO⟩
               ·skip
                refine e_v rfl (ld22 rfl (hB.cellv (v := (.slice (some ⟨ob, 0, none⟩) (lz o1 dd i).length oc2)) (by decide) rfl)) ?_
                refine br_p 13 rfl (by kernel_rfl) (fun w => ln und22 rfl) ?_
                refine br_p 15 rfl (by kernel_rfl) (fun w => bi rfl rfl (bn_sub (c := (((lz o1 dd i).length - dd : Nat) : Int)) (by omega) (by omega) (by omega))) ?_
                refine br_p 16 rfl (by kernel_rfl) (fun w => ixgb und22 sz5 rfl rfl rfl (by omega)) ?_
                refine br_2 4 17 (by kernel_rfl) ?_ ?_
                ·skip
                 refine e_v rfl (ld22 rfl (hB.cellv (v := (.slice (some ⟨ob, 0, none⟩) (lz o1 dd i).length oc2)) (by decide) rfl)) ?_
                 refine br_1 17 (by kernel_rfl) ?_
                 refine e_v rfl (ld5 (v := .int .u8 ((((lz o1 dd i).getD ((lz o1 dd i).length - dd) 0) : Nat) : Int)) rfl (by rw [Nat.zero_add]; exact hcl)) ?_
                 refine br_1 18 (by kernel_rfl) ?_
                 refine e_v rfl (bs1 rfl) ?_
                 have hkb := (Kp.refl [] w7.drew).alloc (.cells #[.int .u8 ((((lz o1 dd i).getD ((lz o1 dd i).length - dd) 0) : Nat) : Int)] 5)
                 have hbb : Bk (w7.drew.alloc (.cells #[.int .u8 ((((lz o1 dd i).getD ((lz o1 dd i).length - dd) 0) : Nat) : Int)] 5)) w7.drew.heap.size 1 5 (fun _ => .int .u8 ((((lz o1 dd i).getD ((lz o1 dd i).length - dd) 0) : Nat) : Int)) := Bk.newOf w7.drew _ 5 1 _ rfl
                 have hO := hO.k0 hkb
                 have kp := kp.trans hkb
                 have hB := hB.kp hkb (by simp)
                 have hD4 := hD4.kp hkb (by simp)
                 have hD5 := hD5.kp hkb (by simp)
                 refine br_1 19 (by kernel_rfl) ?_
                 have hXl := hB.lt
                 refine e_ap (h := ((lz o1 dd i).getD ((lz o1 dd i).length - dd) 0)) rfl rfl rfl hO.s hbb (by omega) ?_
                 intro ov2 w8 hS2 kp2 hown2
                 have hB := hB.kp kp2 hO.x
                 have hD4 := hD4.kp kp2 (hO.ne hoD4 hlD4)
                 have hD5 := hD5.kp kp2 (hO.ne hoD5 hlD5)
                 have hO2 := hO.ap hXl kp hS2 kp2 hown2
                 have kp := kp.transNew kp2 hO.new
                 have hO := hO2
                 clear hO2
                 refine br_p 20 rfl (by kernel_rfl) (fun w => nilP rfl) ?_
                 refine br_p 21 rfl (by kernel_rfl) (fun w => fa53_2 rfl) ?_
                 refine br_1 22 (by kernel_rfl) ?_
                 refine e_st 22 (k := 2) (v := ov2) sz22 rfl rfl rfl hS2.one hB (by decide) ?_
                 intro w9 hB kpx
                 have hB := hB.congr (fun k _ => rx_2 k)
                 have kp := kp.transNew kpx (by simp; omega)
                 have hO := hO.kx kpx
                 have hD4 := hD4.kp kpx (by simp; omega)
                 have hD5 := hD5.kp kpx (by simp; omega)
                 refine br_nil (by kernel_rfl) ?_
                 exact ⟨_, rfl, rfl, rfl, rfl, rfl, rfl, rfl, ov2, hD4, hD5, hB, kp, hO⟩
                ·skip
                 refine e_v rfl (ld5 (v := .int .u8 ((((lz o1 dd i).getD ((lz o1 dd i).length - dd) 0) : Nat) : Int)) rfl (by rw [Nat.zero_add]; exact hcl)) ?_
                 refine br_2 4 18 (by kernel_rfl) ?_ ?_
                 ·skip
                  refine e_v rfl (ld22 rfl (hB.cellv (v := (.slice (some ⟨ob, 0, none⟩) (lz o1 dd i).length oc2)) (by decide) rfl)) ?_
                  refine br_1 18 (by kernel_rfl) ?_
                  refine e_v rfl (bs1 rfl) ?_
                  have hkb := (Kp.refl [] w7.drew).alloc (.cells #[.int .u8 ((((lz o1 dd i).getD ((lz o1 dd i).length - dd) 0) : Nat) : Int)] 5)
                  have hbb : Bk (w7.drew.alloc (.cells #[.int .u8 ((((lz o1 dd i).getD ((lz o1 dd i).length - dd) 0) : Nat) : Int)] 5)) w7.drew.heap.size 1 5 (fun _ => .int .u8 ((((lz o1 dd i).getD ((lz o1 dd i).length - dd) 0) : Nat) : Int)) := Bk.newOf w7.drew _ 5 1 _ rfl
                  have hO := hO.k0 hkb
                  have kp := kp.trans hkb
                  have hB := hB.kp hkb (by simp)
                  have hD4 := hD4.kp hkb (by simp)
                  have hD5 := hD5.kp hkb (by simp)
                  refine br_1 19 (by kernel_rfl) ?_
                  have hXl := hB.lt
                  refine e_ap (h := ((lz o1 dd i).getD ((lz o1 dd i).length - dd) 0)) rfl rfl rfl hO.s hbb (by omega) ?_
                  intro ov2 w8 hS2 kp2 hown2
                  have hB := hB.kp kp2 hO.x
                  have hD4 := hD4.kp kp2 (hO.ne hoD4 hlD4)
                  have hD5 := hD5.kp kp2 (hO.ne hoD5 hlD5)
                  have hO2 := hO.ap hXl kp hS2 kp2 hown2
                  have kp := kp.transNew kp2 hO.new
                  have hO := hO2
                  clear hO2
                  refine br_p 20 rfl (by kernel_rfl) (fun w => nilP rfl) ?_
                  refine br_p 21 rfl (by kernel_rfl) (fun w => fa53_2 rfl) ?_
                  refine br_1 22 (by kernel_rfl) ?_
                  refine e_st 22 (k := 2) (v := ov2) sz22 rfl rfl rfl hS2.one hB (by decide) ?_
                  intro w9 hB kpx
                  have hB := hB.congr (fun k _ => rx_2 k)
                  have kp := kp.transNew kpx (by simp; omega)
                  have hO := hO.kx kpx
                  have hD4 := hD4.kp kpx (by simp; omega)
                  have hD5 := hD5.kp kpx (by simp; omega)
                  refine br_nil (by kernel_rfl) ?_
                  exact ⟨_, rfl, rfl, rfl, rfl, rfl, rfl, rfl, ov2, hD4, hD5, hB, kp, hO⟩
                 ·skip
                  refine e_v rfl (bs1 rfl) ?_
                  have hkb := (Kp.refl [] w7.drew).alloc (.cells #[.int .u8 ((((lz o1 dd i).getD ((lz o1 dd i).length - dd) 0) : Nat) : Int)] 5)
                  have hbb : Bk (w7.drew.alloc (.cells #[.int .u8 ((((lz o1 dd i).getD ((lz o1 dd i).length - dd) 0) : Nat) : Int)] 5)) w7.drew.heap.size 1 5 (fun _ => .int .u8 ((((lz o1 dd i).getD ((lz o1 dd i).length - dd) 0) : Nat) : Int)) := Bk.newOf w7.drew _ 5 1 _ rfl
                  have hO := hO.k0 hkb
                  have kp := kp.trans hkb
                  have hB := hB.kp hkb (by simp)
                  have hD4 := hD4.kp hkb (by simp)
                  have hD5 := hD5.kp hkb (by simp)
                  refine br_1 4 (by kernel_rfl) ?_
                  refine e_v rfl (ld22 rfl (hB.cellv (v := (.slice (some ⟨ob, 0, none⟩) (lz o1 dd i).length oc2)) (by decide) rfl)) ?_
                  refine br_1 19 (by kernel_rfl) ?_
                  have hXl := hB.lt
                  refine e_ap (h := ((lz o1 dd i).getD ((lz o1 dd i).length - dd) 0)) rfl rfl rfl hO.s hbb (by omega) ?_
                  intro ov2 w8 hS2 kp2 hown2
                  have hB := hB.kp kp2 hO.x
                  have hD4 := hD4.kp kp2 (hO.ne hoD4 hlD4)
                  have hD5 := hD5.kp kp2 (hO.ne hoD5 hlD5)
                  have hO2 := hO.ap hXl kp hS2 kp2 hown2
                  have kp := kp.transNew kp2 hO.new
                  have hO := hO2
                  clear hO2
                  refine br_p 20 rfl (by kernel_rfl) (fun w => nilP rfl) ?_
                  refine br_p 21 rfl (by kernel_rfl) (fun w => fa53_2 rfl) ?_
                  refine br_1 22 (by kernel_rfl) ?_
                  refine e_st 22 (k := 2) (v := ov2) sz22 rfl rfl rfl hS2.one hB (by decide) ?_
                  intro w9 hB kpx
                  have hB := hB.congr (fun k _ => rx_2 k)
                  have kp := kp.transNew kpx (by simp; omega)
                  have hO := hO.kx kpx
                  have hD4 := hD4.kp kpx (by simp; omega)
                  have hD5 := hD5.kp kpx (by simp; omega)
                  refine br_nil (by kernel_rfl) ?_
                  exact ⟨_, rfl, rfl, rfl, rfl, rfl, rfl, rfl, ov2, hD4, hD5, hB, kp, hO⟩
              ·skip
               refine e_v rfl (ld22 rfl (hB.cellv (v := (.slice (some ⟨ob, 0, none⟩) (lz o1 dd i).length oc2)) (by decide) rfl)) ?_
               refine br_p 13 rfl (by kernel_rfl) (fun w => ln und22 rfl) ?_
               refine br_p 15 rfl (by kernel_rfl) (fun w => bi rfl rfl (bn_sub (c := (((lz o1 dd i).length - dd : Nat) : Int)) (by omega) (by omega) (by omega))) ?_
               refine br_2 4 8 (by kernel_rfl) ?_ ?_
               ·skip
                refine e_v rfl (ld22 rfl (hB.cellv (v := (.slice (some ⟨ob, 0, none⟩) (lz o1 dd i).length oc2)) (by decide) rfl)) ?_
                refine br_1 8 (by kernel_rfl) ?_
                refine e_v rfl (ld22 rfl (hB.cellv (v := (.slice (some ⟨ob, 0, none⟩) (lz o1 dd i).length oc2)) (by decide) rfl)) ?_
                refine br_p 16 rfl (by kernel_rfl) (fun w => ixgb und22 sz5 rfl rfl rfl (by omega)) ?_
                refine br_1 17 (by kernel_rfl) ?_
                refine e_v rfl (ld5 (v := .int .u8 ((((lz o1 dd i).getD ((lz o1 dd i).length - dd) 0) : Nat) : Int)) rfl (by rw [Nat.zero_add]; exact hcl)) ?_
                refine br_1 18 (by kernel_rfl) ?_
                refine e_v rfl (bs1 rfl) ?_
                have hkb := (Kp.refl [] w7.drew).alloc (.cells #[.int .u8 ((((lz o1 dd i).getD ((lz o1 dd i).length - dd) 0) : Nat) : Int)] 5)
                have hbb : Bk (w7.drew.alloc (.cells #[.int .u8 ((((lz o1 dd i).getD ((lz o1 dd i).length - dd) 0) : Nat) : Int)] 5)) w7.drew.heap.size 1 5 (fun _ => .int .u8 ((((lz o1 dd i).getD ((lz o1 dd i).length - dd) 0) : Nat) : Int)) := Bk.newOf w7.drew _ 5 1 _ rfl
                have hO := hO.k0 hkb
                have kp := kp.trans hkb
                have hB := hB.kp hkb (by simp)
                have hD4 := hD4.kp hkb (by simp)
                have hD5 := hD5.kp hkb (by simp)
                refine br_1 19 (by kernel_rfl) ?_
                have hXl := hB.lt
                refine e_ap (h := ((lz o1 dd i).getD ((lz o1 dd i).length - dd) 0)) rfl rfl rfl hO.s hbb (by omega) ?_
                intro ov2 w8 hS2 kp2 hown2
                have hB := hB.kp kp2 hO.x
                have hD4 := hD4.kp kp2 (hO.ne hoD4 hlD4)
                have hD5 := hD5.kp kp2 (hO.ne hoD5 hlD5)
                have hO2 := hO.ap hXl kp hS2 kp2 hown2
                have kp := kp.transNew kp2 hO.new
                have hO := hO2
                clear hO2
                refine br_p 20 rfl (by kernel_rfl) (fun w => nilP rfl) ?_
                refine br_p 21 rfl (by kernel_rfl) (fun w => fa53_2 rfl) ?_
                refine br_1 22 (by kernel_rfl) ?_
                refine e_st 22 (k := 2) (v := ov2) sz22 rfl rfl rfl hS2.one hB (by decide) ?_
                intro w9 hB kpx
                have hB := hB.congr (fun k _ => rx_2 k)
                have kp := kp.transNew kpx (by simp; omega)
                have hO := hO.kx kpx
                have hD4 := hD4.kp kpx (by simp; omega)
                have hD5 := hD5.kp kpx (by simp; omega)
                refine br_nil (by kernel_rfl) ?_
                exact ⟨_, rfl, rfl, rfl, rfl, rfl, rfl, rfl, ov2, hD4, hD5, hB, kp, hO⟩
               ·skip
                refine e_v rfl (ld22 rfl (hB.cellv (v := (.slice (some ⟨ob, 0, none⟩) (lz o1 dd i).length oc2)) (by decide) rfl)) ?_
                refine br_p 16 rfl (by kernel_rfl) (fun w => ixgb und22 sz5 rfl rfl rfl (by omega)) ?_
                refine br_2 4 17 (by kernel_rfl) ?_ ?_
                ·skip
                 refine e_v rfl (ld22 rfl (hB.cellv (v := (.slice (some ⟨ob, 0, none⟩) (lz o1 dd i).length oc2)) (by decide) rfl)) ?_
                 refine br_1 17 (by kernel_rfl) ?_
                 refine e_v rfl (ld5 (v := .int .u8 ((((lz o1 dd i).getD ((lz o1 dd i).length - dd) 0) : Nat) : Int)) rfl (by rw [Nat.zero_add]; exact hcl)) ?_
                 refine br_1 18 (by kernel_rfl) ?_
                 refine e_v rfl (bs1 rfl) ?_
                 have hkb := (Kp.refl [] w7.drew).alloc (.cells #[.int .u8 ((((lz o1 dd i).getD ((lz o1 dd i).length - dd) 0) : Nat) : Int)] 5)
                 have hbb : Bk (w7.drew.alloc (.cells #[.int .u8 ((((lz o1 dd i).getD ((lz o1 dd i).length - dd) 0) : Nat) : Int)] 5)) w7.drew.heap.size 1 5 (fun _ => .int .u8 ((((lz o1 dd i).getD ((lz o1 dd i).length - dd) 0) : Nat) : Int)) := Bk.newOf w7.drew _ 5 1 _ rfl
                 have hO := hO.k0 hkb
                 have kp := kp.trans hkb
                 have hB := hB.kp hkb (by simp)
                 have hD4 := hD4.kp hkb (by simp)
                 have hD5 := hD5.kp hkb (by simp)
                 refine br_1 19 (by kernel_rfl) ?_
                 have hXl := hB.lt
                 refine e_ap (h := ((lz o1 dd i).getD ((lz o1 dd i).length - dd) 0)) rfl rfl rfl hO.s hbb (by omega) ?_
                 intro ov2 w8 hS2 kp2 hown2
                 have hB := hB.kp kp2 hO.x
                 have hD4 := hD4.kp kp2 (hO.ne hoD4 hlD4)
                 have hD5 := hD5.kp kp2 (hO.ne hoD5 hlD5)
                 have hO2 := hO.ap hXl kp hS2 kp2 hown2
                 have kp := kp.transNew kp2 hO.new
                 have hO := hO2
                 clear hO2
                 refine br_p 20 rfl (by kernel_rfl) (fun w => nilP rfl) ?_
                 refine br_p 21 rfl (by kernel_rfl) (fun w => fa53_2 rfl) ?_
                 refine br_1 22 (by kernel_rfl) ?_
                 refine e_st 22 (k := 2) (v := ov2) sz22 rfl rfl rfl hS2.one hB (by decide) ?_
                 intro w9 hB kpx
                 have hB := hB.congr (fun k _ => rx_2 k)
                 have kp := kp.transNew kpx (by simp; omega)
                 have hO := hO.kx kpx
                 have hD4 := hD4.kp kpx (by simp; omega)
                 have hD5 := hD5.kp kpx (by simp; omega)
                 refine br_nil (by kernel_rfl) ?_
                 exact ⟨_, rfl, rfl, rfl, rfl, rfl, rfl, rfl, ov2, hD4, hD5, hB, kp, hO⟩
                ·skip
                 refine e_v rfl (ld5 (v := .int .u8 ((((lz o1 dd i).getD ((lz o1 dd i).length - dd) 0) : Nat) : Int)) rfl (by rw [Nat.zero_add]; exact hcl)) ?_
                 refine br_2 4 18 (by kernel_rfl) ?_ ?_
                 ·skip
                  refine e_v rfl (ld22 rfl (hB.cellv (v := (.slice (some ⟨ob, 0, none⟩) (lz o1 dd i).length oc2)) (by decide) rfl)) ?_
                  refine br_1 18 (by kernel_rfl) ?_
                  refine e_v rfl (bs1 rfl) ?_
                  have hkb := (Kp.refl [] w7.drew).alloc (.cells #[.int .u8 ((((lz o1 dd i).getD ((lz o1 dd i).length - dd) 0) : Nat) : Int)] 5)
                  have hbb : Bk (w7.drew.alloc (.cells #[.int .u8 ((((lz o1 dd i).getD ((lz o1 dd i).length - dd) 0) : Nat) : Int)] 5)) w7.drew.heap.size 1 5 (fun _ => .int .u8 ((((lz o1 dd i).getD ((lz o1 dd i).length - dd) 0) : Nat) : Int)) := Bk.newOf w7.drew _ 5 1 _ rfl
                  have hO := hO.k0 hkb
                  have kp := kp.trans hkb
                  have hB := hB.kp hkb (by simp)
                  have hD4 := hD4.kp hkb (by simp)
                  have hD5 := hD5.kp hkb (by simp)
                  refine br_1 19 (by kernel_rfl) ?_
                  have hXl := hB.lt
                  refine e_ap (h := ((lz o1 dd i).getD ((lz o1 dd i).length - dd) 0)) rfl rfl rfl hO.s hbb (by omega) ?_
                  intro ov2 w8 hS2 kp2 hown2
                  have hB := hB.kp kp2 hO.x
                  have hD4 := hD4.kp kp2 (hO.ne hoD4 hlD4)
                  have hD5 := hD5.kp kp2 (hO.ne hoD5 hlD5)
                  have hO2 := hO.ap hXl kp hS2 kp2 hown2
                  have kp := kp.transNew kp2 hO.new
                  have hO := hO2
                  clear hO2
                  refine br_p 20 rfl (by kernel_rfl) (fun w => nilP rfl) ?_
                  refine br_p 21 rfl (by kernel_rfl) (fun w => fa53_2 rfl) ?_
                  refine br_1 22 (by kernel_rfl) ?_
                  refine e_st 22 (k := 2) (v := ov2) sz22 rfl rfl rfl hS2.one hB (by decide) ?_
                  intro w9 hB kpx
                  have hB := hB.congr (fun k _ => rx_2 k)
                  have kp := kp.transNew kpx (by simp; omega)
                  have hO := hO.kx kpx
                  have hD4 := hD4.kp kpx (by simp; omega)
                  have hD5 := hD5.kp kpx (by simp; omega)
                  refine br_nil (by kernel_rfl) ?_
                  exact ⟨_, rfl, rfl, rfl, rfl, rfl, rfl, rfl, ov2, hD4, hD5, hB, kp, hO⟩
                 ·skip
                  refine e_v rfl (bs1 rfl) ?_
                  have hkb := (Kp.refl [] w7.drew).alloc (.cells #[.int .u8 ((((lz o1 dd i).getD ((lz o1 dd i).length - dd) 0) : Nat) : Int)] 5)
                  have hbb : Bk (w7.drew.alloc (.cells #[.int .u8 ((((lz o1 dd i).getD ((lz o1 dd i).length - dd) 0) : Nat) : Int)] 5)) w7.drew.heap.size 1 5 (fun _ => .int .u8 ((((lz o1 dd i).getD ((lz o1 dd i).length - dd) 0) : Nat) : Int)) := Bk.newOf w7.drew _ 5 1 _ rfl
                  have hO := hO.k0 hkb
                  have kp := kp.trans hkb
                  have hB := hB.kp hkb (by simp)
                  have hD4 := hD4.kp hkb (by simp)
                  have hD5 := hD5.kp hkb (by simp)
                  refine br_1 4 (by kernel_rfl) ?_
                  refine e_v rfl (ld22 rfl (hB.cellv (v := (.slice (some ⟨ob, 0, none⟩) (lz o1 dd i).length oc2)) (by decide) rfl)) ?_
                  refine br_1 19 (by kernel_rfl) ?_
                  have hXl := hB.lt
                  refine e_ap (h := ((lz o1 dd i).getD ((lz o1 dd i).length - dd) 0)) rfl rfl rfl hO.s hbb (by omega) ?_
                  intro ov2 w8 hS2 kp2 hown2
                  have hB := hB.kp kp2 hO.x
                  have hD4 := hD4.kp kp2 (hO.ne hoD4 hlD4)
                  have hD5 := hD5.kp kp2 (hO.ne hoD5 hlD5)
                  have hO2 := hO.ap hXl kp hS2 kp2 hown2
                  have kp := kp.transNew kp2 hO.new
                  have hO := hO2
                  clear hO2
                  refine br_p 20 rfl (by kernel_rfl) (fun w => nilP rfl) ?_
                  refine br_p 21 rfl (by kernel_rfl) (fun w => fa53_2 rfl) ?_
                  refine br_1 22 (by kernel_rfl) ?_
                  refine e_st 22 (k := 2) (v := ov2) sz22 rfl rfl rfl hS2.one hB (by decide) ?_
                  intro w9 hB kpx
                  have hB := hB.congr (fun k _ => rx_2 k)
                  have kp := kp.transNew kpx (by simp; omega)
                  have hO := hO.kx kpx
                  have hD4 := hD4.kp kpx (by simp; omega)
                  have hD5 := hD5.kp kpx (by simp; omega)
                  refine br_nil (by kernel_rfl) ?_
                  exact ⟨_, rfl, rfl, rfl, rfl, rfl, rfl, rfl, ov2, hD4, hD5, hB, kp, hO⟩
             clear hD4 hD5 hB kp hO
             rintro f w9 ⟨s0, s4, s5, s7, s9, s10, ov2, hD4, hD5, hB, kp, hO⟩
             refine inb_n ?_
             refine then_n ?_
             refine slots (fc s0 (fc s4 (fc s5 (fc s7 (fc s9 (fc s10 fnil)))))) ?_
             refine reg_lit ?_
             refine Mi rfl ?_
             refine L1 (bi rfl rfl (bn_add (c := ((i + 1 : Nat) : Int)) (by omega) (by omega) (by omega))) ?_
             refine Ai rfl ?_
             refine nt ?_
             exact ⟨lnn - (i + 1), _, by omega, rfl, rfl, rfl, rfl, rfl, rfl, i + 1, ov2, rfl, by omega, rfl, hD4, hD5, hB, kp, hO⟩
            ·skip
             obtain rfl : lnn = i := by omega
             refine wp_seq ?_
             refine sqr ?_
             refine Mi rfl ?_
             refine Mi rfl ?_
             refine L1 (bi rfl rfl (bn_lss (v := false) (decide_eq_false (by omega)))) ?_
             refine Mb rfl ?_
             refine Lskip (t := 99) (b := true) rfl (by decide) rfl ?_
             refine Lskip (t := 99) (b := true) rfl (by decide) rfl ?_
             refine Lskip (t := 99) (b := true) rfl (by decide) rfl ?_
             refine Lskip (t := 99) (b := true) rfl (by decide) rfl ?_
             refine Lskip (t := 99) (b := true) rfl (by decide) rfl ?_
             refine L1 (pk_f rfl rfl) ?_
             refine nt ?_
             refine cond_f rfl ?_
             refine wp_exit ?_
             refine then_e ?_
             refine then_e ?_
             refine inb_same ?_
             refine inb_n ?_
             refine then_n ?_
             exact ⟨8 * data.length - (p3 + dBits d) + 1, _, by omega, rfl, rfl, rfl, rfl, p3 + dBits d, 0, vi, _, hD4, hD5, hB, kp, hO, hxle, by rw [lz_length]; omega, .inl ⟨rfl, rfl, fun p' o' st' h => hcont _ _ _ (RH.copy hr hs1 hs2 hle hrd (by omega) hxle (by omega) (by omega) (by rw [← hdde, ← hlne]; exact h))⟩⟩
         ·skip
          refine then_n ?_
          refine wp_seq ?_
          refine sqr ?_
          refine Mp rfl ?_
          refine Np rfl ?_
          refine L1 (fa53_4 rfl) ?_
          refine L1 (ld3 rfl (hB.cellv (v := .int _ _) (by decide) rfl)) ?_
          refine L1 (bi rfl rfl (bn_eql (v := false) (decide_eq_false (by decide)))) ?_
          refine Mb rfl ?_
          refine Lskip (t := 80) (b := true) rfl (by decide) rfl ?_
          refine Lskip (t := 80) (b := true) rfl (by decide) rfl ?_
          refine Lskip (t := 80) (b := true) rfl (by decide) rfl ?_
          refine Lskip (t := 80) (b := true) rfl (by decide) rfl ?_
          refine Lskip (t := 80) (b := true) rfl (by decide) rfl ?_
          refine Lskip (t := 80) (b := true) rfl (by decide) rfl ?_
          refine Lskip (t := 80) (b := true) rfl (by decide) rfl ?_
          refine Lskip (t := 80) (b := true) rfl (by decide) rfl ?_
          refine LskipU (t := 88) rfl (by decide) rfl ?_
          refine LskipU (t := 88) rfl (by decide) rfl ?_
          refine Lskip (t := 80) (b := true) rfl (by decide) rfl ?_
          refine L1 (pk_f rfl rfl) ?_
          refine nt ?_
          refine cond_f rfl ?_
          refine skn ?_
          refine sqr ?_
          refine Ai rfl ?_
          refine nt ?_
          refine wp_block ?_
          refine loop_fr (fun k f w' => f 0 = .pointer (some ⟨X, 0, none⟩) ∧ f 4 = .pointer (some ⟨D4, 0, none⟩) ∧ f 5 = .pointer (some ⟨D5, 0, none⟩) ∧ f 7 = .int .i64 ((lnn : Nat) : Int) ∧ f 10 = .int .i64 ((0 : Nat) : Int) ∧ Bk w' D4 3 56 (c56 l1 c1 s1) ∧ Bk w' D5 3 56 (c56 l2 c2 (.slice sa (syms dist).length sc)) ∧ Bk w' X 6 53 (rx dv (8 * data.length) (.slice oa o1.length oc) base 2 edge) ∧ Kp [] w0 w' ∧ OS w0 wb w' X ov (.slice oa o1.length oc) o1) 0 ⟨rfl, rfl, rfl, rfl, rfl, hD4, hD5, hB, kp, hO⟩ ?_
          clear hD4 hD5 hB kp hO
          intro k2 f w7 HJ
          obtain ⟨s0, s4, s5, s7, s10, hD4, hD5, hB, kp, hO⟩ := HJ
          refine slots (fc s0 (fc s4 (fc s5 (fc s7 (fc s10 fnil))))) ?_
          refine wp_seq ?_
          refine sqr ?_
          refine Mi rfl ?_
          refine Mi rfl ?_
          refine L1 (bi rfl rfl (bn_lss (v := true) (decide_eq_true (by omega)))) ?_
          refine Mb rfl ?_
          refine L1g (t := 99) (b := true) rfl (by decide) rfl (mv (v := .pointer _) rfl) ?_
          refine L1g (t := 99) (b := true) rfl (by decide) rfl (nilP rfl) ?_
          refine L1g (t := 99) (b := true) rfl (by decide) rfl (fa53_4 rfl) ?_
          refine L1g (t := 99) (b := true) rfl (by decide) rfl (ld3 rfl (hB.cellv (v := .int _ _) (by decide) rfl)) ?_
          refine L1g (t := 99) (b := true) rfl (by decide) rfl (bi rfl rfl (bn_eql (v := false) (decide_eq_false (by decide)))) ?_
          refine L1 (pk_t rfl rfl) ?_
          refine nt ?_
          refine cond_f rfl ?_
          refine wp_exit ?_
          refine then_e ?_
          refine then_e ?_
          refine inb_same ?_
          refine inb_n ?_
          refine then_n ?_
          exact ⟨0, _, by omega, rfl, rfl, rfl, rfl, (8 * data.length), 2, _, o1, hD4, hD5, hB, kp, hO, by omega, by omega, .inr ⟨by decide, rfl, hcont _ _ _ (RH.xshort hr hs1 hs2 hle hrd (by omega) hxgt)⟩⟩
       ·skip
        refine then_n ?_
        refine wp_seq ?_
        refine sqr ?_
        refine Mp rfl ?_
        refine Np rfl ?_
        refine L1 (fa53_4 rfl) ?_
        refine L1 (ld3 rfl (hB.cellv (v := .int _ _) (by decide) rfl)) ?_
        refine L1 (bi rfl rfl (bn_eql (v := false) (decide_eq_false (by decide)))) ?_
        refine Mb rfl ?_
        refine Lskip (t := 60) (b := true) rfl (by decide) rfl ?_
        refine Lskip (t := 60) (b := true) rfl (by decide) rfl ?_
        refine L1 (pk_f rfl rfl) ?_
        refine nt ?_
        refine cond_f rfl ?_
        refine skn ?_
        refine wp_seq ?_
        refine sqr ?_
        refine Mp rfl ?_
        refine Np rfl ?_
        refine L1 (fa53_4 rfl) ?_
        refine L1 (ld3 rfl (hB.cellv (v := .int _ _) (by decide) rfl)) ?_
        refine L1 (bi rfl rfl (bn_neq (v := true) (decide_eq_false (by decide)))) ?_
        refine nt ?_
        refine cond_t rfl ?_
        refine wp_ret ?_
        refine then_r ?_
        refine inb_r ?_
        refine then_r ?_
        refine inb_r ?_
        refine ret0 rfl ?_
        exact ⟨_, rfl, _, _, _, _, ⟨hB, kp⟩, hO0.trans hO, Nat.le_refl _, hcont _ _ _ (RH.dshort hr hs1 hs2 hle hrd), by omega⟩
       ·skip
        have hpb := rsym_ge hrd
        refine then_n ?_
        refine wp_seq ?_
        refine sqr ?_
        refine Mp rfl ?_
        refine Np rfl ?_
        refine L1 (fa53_4 rfl) ?_
        refine L1 (ld3 rfl (hB.cellv (v := .int _ _) (by decide) rfl)) ?_
        refine L1 (bi rfl rfl (bn_eql (v := false) (decide_eq_false (by decide)))) ?_
        refine Mb rfl ?_
        refine Lskip (t := 60) (b := true) rfl (by decide) rfl ?_
        refine Lskip (t := 60) (b := true) rfl (by decide) rfl ?_
        refine L1 (pk_f rfl rfl) ?_
        refine nt ?_
        refine cond_f rfl ?_
        refine skn ?_
        refine wp_seq ?_
        refine sqr ?_
        refine Mp rfl ?_
        refine Np rfl ?_
        refine L1 (fa53_4 rfl) ?_
        refine L1 (ld3 rfl (hB.cellv (v := .int _ _) (by decide) rfl)) ?_
        refine L1 (bi rfl rfl (bn_neq (v := true) (decide_eq_false (by decide)))) ?_
        refine nt ?_
        refine cond_t rfl ?_
        refine wp_ret ?_
        refine then_r ?_
        refine inb_r ?_
        refine then_r ?_
        refine inb_r ?_
        refine ret0 rfl ?_
        exact ⟨_, rfl, _, _, _, _, ⟨hB, kp⟩, hO0.trans hO, hp3, hcont _ _ _ (RH.dbad hr hs1 hs2 hle hrd), by omega⟩
      ·skip
       refine then_n ?_
       refine sqr ?_
       refine Mp rfl ?_
       refine L1 (ld56 rfl hD5 (by decide) rfl rfl rfl) ?_
       refine LC (cl2 has28 rfl rfl rfl) (sym_s hB (by decide) l2 c2 sa _ sc) ?_
       rintro v w5 ⟨rfl, kp5, hBk⟩
       have hO := hO.k0 kp5
       have kp := kp.trans kp5
       have hB := hB.kp kp5 (by simp)
       have hD4 := hD4.kp kp5 (by simp)
       have hD5 := hD5.kp kp5 (by simp)
       refine Ai rfl ?_
       refine nt ?_
       refine wp_seq ?_
       refine sqr ?_
       refine Mp rfl ?_
       refine Np rfl ?_
       refine L1 (fa53_4 rfl) ?_
       refine L1 (ld3 rfl (hB.cellv (v := .int _ _) (by decide) rfl)) ?_
       refine L1 (bi rfl rfl (bn_eql (v := false) (decide_eq_false (by decide)))) ?_
       refine Mb rfl ?_
       refine Lskip (t := 60) (b := true) rfl (by decide) rfl ?_
       refine Lskip (t := 60) (b := true) rfl (by decide) rfl ?_
       refine L1 (pk_f rfl rfl) ?_
       refine nt ?_
       refine cond_f rfl ?_
       refine skn ?_
       refine wp_seq ?_
       refine sqr ?_
       refine Mp rfl ?_
       refine Np rfl ?_
       refine L1 (fa53_4 rfl) ?_
       refine L1 (ld3 rfl (hB.cellv (v := .int _ _) (by decide) rfl)) ?_
       refine L1 (bi rfl rfl (bn_neq (v := true) (decide_eq_false (by decide)))) ?_
       refine nt ?_
       refine cond_t rfl ?_
       refine wp_ret ?_
       refine then_r ?_
       refine inb_r ?_
       refine then_r ?_
       refine inb_r ?_
       refine ret0 rfl ?_
       exact ⟨_, rfl, _, _, _, _, ⟨hB, kp⟩, hO0.trans hO, Nat.le_refl _, hcont _ _ _ (RH.lshort hr hs1 hs2 hgt), by omega⟩
  ·skip
   refine then_n ?_
   refine wp_seq ?_
   refine wp_block ?_
   refine sqr ?_
   refine Mp rfl ?_
   refine Np rfl ?_
   refine L1 (fa53_4 rfl) ?_
   refine L1 (ld3 rfl (hB.cellv (v := .int _ _) (by decide) rfl)) ?_
   refine L1 (bi rfl rfl (bn_neq (v := true) (decide_eq_false (by decide)))) ?_
   refine Mb rfl ?_
   refine Lskip (t := 25) (b := false) rfl (by decide) rfl ?_
   refine Lskip (t := 25) (b := false) rfl (by decide) rfl ?_
   refine L1 (pk_t rfl rfl) ?_
   refine Ab rfl ?_
   refine nt ?_
   refine cond_t rfl ?_
   refine wp_ret ?_
   refine inb_r ?_
   refine then_r ?_
   refine inb_r ?_
   refine then_r ?_
   refine inb_r ?_
   refine ret0 rfl ?_
   exact ⟨_, rfl, _, _, _, _, ⟨hB, kp⟩, hO0.trans hO, Nat.le_refl _, hcont _ _ _ (RH.short hr), by omega⟩
  ·skip
   have hpb := rsym_ge hr
   refine then_n ?_
   refine wp_seq ?_
   refine wp_block ?_
   refine sqr ?_
   refine Mp rfl ?_
   refine Np rfl ?_
   refine L1 (fa53_4 rfl) ?_
   refine L1 (ld3 rfl (hB.cellv (v := .int _ _) (by decide) rfl)) ?_
   refine L1 (bi rfl rfl (bn_neq (v := true) (decide_eq_false (by decide)))) ?_
   refine Mb rfl ?_
   refine Lskip (t := 25) (b := false) rfl (by decide) rfl ?_
   refine Lskip (t := 25) (b := false) rfl (by decide) rfl ?_
   refine L1 (pk_t rfl rfl) ?_
   refine Ab rfl ?_
   refine nt ?_
   refine cond_t rfl ?_
   refine wp_ret ?_
   refine inb_r ?_
   refine then_r ?_
   refine inb_r ?_
   refine then_r ?_
   refine inb_r ?_
   refine ret0 rfl ?_
   exact ⟨_, rfl, _, _, _, _, ⟨hB, kp⟩, hO0.trans hO, hp2, hcont _ _ _ (RH.bad hr), by omega⟩
 ·skip
  refine wp_seq ?_
  refine sqr ?_
  refine Mp rfl ?_
  refine Np rfl ?_
  refine L1 (fa53_4 rfl) ?_
  refine L1 (ld3 rfl (hB.cellv (v := .int _ _) (by decide) rfl)) ?_
  refine L1 (bi rfl rfl (bn_eql (v := false) (decide_eq_false (by omega)))) ?_
  refine nt ?_
  refine cond_f rfl ?_
  refine wp_exit ?_
  refine then_e ?_
  refine then_e ?_
  refine inb_same ?_
  refine end0 rfl ?_
  exact ⟨_, rfl, _, _, _, _, ⟨hB, kp⟩, hO0.trans hO, hp1, hrh, hol1⟩
theorem block_s {w : World} {X : Nat} {dv ov : Value} {p base st edge : Nat} (hB : Bk w X 6 53 (rx dv p ov base st edge)) (hst : st ≠ 0) (l1 c1 s1 l2 c2 s2 : Value) :
  Ret 22 [px X, .agg #[l1, c1, s1], .agg #[l2, c2, s2]] w fun _ w' => Kp [] w w' ∧ Bk w' X 6 53 (rx dv p ov base st edge) := by
 have kp := Kp.refl [] w
 refine calls_fr (N := 130) Tryd.func22 rfl rfl (by simp [px]) rfl ?_
 have hk1 := (Kp.refl [] w).alloc (.cells #[l1, c1, s1] 56)
 have hk2 := hk1.alloc (.cells #[l2, c2, s2] 56)
 have hB := hB.kp hk2 (by simp)
 refine sqr ?_
 refine L1 (bx56 rfl) ?_
 skip
 refine L1 (bx56 rfl) ?_
 skip
 refine nt ?_
 refine wp_block ?_
 refine loop_fr (fun k f w' => f 0 = .pointer (some ⟨X, 0, none⟩) ∧ Kp [] w w' ∧ Bk w' X 6 53 (rx dv p ov base st edge)) 0 ⟨rfl, hk2, hB⟩ ?_
 intro k f w1 HJ
 obtain ⟨s0, kp, hB⟩ := HJ
 refine slots (fc s0 fnil) ?_
 refine wp_seq ?_
 refine sqr ?_
 refine Mp rfl ?_
 refine Np rfl ?_
 refine L1 (fa53_4 rfl) ?_
 refine L1 (ld3 rfl (hB.cellv (v := .int _ _) (by decide) rfl)) ?_
 refine L1 (bi rfl rfl (bn_eql (v := false) (decide_eq_false (by omega)))) ?_
 refine nt ?_
 refine cond_f rfl ?_
 refine wp_exit ?_
 refine then_e ?_
 refine then_e ?_
 refine inb_same ?_
 refine end0 rfl ?_
 exact ⟨_, rfl, kp, hB⟩
end Go.Proofs.YtejeloeaklpinaaDoor
namespace Go.Proofs.YtejeloeaklpinaaDoor
/-- The machine at a block's head, as far as its codes ask for it. -/
def can (p : Nat) : A := ⟨p, (p + 7) / 8, [], false, .next, 0, 0, 0⟩
def RD (S : Src) (p : Nat) (out : List Nat) (p' : Nat) (o' : List Nat) (st : Nat) : Prop :=
 (st ≠ 0 ∧ o' = out ∧ DnE S (can p) p' st) ∨ ∃ lit dist q, DynOk S (can p) lit dist q ∧ RH S lit dist q out p' o' st
/-- What the reference makes of a block behind its head. -/
def RBk (S : Src) (kind p : Nat) (out : List Nat) (p' : Nat) (o' : List Nat) (st : Nat) : Prop :=
 (kind = 0 ∧ SR S p out p' o' st) ∨ (kind = 1 ∧ RH S fixL (List.replicate 32 5) p out p' o' st) ∨ (kind = 2 ∧ RD S p out p' o' st) ∨ (kind = 3 ∧ st = 1 ∧ p' = p ∧ o' = out)
/-- What the reference makes of a stream: place, bytes, bytes at the end of the last whole block. -/
inductive RI (S : Src) : Nat → List Nat → Nat → Nat → List Nat → Nat → Nat → Prop
 | short {p e : Nat} {out : List Nat} : 8 * S.N < p + 3 → RI S p out e (8 * S.N) out 2 e
 | fail {p e p' st : Nat} {out o' : List Nat} : p + 3 ≤ 8 * S.N → RBk S (bv S.D p 3 / 2) (p + 3) out p' o' st → st ≠ 0 → RI S p out e p' o' st e
 | last {p e p' : Nat} {out o' : List Nat} : p + 3 ≤ 8 * S.N → RBk S (bv S.D p 3 / 2) (p + 3) out p' o' 0 → bv S.D p 3 % 2 = 1 → RI S p out e p' o' 0 o'.length
 | more {p e p1 p' st e' : Nat} {out o1 o' : List Nat} : p + 3 ≤ 8 * S.N → RBk S (bv S.D p 3 / 2) (p + 3) out p1 o1 0 → bv S.D p 3 % 2 = 0 → RI S p1 o1 o1.length p' o' st e' → RI S p out e p' o' st e'
theorem rsym_lt {S : Src} {L : List Nat} {p p' s : Nat} (h : rsym S L p = .ok s p' 0) : p < p' ∧ p' ≤ 8 * S.N := by
 unfold rsym at h
 split at h
 ·split at h <;> cases h
 ·rename_i h0
  split at h
  ·cases h; omega
  ·cases h
theorem RH.ge {S : Src} {lit dist : List Nat} {p p' st : Nat} {out o' : List Nat} (h : RH S lit dist p out p' o' st) : st = 0 → p ≤ p' := by
 induction h with
 | short => intro h; cases h
 | bad => intro h; cases h
 | eob h => intro _; have := rsym_lt h; omega
 | lit h _ _ ih => intro h0; have := rsym_lt h; have := ih h0; omega
 | big => intro h; cases h
 | lshort => intro h; cases h
 | dshort => intro h; cases h
 | dbad => intro h; cases h
 | dbig => intro h; cases h
 | xshort => intro h; cases h
 | far => intro h; cases h
 | copy h1 _ _ _ h2 _ _ _ _ _ ih => intro h0; have := rsym_lt h1; have := rsym_lt h2; have := ih h0; omega
theorem RBk.ge {S : Src} {k p p' st : Nat} {out o' : List Nat} (h : RBk S k p out p' o' st) (h0 : st = 0) : p ≤ p' := by
 rcases h with ⟨_, h⟩ | ⟨_, h⟩ | ⟨_, h⟩ | ⟨_, h, _⟩
 ·rcases h with ⟨_, h, _⟩ | ⟨_, _, h, _⟩ | ⟨_, _, ⟨_, _, h, _⟩ | ⟨_, h, _⟩⟩ <;> omega
 ·exact h.ge h0
 ·rcases h with ⟨h, _⟩ | ⟨lit, dist, q, hd, h⟩
  ·omega
  ·obtain ⟨_, _, _, _, _, _, _, _, _, _, _, hp⟩ := hd
   have := h.ge h0
   have e : (can p).p = p := rfl
   omega
 ·omega
theorem bv3 (D p : Nat) : bv D p 3 % 2 = bv D p 1 ∧ bv D p 3 / 2 = bv D (p + 1) 2 := ⟨bv_mod D p 3 1 (by decide), bv_shift D p 3 1 (by decide)⟩
/-- The two numbers at a block's head. -/
theorem head2 {S : Src} {p n1 n2 p1 p2 s1 s2 : Nat} (h1 : (p + 1 ≤ 8 * S.N ∧ n1 = bv S.D p 1 ∧ p1 = p + 1 ∧ s1 = 0) ∨ (8 * S.N < p + 1 ∧ n1 = 0 ∧ p1 = 8 * S.N ∧ s1 = sh 0)) (h2 : (p1 + 2 ≤ 8 * S.N ∧ n2 = bv S.D p1 2 ∧ p2 = p1 + 2 ∧ s2 = s1) ∨ (8 * S.N < p1 + 2 ∧ n2 = 0 ∧ p2 = 8 * S.N ∧ s2 = sh s1)) :
  (p + 3 ≤ 8 * S.N ∧ s2 = 0 ∧ p2 = p + 3 ∧ n1 = bv S.D p 3 % 2 ∧ n2 = bv S.D p 3 / 2) ∨ (8 * S.N < p + 3 ∧ s2 = 2 ∧ p2 = 8 * S.N) := by
 obtain ⟨e1, e2⟩ := bv3 S.D p
 rcases h1 with ⟨a1, a2, a3, a4⟩ | ⟨a1, a2, a3, a4⟩
 ·subst a3 a4
  rcases h2 with ⟨b1, b2, b3, b4⟩ | ⟨b1, b2, b3, b4⟩
  ·exact .inl ⟨by omega, b4, by omega, by omega, by omega⟩
  ·exact .inr ⟨by omega, b4, b3⟩
 ·have : s1 = 2 := a4
  subst this
  rcases h2 with ⟨b1, b2, b3, b4⟩ | ⟨b1, b2, b3, b4⟩
  ·omega
  ·exact .inr ⟨by omega, b4, b3⟩
theorem Sl.dropAg {w : World} {v : Value} {xs : List Nat} (h : Sl w v xs) {n : Nat} (hn : n ≤ xs.length) : ∃ a c, v = .slice a xs.length c ∧ xs.length ≤ c ∧ Ag w (.slice (cutA a n c) (xs.length - n) (c - n)) (xs.drop n) := by
 rcases h with ⟨rfl, rfl⟩ | ⟨b, cap, g, rfl, h2, h3, h4, h5⟩
 ·refine ⟨none, 0, rfl, Nat.le_refl _, cutA none n 0, 0 - n, by simp, fun j hj => by simp at hj⟩
 ·refine ⟨some ⟨b, 0, none⟩, cap, rfl, h3, cutA (some ⟨b, 0, none⟩) n cap, cap - n, by simp, fun j hj => ?_⟩
  rw [List.length_drop] at hj
  rw [cutA_lt b 0 n cap (by omega)]
  refine ⟨_, rfl, ?_⟩
  rw [Addr.add_lit, show 0 + n + j = n + j by omega, h2.cell (by omega), h5 (n + j) (by omega)]
  simp [List.getD_eq_getElem?_getD]
theorem RH.pre {S : Src} {lit dist : List Nat} {p p' st : Nat} {out o' : List Nat} (h : RH S lit dist p out p' o' st) : Pre out o' := by
 induction h with
 | lit _ _ _ ih => exact (Pre.app _ _).trans ih
 | copy _ _ _ _ _ _ _ _ _ _ ih => exact (lz_pre _ _ _).trans ih
 | _ => exact Pre.refl _
theorem SR.pre {S : Src} {p p' st : Nat} {out o' : List Nat} (h : SR S p out p' o' st) : Pre out o' := by
 rcases h with ⟨_, _, _, rfl⟩ | ⟨_, _, _, _, rfl⟩ | ⟨_, _, ⟨_, _, _, rfl⟩ | ⟨_, _, _, rfl⟩⟩
 ·exact Pre.refl _
 ·exact Pre.refl _
 ·exact Pre.app _ _
 ·exact Pre.app _ _
theorem RBk.pre {S : Src} {k p p' st : Nat} {out o' : List Nat} (h : RBk S k p out p' o' st) : Pre out o' := by
 rcases h with ⟨_, h⟩ | ⟨_, h⟩ | ⟨_, h⟩ | ⟨_, _, _, rfl⟩
 ·exact h.pre
 ·exact h.pre
 ·rcases h with ⟨_, rfl, _⟩ | ⟨lit, dist, q, _, h⟩
  ·exact Pre.refl _
  ·exact h.pre
 ·exact Pre.refl _
/-- A stored block tells no more bytes than its bits allow. -/
theorem SR.len {S : Src} {p p' : Nat} {out o' : List Nat} (h : SR S p out p' o' 0) : o'.length + 130 * (8 * S.N - p') ≤ out.length + 130 * (8 * S.N - p) := by
 rcases h with ⟨_, h, _⟩ | ⟨_, _, h, _⟩ | ⟨h1, _, ⟨h2, _, h3, h4⟩ | ⟨_, h, _⟩⟩
 ·cases h
 ·cases h
 ·rw [h4, List.length_append, bytesAt_length]; omega
 ·cases h
theorem AgN.low {w : World} {B : List Nat} {v : Value} {L : List Nat} (h : AgN w B v L) : AgN w (B.filter (fun b => decide (b < w.heap.size))) v L := by
 obtain ⟨a, c, h1, h2⟩ := h
 refine ⟨a, c, h1, fun j hj => ?_⟩
 obtain ⟨ad, h3, h4, h5⟩ := h2 j hj
 exact ⟨ad, h3, List.mem_filter.2 ⟨h4, decide_eq_true (World.block_lt_of_cell? w _ h5)⟩, h5⟩
/-- The blocks of a set of codes are there. -/
theorem CV.low {w : World} {B : List Nat} {v : Value} {L : List Nat} {n : Nat} (h : CV w B v L) (hB : ∀ b ∈ B, n ≤ b) : ∃ B', CV w B' v L ∧ ∀ b ∈ B', n ≤ b ∧ b < w.heap.size := by
 obtain ⟨lv, cv, sv, h1, h2, h3, h4, h5⟩ := h
 refine ⟨_, ⟨lv, cv, sv, h1, h2.low, h3.low, h4.low, h5⟩, fun b hb => ?_⟩
 obtain ⟨h6, h7⟩ := List.mem_filter.1 hb
 exact ⟨hB b h6, of_decide_eq_true h7⟩
theorem CV.one {w : World} {B : List Nat} {l c s : Value} {L : List Nat} (h : CV w B (.agg #[l, c, s]) L) : l.oneCell' = true ∧ c.oneCell' = true ∧ s.oneCell' = true := by
 obtain ⟨_, _, _, he, _, _, _, ho⟩ := h
 cases he
 exact ho
/-- A block that a part of the reader leaves alone. -/
theorem OS.keep {w0 w wk : World} {X D n : Nat} {T : TypeId} {g : Nat → Value} {ov0 ov : Value} {out : List Nat} (h : OS w0 w wk X ov0 ov out) (hD : Bk w D n T g) (hX : D ≠ X) (ho : ∀ k, ov0.ownBlock = some k → k ≠ D) : Bk wk D n T g ∧ ∀ k, ov.ownBlock = some k → k ≠ X ∧ w0.heap.size ≤ k ∧ k ≠ D := by
 refine ⟨hD.kp h.k fun hm => ?_, fun k hk => ?_⟩
 ·rcases List.mem_cons.1 hm with hm | hm
  ·exact hX hm
  ·exact ho D (mem_obk.1 hm) rfl
 ·obtain ⟨h1, h2, h3⟩ := h.o k hk
  refine ⟨h1, h2, ?_⟩
  rcases h3 with h3 | h3
  ·exact ho k h3
  ·have := hD.lt; omega
theorem fix_kraft : Kraft fixL := okL_fit fix_ok (by rw [fix_mx]; decide) (by rw [fix_mx]; decide)
theorem mx32 : mx (List.replicate 32 5) = 5 := by decide +kernel
theorem ok32 : okL (List.replicate 32 5) = true := by decide +kernel
theorem kraft32 : Kraft (List.replicate 32 5) := okL_fit ok32 (by rw [mx32]; decide) (by rw [mx32]; decide)
/-- The cells of a result. -/
def c31 (v0 v1 v2 v3 v4 : Value) (k : Nat) : Value := if k = 0 then v0 else if k = 1 then v1 else if k = 2 then v2 else if k = 3 then v3 else v4
theorem c31_get {v0 v1 v2 v3 v4 : Value} (j : Nat) (hj : j < 5) : c31 v0 v1 v2 v3 v4 j = [v0, v1, v2, v3, v4].getD j undef := by
 match j, hj with
 | 0, _ => rfl
 | 1, _ => rfl
 | 2, _ => rfl
 | 3, _ => rfl
 | 4, _ => rfl
def z31 (k : Nat) : Value := if k = 0 then .slice none 0 0 else .int .i64 0
attribute [local irreducible] wpList wpStill wpMix Code.wp Calls fr
section
variable {ops : Array Oper} {Q : Exit → Act → World → Prop} {N : Nat} {f : Nat → Value} {w : World} {rest : List Oper} {x y : Operand} {ty : TypeId} {pos : String} {af : Array Edge} {b : Nat} {T : TypeId} {g : Nat → Value} {v0 v1 v2 v3 v4 : Value}
theorem Lst31 (hx : ev N f x = .pointer (some ⟨b, 0, none⟩)) (hy : ev N f y = .agg #[v0, v1, v2, v3, v4]) (h1 : v0.oneCell' = true ∧ v1.oneCell' = true ∧ v2.oneCell' = true ∧ v3.oneCell' = true ∧ v4.oneCell' = true) (hB : Bk w b 5 T g)
  (K : ∀ w1, Bk w1 b 5 T (c31 v0 v1 v2 v3 v4) → Kp [b] w w1 → w1.heap.size = w.heap.size → wpList Tryd.prog ops Q rest (fr N f) w1) : wpList Tryd.prog ops Q (⟨none, .store 31 x y, ty, pos, af, none⟩ :: rest) (fr N f) w := by
 have hst := run_storeCells_cells (P := Tryd.prog) b 0 [v0, v1, v2, v3, v4] 0 w (fun j hj => by
   rw [Nat.add_zero, hB.cell (k := 0 + j) (by simp at hj; omega)]; rfl) (fun j _ => hB.frozen _) (fun v hv => by
   simp at hv; rcases hv with rfl | rfl | rfl | rfl | rfl
   ·exact h1.1
   ·exact h1.2.1
   ·exact h1.2.2.1
   ·exact h1.2.2.2.1
   ·exact h1.2.2.2.2)
 refine L0 (w' := w.setCells b 0 [v0, v1, v2, v3, v4]) ?_ (K _ ((hB.setCells [v0, v1, v2, v3, v4] 0).congr fun j hj => ?_) (Kp.setCells (by simp) _ _ (Kp.refl [b] w)) (by simp [World.setCells]))
 ·simp [execOp, hx, hy, Instr.storeAt, Instr.sureAddr, storeVar, sz31, Value.cells, hst]
 ·simp only [List.length_cons, List.length_nil]
  rw [if_pos (by omega)]
  match j, hj with
  | 0, _ => rfl
  | 1, _ => rfl
  | 2, _ => rfl
  | 3, _ => rfl
  | 4, _ => rfl
end
end Go.Proofs.YtejeloeaklpinaaDoor
namespace Go.Proofs.YtejeloeaklpinaaDoor
attribute [local irreducible] wpList wpStill wpMix Code.wp Calls fr aE eOp
set_option maxHeartbeats 2000000 in
/-- What Inflate of the reference comes to. -/
theorem inflate_r (w : World) (dv xv : Value) (data dict : List Nat) (hA : Ag w dv data) (hby : ∀ x ∈ data, x < 256) (hlen : data.length ≤ 140737488355328) (hX : Ag w xv dict) (hol : dict.length + 130 * (8 * data.length - 0) ≤ 140737488355328) :
  Ret 11 [dv, xv] w fun v w' => ∃ (sa : Option Addr) (sc q : Nat) (z : List Nat) (st e' : Nat) (i3 : Int), v = .agg #[.slice sa (z.length - dict.length) sc, .int .i64 ((st : Nat) : Int), .int .i64 (((q + 7) / 8 : Nat) : Int), .int .i64 i3, .int .i64 ((8 * data.length - q : Nat) : Int)] ∧ RI (srcOf data) 0 dict dict.length q z st e' ∧ Ag w' (.slice sa (z.length - dict.length) sc) (z.drop dict.length) ∧ z.length - dict.length ≤ sc ∧ Kp [] w w' ∧ q ≤ 8 * data.length ∧ dict.length ≤ z.length := by
 obtain ⟨da, dc, rfl, _⟩ := id hA
 obtain ⟨xa, xc, rfl, _⟩ := id hX
 have kp := Kp.refl [] w
 refine calls_fr (N := 123) Tryd.func11 rfl rfl (by simp) rfl ?_
 refine sqr ?_
 refine Lal31 ?_
 intro D4 wa hD4e hD kp1 hsz1
 have hX := hX.kp kp1
 have kp := kp.trans kp1
 refine nt ?_
 refine sqr ?_
 refine L1 (mv (v := (.slice da data.length dc)) rfl) ?_
 refine L1 bs0 ?_
 have hkb := (Kp.refl [] wa).alloc (.cells #[] 5)
 have hS0 := sl0 wa
 have hD := hD.kp hkb (by simp)
 have hX := hX.kp hkb
 have kp := kp.trans hkb
 refine L1 (mv (v := (.slice xa dict.length xc)) rfl) ?_
 have hDl := hD.lt
 refine Lapg (v := .slice (some ⟨wa.heap.size, 0, none⟩) 0 0) rfl rfl hS0 hX (by simp; omega) ?_
 intro ov wb hS kp2 hown2
 rw [List.nil_append] at hS
 obtain ⟨oa, oc, rfl⟩ := hS.val
 have hov : ∀ k, (Value.slice oa dict.length oc).ownBlock = some k → k ≠ D4 ∧ w.heap.size ≤ k ∧ k < wb.heap.size := fun k hk => by
  have h1 := hS.lt hk
  rcases hown2 k hk with h | h
  ·have : wa.heap.size = k := by simpa [Value.ownBlock] using h
   omega
  ·simp at h; omega
 have hD := hD.kp kp2 (by simp [obk, Value.ownBlock]; omega)
 have kp := kp.transNew kp2 (by simp [obk, Value.ownBlock]; omega)
 refine L1 (mv (v := (.slice xa dict.length xc)) rfl) ?_
 refine L1 (ln und22 rfl) ?_
 refine L1 (mv (v := (.slice xa dict.length xc)) rfl) ?_
 refine L1 (ln und22 rfl) ?_
 refine L1 (bd53 rfl rfl rfl rfl) ?_
 refine L1 (bx53 rfl) ?_
 have hkb2 := (Kp.refl [] wb).alloc (.cells #[.slice da data.length dc, .int .i64 0, .slice oa dict.length oc, .int .i64 ((dict.length : Nat) : Int), .int .i64 0, .int .i64 ((dict.length : Nat) : Int)] 53)
 have hB : Bk (wb.alloc (.cells #[.slice da data.length dc, .int .i64 0, .slice oa dict.length oc, .int .i64 ((dict.length : Nat) : Int), .int .i64 0, .int .i64 ((dict.length : Nat) : Int)] 53)) wb.heap.size 6 53 (rx (.slice da data.length dc) 0 (.slice oa dict.length oc) dict.length 0 dict.length) := Bk.newOf wb _ 53 6 _ rfl
 obtain ⟨wc, hwc⟩ : ∃ z, wb.alloc (.cells #[.slice da data.length dc, .int .i64 0, .slice oa dict.length oc, .int .i64 ((dict.length : Nat) : Int), .int .i64 0, .int .i64 ((dict.length : Nat) : Int)] 53) = z := ⟨_, rfl⟩
 rw [hwc] at hkb2 hB ⊢
 have hsb := kp.size
 have hDl := hD.lt
 obtain ⟨X, hXe⟩ : ∃ z, wb.heap.size = z := ⟨_, rfl⟩
 rw [hXe] at hB hov hsb hDl ⊢
 have hS := hS.kp hkb2 (by simp)
 have hD := hD.kp hkb2 (by simp)
 have kp := kp.trans hkb2
 have hDw : w.heap.size ≤ D4 := by omega
 have hE : RE w (.slice da data.length dc) data X := ⟨hA, hby, hlen, hsb⟩
 have hov : ∀ k, (Value.slice oa dict.length oc).ownBlock = some k → k ≠ X ∧ w.heap.size ≤ k ∧ k ≠ D4 := fun k hk => by obtain ⟨h1, h2, h3⟩ := hov k hk; omega
 have hXD : X ≠ D4 := by omega
 have hN : (srcOf data).N = data.length := rfl
 refine L1 (asg (v := .pointer _) rfl) ?_
 refine nt ?_
 refine wp_seq ?_
 refine sqr ?_
 refine Ab rfl ?_
 refine nt ?_
 refine wp_block ?_
 refine loop_fr (fun k f w' => f 0 = .slice da data.length dc ∧ f 4 = .pointer (some ⟨D4, 0, none⟩) ∧ f 5 = .pointer (some ⟨X, 0, none⟩) ∧ ∃ (lb : Bool) (p1 st e1 : Nat) (v1 : Value) (o1 : List Nat), f 6 = .bool lb ∧ Bk w' D4 5 31 z31 ∧ Bk w' X 6 53 (rx (.slice da data.length dc) p1 v1 dict.length st e1) ∧ Kp [] w w' ∧ Sl w' v1 o1 ∧ (∀ k, v1.ownBlock = some k → k ≠ X ∧ w.heap.size ≤ k ∧ k ≠ D4) ∧ p1 ≤ 8 * data.length ∧ Pre dict o1 ∧ (dict.length ≤ e1 ∧ e1 ≤ o1.length) ∧ ((lb = false ∧ st = 0 ∧ k = 8 * data.length - p1 + 1 ∧ o1.length + 130 * (8 * data.length - p1) ≤ 140737488355328 ∧ ∀ q z s e', RI (srcOf data) p1 o1 e1 q z s e' → RI (srcOf data) 0 dict dict.length q z s e') ∨ ((lb = true ∨ st ≠ 0) ∧ k = 0 ∧ RI (srcOf data) 0 dict dict.length p1 o1 st e1))) (8 * data.length + 1) ⟨rfl, rfl, rfl, false, 0, 0, dict.length, _, dict, rfl, hD, hB, kp, hS, hov, Nat.zero_le _, Pre.refl _, ⟨Nat.le_refl _, Nat.le_refl _⟩, .inl ⟨rfl, rfl, rfl, hol, fun _ _ _ _ h => h⟩⟩ ?_
 clear hD hB kp hS hov kp1 kp2 hkb hkb2 hwc hS0 hown2 hX
 intro k f w1 HJ
 obtain ⟨s0, s4, s5, lb, p1, st, e1, v1, o1, s6, hD, hB, kp, hS, hov, hp1, hpre, he1, hcase⟩ := HJ
 refine slots (fc s0 (fc s4 (fc s5 (fc s6 fnil)))) ?_
 obtain ⟨va, vc, rfl⟩ := hS.val
 rcases hcase with ⟨rfl, rfl, rfl, hol1, hcont⟩ | ⟨hdead, rfl, hri⟩
 ·skip
  refine wp_seq ?_
  refine sqr ?_
  refine Mb rfl ?_
  refine L1 (un_not rfl) ?_
  refine L1 (mv (v := .bool true) rfl) ?_
  refine L1g (t := 24) (b := true) rfl (by decide) rfl (mv (v := .pointer _) rfl) ?_
  refine L1g (t := 24) (b := true) rfl (by decide) rfl (nilP rfl) ?_
  refine L1g (t := 24) (b := true) rfl (by decide) rfl (fa53_4 rfl) ?_
  refine L1g (t := 24) (b := true) rfl (by decide) rfl (ld3 rfl (hB.cellv (v := .int _ _) (by decide) rfl)) ?_
  refine L1g (t := 24) (b := true) rfl (by decide) rfl (bi rfl rfl (bn_eql (v := true) (decide_eq_true rfl))) ?_
  refine L1 (pk_t rfl rfl) ?_
  refine nt ?_
  refine cond_t rfl ?_
  refine skn ?_
  refine wp_block ?_
  refine sqr ?_
  refine Mp rfl ?_
  refine LC (cl2 has19 rfl rfl rfl) (bits_r2 hE ⟨hB, kp⟩ hp1 1 (by decide)) ?_
  rintro v w2 ⟨n1, pn1, sn1, rfl, kp2, hn1, hpn1, ⟨hB, kp⟩, hh1⟩
  have hS := hS.kp kp2 (fun b hb => by simp; exact (hov b hb).1)
  have hD := hD.kp kp2 (by simp; omega)
  clear kp2
  refine L1 (bi rfl rfl (bn_eql (v := decide (n1 = 1)) (decide_eq_decide.2 (by omega)))) ?_
  refine Ab rfl ?_
  refine nt ?_
  refine sqr ?_
  refine Mp rfl ?_
  refine LC (cl2 has19 rfl rfl rfl) (bits_r2 hE ⟨hB, kp⟩ hpn1 2 (by decide)) ?_
  rintro v w3 ⟨n2, pn2, sn2, rfl, kp2, hn2, hpn2, ⟨hB, kp⟩, hh2⟩
  have hS := hS.kp kp2 (fun b hb => by simp; exact (hov b hb).1)
  have hD := hD.kp kp2 (by simp; omega)
  clear kp2
  refine Ai rfl ?_
  refine wpList_nil ?_
  rcases head2 (S := srcOf data) hh1 hh2 with ⟨hg, rfl, rfl, hv1, hv2⟩ | ⟨hg, rfl, rfl⟩
  all_goals rw [hN] at hg
  ·skip
   have hov2 : ∀ k, (Value.slice va o1.length vc).ownBlock = some k → k ≠ X ∧ w.heap.size ≤ k := fun k hk => ⟨(hov k hk).1, (hov k hk).2.1⟩
   have hov3 : ∀ k, (Value.slice va o1.length vc).ownBlock = some k → k ≠ D4 := fun k hk => (hov k hk).2.2
   have hol3 : ∀ k, (Value.slice va o1.length vc).ownBlock = some k → k < w3.heap.size := fun k hk => hS.lt hk
   have hXl3 := hB.lt
   have hDl3 := hD.lt
   have hsw3 := kp.size
   by_cases hk0 : n2 = 0
   ·skip
    refine then_n ?_
    refine wp_seq ?_
    refine wp_block ?_
    refine sqr ?_
    refine Mp rfl ?_
    refine Np rfl ?_
    refine L1 (fa53_4 rfl) ?_
    refine L1 (ld3 rfl (hB.cellv (v := .int _ _) (by decide) rfl)) ?_
    refine L1 (bi rfl rfl (bn_neq (v := false) (decide_eq_true rfl))) ?_
    refine Ab rfl ?_
    refine nt ?_
    refine cond_f rfl ?_
    refine sqr ?_
    refine Mi rfl ?_
    refine L1 (bi rfl rfl (bn_eql (v := true) (decide_eq_true (by omega)))) ?_
    refine Ab rfl ?_
    refine nt ?_
    refine cond_t rfl ?_
    refine reg_lit ?_
    refine Mp rfl ?_
    refine LC (cl1 has20 rfl rfl) (stored_r hE ⟨hB, kp⟩ hg hS hov2 (by omega)) ?_
    rintro v w4 ⟨p2, st2, ov2, o2, ⟨hB, kp⟩, hO, hp2, hsr⟩
    obtain ⟨hD, hov⟩ := hO.keep hD (fun e => hXD e.symm) hov3
    have hS := hO.s
    have hbk : RBk (srcOf data) (bv (srcOf data).D p1 3 / 2) (p1 + 3) o1 p2 o2 st2 := by rw [← hv2]; exact .inl ⟨hk0, hsr⟩
    have hol2 : st2 = 0 → o2.length + 130 * (8 * data.length - p2) ≤ 140737488355328 := fun h0 => by subst h0; have := hsr.len; rw [hN] at this; omega
    refine wpList_nil ?_
    refine inb_n ?_
    refine then_n ?_
    refine sqr ?_
    refine Mp rfl ?_
    refine Np rfl ?_
    refine L1 (fa53_4 rfl) ?_
    refine L1 (ld3 rfl (hB.cellv (v := .int _ _) (by decide) rfl)) ?_
    refine L1 (bi rfl rfl (bn_eql (v := decide (st2 = 0)) (decide_eq_decide.2 (by omega)))) ?_
    refine nt ?_
    refine cond_d (p := st2 = 0) rfl (fun hs0 => ?_) (fun hs0 => ?_)
    ·skip
     have hge := hbk.ge hs0
     have hol4 := hol2 hs0
     clear hol2
     subst hs0
     obtain ⟨qa, qc, rfl⟩ := hS.val
     have hprl := hpre.len
     have hprb := hbk.pre.len
     refine reg_lit ?_
     refine Mp rfl ?_
     refine Mp rfl ?_
     refine Np rfl ?_
     refine L1 (fa53_2 rfl) ?_
     refine L1 (ld22 rfl (hB.cellv (v := (.slice qa o2.length qc)) (by decide) rfl)) ?_
     refine L1 (ln und22 rfl) ?_
     refine Np rfl ?_
     refine L1 (fa53_5 rfl) ?_
     refine Lst3 (v := .int .i64 ((o2.length : Nat) : Int)) rfl rfl rfl hB (by decide) ?_
     intro wx hB kpx
     have hB := hB.congr (fun k hk => rx_5 k hk)
     have kp := kp.transNew kpx (by simp; omega)
     have hS := hS.kp kpx (fun b hb => by simp; exact (hov b hb).1)
     have hD := hD.kp kpx (by simp; omega)
     clear kpx
     refine wpList_nil ?_
     refine inb_n ?_
     refine then_n ?_
     by_cases hl : n1 = 1
     ·exact ⟨0, _, by omega, rfl, rfl, rfl, rfl, true, p2, 0, o2.length, _, o2, congrArg Value.bool (decide_eq_true hl), hD, hB, kp, hS, hov, hp2, (hpre.trans hbk.pre), ⟨by omega, Nat.le_refl _⟩, .inr ⟨.inl rfl, rfl, hcont _ _ _ _ (RI.last hg hbk (by omega))⟩⟩
     ·exact ⟨8 * data.length - p2 + 1, _, by omega, rfl, rfl, rfl, rfl, false, p2, 0, o2.length, _, o2, congrArg Value.bool (decide_eq_false hl), hD, hB, kp, hS, hov, hp2, (hpre.trans hbk.pre), ⟨by omega, Nat.le_refl _⟩, .inl ⟨rfl, rfl, rfl, hol4, fun q z s e' h => hcont _ _ _ _ (RI.more hg hbk (by omega) h)⟩⟩
    ·skip
     have hprb := hbk.pre.len
     refine wp_skip ?_
     refine inb_n ?_
     refine then_n ?_
     exact ⟨0, _, by omega, rfl, rfl, rfl, rfl, decide (n1 = 1), p2, st2, e1, _, o2, rfl, hD, hB, kp, hS, hov, hp2, (hpre.trans hbk.pre), ⟨he1.1, by omega⟩, .inr ⟨.inr hs0, rfl, hcont _ _ _ _ (RI.fail hg hbk hs0)⟩⟩
   ·skip
    by_cases hk1 : n2 = 1
    ·skip
     refine then_n ?_
     refine wp_seq ?_
     refine wp_block ?_
     refine sqr ?_
     refine Mp rfl ?_
     refine Np rfl ?_
     refine L1 (fa53_4 rfl) ?_
     refine L1 (ld3 rfl (hB.cellv (v := .int _ _) (by decide) rfl)) ?_
     refine L1 (bi rfl rfl (bn_neq (v := false) (decide_eq_true rfl))) ?_
     refine Ab rfl ?_
     refine nt ?_
     refine cond_f rfl ?_
     refine sqr ?_
     refine Mi rfl ?_
     refine L1 (bi rfl rfl (bn_eql (v := false) (decide_eq_false (by omega)))) ?_
     refine Ab rfl ?_
     refine nt ?_
     refine cond_f rfl ?_
     refine sqr ?_
     refine Mi rfl ?_
     refine L1 (bi rfl rfl (bn_eql (v := true) (decide_eq_true (by omega)))) ?_
     refine Ab rfl ?_
     refine nt ?_
     refine cond_t rfl ?_
     refine sqr ?_
     refine LC (cl0 has21 rfl) (fixed_r _) ?_
     rintro v w4 ⟨l1, c1, s1, l2, c2, s2, B1, B2, rfl, hC1, hC2, hb1, hb2, kp4⟩
     have hB := hB.kp kp4 (by simp)
     have kp := kp.trans kp4
     have hS := hS.kp kp4 (by simp)
     have hD := hD.kp kp4 (by simp)
     obtain ⟨B1, hC1, hb1⟩ := hC1.low hb1
     obtain ⟨B2, hC2, hb2⟩ := hC2.low hb2
     have ho1 := hC1.one
     have ho2 := hC2.one
     have hbb1 : ∀ b ∈ B1, b ≠ X ∧ (Value.slice va o1.length vc).ownBlock ≠ some b := fun b hb => ⟨by have := (hb1 b hb).1; omega, fun e => by have := (hb1 b hb).1; have := hol3 b e; omega⟩
     have hbb2 : ∀ b ∈ B2, b ≠ X ∧ (Value.slice va o1.length vc).ownBlock ≠ some b := fun b hb => ⟨by have := (hb2 b hb).1; omega, fun e => by have := (hb2 b hb).1; have := hol3 b e; omega⟩
     refine L1 (mv (v := .tuple _) rfl) ?_
     refine L1 (ext2_0 rfl) ?_
     refine L1 (ext2_1 rfl) ?_
     have hs5 : w3.heap.size ≤ w4.heap.size := kp4.size
     refine Lal56 ?_
     intro D8 w5 hD8e hD8 kp5 hsz8
     have hB := hB.kp kp5 (by simp)
     have kp := kp.trans kp5
     have hS := hS.kp kp5 (by simp)
     have hD := hD.kp kp5 (by simp)
     have hC1 := hC1.kp kp5 (by simp)
     have hC2 := hC2.kp kp5 (by simp)
     clear kp5
     refine Lal56 ?_
     intro D9 w6 hD9e hD9 kp5 hsz9
     have hB := hB.kp kp5 (by simp)
     have kp := kp.trans kp5
     have hS := hS.kp kp5 (by simp)
     have hD := hD.kp kp5 (by simp)
     have hD8 := hD8.kp kp5 (by simp)
     have hC1 := hC1.kp kp5 (by simp)
     have hC2 := hC2.kp kp5 (by simp)
     clear kp5
     refine Lst56 rfl rfl ho1 hD8 ?_
     intro w7a hD8 kp7 _
     have hB := hB.kp kp7 (by simp; omega)
     have kp := kp.transNew kp7 (by simp; omega)
     have hS := hS.kp kp7 (fun b hb => by have := hol3 b hb; simp; omega)
     have hD := hD.kp kp7 (by simp; omega)
     have hD9 := hD9.kp kp7 (by simp; omega)
     have hC1 := hC1.kp kp7 (fun b hb => by have := (hb1 b hb).2; simp; omega)
     have hC2 := hC2.kp kp7 (fun b hb => by have := (hb2 b hb).2; simp; omega)
     clear kp7
     refine Lst56 rfl rfl ho2 hD9 ?_
     intro w7 hD9 kp7 _
     have hB := hB.kp kp7 (by simp; omega)
     have kp := kp.transNew kp7 (by simp; omega)
     have hS := hS.kp kp7 (fun b hb => by have := hol3 b hb; simp; omega)
     have hD := hD.kp kp7 (by simp; omega)
     have hD8 := hD8.kp kp7 (by simp; omega)
     have hC1 := hC1.kp kp7 (fun b hb => by have := (hb1 b hb).2; simp; omega)
     have hC2 := hC2.kp kp7 (fun b hb => by have := (hb2 b hb).2; simp; omega)
     clear kp7
     refine nt ?_
     refine reg_lit ?_
     refine Mp rfl ?_
     refine L1 (ld56 rfl hD8 (by decide) rfl rfl rfl) ?_
     refine L1 (ld56 rfl hD9 (by decide) rfl rfl rfl) ?_
     refine LC (cl3 has22 rfl rfl rfl rfl) (block_r hE ⟨hB, kp⟩ hg hS hov2 (by omega) hC1 hC2 hbb1 hbb2 (.inr fix_kraft) (.inr kraft32) (by rw [fix_len]; decide) (by decide)) ?_
     rintro v w8 ⟨p2, st2, ov2, o2, ⟨hB, kp⟩, hO, hp2, hrh, hol2⟩
     obtain ⟨hD, hov⟩ := hO.keep hD (fun e => hXD e.symm) hov3
     have hS := hO.s
     have hbk : RBk (srcOf data) (bv (srcOf data).D p1 3 / 2) (p1 + 3) o1 p2 o2 st2 := by rw [← hv2]; exact .inr (.inl ⟨hk1, hrh⟩)
     have hol2 : st2 = 0 → o2.length + 130 * (8 * data.length - p2) ≤ 140737488355328 := fun _ => hol2
     refine wpList_nil ?_
     refine inb_n ?_
     refine then_n ?_
     refine sqr ?_
     refine Mp rfl ?_
     refine Np rfl ?_
     refine L1 (fa53_4 rfl) ?_
     refine L1 (ld3 rfl (hB.cellv (v := .int _ _) (by decide) rfl)) ?_
     refine L1 (bi rfl rfl (bn_eql (v := decide (st2 = 0)) (decide_eq_decide.2 (by omega)))) ?_
     refine nt ?_
     refine cond_d (p := st2 = 0) rfl (fun hs0 => ?_) (fun hs0 => ?_)
     ·skip
      have hge := hbk.ge hs0
      have hol4 := hol2 hs0
      clear hol2
      subst hs0
      obtain ⟨qa, qc, rfl⟩ := hS.val
      have hprl := hpre.len
      have hprb := hbk.pre.len
      refine reg_lit ?_
      refine Mp rfl ?_
      refine Mp rfl ?_
      refine Np rfl ?_
      refine L1 (fa53_2 rfl) ?_
      refine L1 (ld22 rfl (hB.cellv (v := (.slice qa o2.length qc)) (by decide) rfl)) ?_
      refine L1 (ln und22 rfl) ?_
      refine Np rfl ?_
      refine L1 (fa53_5 rfl) ?_
      refine Lst3 (v := .int .i64 ((o2.length : Nat) : Int)) rfl rfl rfl hB (by decide) ?_
      intro wx hB kpx
      have hB := hB.congr (fun k hk => rx_5 k hk)
      have kp := kp.transNew kpx (by simp; omega)
      have hS := hS.kp kpx (fun b hb => by simp; exact (hov b hb).1)
      have hD := hD.kp kpx (by simp; omega)
      clear kpx
      refine wpList_nil ?_
      refine inb_n ?_
      refine then_n ?_
      by_cases hl : n1 = 1
      ·exact ⟨0, _, by omega, rfl, rfl, rfl, rfl, true, p2, 0, o2.length, _, o2, congrArg Value.bool (decide_eq_true hl), hD, hB, kp, hS, hov, hp2, (hpre.trans hbk.pre), ⟨by omega, Nat.le_refl _⟩, .inr ⟨.inl rfl, rfl, hcont _ _ _ _ (RI.last hg hbk (by omega))⟩⟩
      ·exact ⟨8 * data.length - p2 + 1, _, by omega, rfl, rfl, rfl, rfl, false, p2, 0, o2.length, _, o2, congrArg Value.bool (decide_eq_false hl), hD, hB, kp, hS, hov, hp2, (hpre.trans hbk.pre), ⟨by omega, Nat.le_refl _⟩, .inl ⟨rfl, rfl, rfl, hol4, fun q z s e' h => hcont _ _ _ _ (RI.more hg hbk (by omega) h)⟩⟩
     ·skip
      have hprb := hbk.pre.len
      refine wp_skip ?_
      refine inb_n ?_
      refine then_n ?_
      exact ⟨0, _, by omega, rfl, rfl, rfl, rfl, decide (n1 = 1), p2, st2, e1, _, o2, rfl, hD, hB, kp, hS, hov, hp2, (hpre.trans hbk.pre), ⟨he1.1, by omega⟩, .inr ⟨.inr hs0, rfl, hcont _ _ _ _ (RI.fail hg hbk hs0)⟩⟩
    ·skip
     by_cases hk2 : n2 = 2
     ·skip
      refine then_n ?_
      refine wp_seq ?_
      refine wp_block ?_
      refine sqr ?_
      refine Mp rfl ?_
      refine Np rfl ?_
      refine L1 (fa53_4 rfl) ?_
      refine L1 (ld3 rfl (hB.cellv (v := .int _ _) (by decide) rfl)) ?_
      refine L1 (bi rfl rfl (bn_neq (v := false) (decide_eq_true rfl))) ?_
      refine Ab rfl ?_
      refine nt ?_
      refine cond_f rfl ?_
      refine sqr ?_
      refine Mi rfl ?_
      refine L1 (bi rfl rfl (bn_eql (v := false) (decide_eq_false (by omega)))) ?_
      refine Ab rfl ?_
      refine nt ?_
      refine cond_f rfl ?_
      refine sqr ?_
      refine Mi rfl ?_
      refine L1 (bi rfl rfl (bn_eql (v := false) (decide_eq_false (by omega)))) ?_
      refine Ab rfl ?_
      refine nt ?_
      refine cond_f rfl ?_
      refine sqr ?_
      refine Mi rfl ?_
      refine L1 (bi rfl rfl (bn_eql (v := true) (decide_eq_true (by omega)))) ?_
      refine Ab rfl ?_
      refine nt ?_
      refine cond_t rfl ?_
      refine sqr ?_
      refine Mp rfl ?_
      refine LC (cl1 has23 rfl rfl) (dyn_r hE ⟨hB, kp⟩ hg (can (p1 + 3)) rfl) ?_
      rintro v w4 ⟨kp4, l1, c1, s1, l2, c2, s2, pd, std, rfl, ho1, ho2, ⟨hB, kp⟩, hpd, hdyn⟩
      have hS := hS.kp kp4 (fun b hb => by simp; exact (hov b hb).1)
      have hD := hD.kp kp4 (by simp; omega)
      have hs4 := kp4.size
      clear kp4
      refine L1 (mv (v := .tuple _) rfl) ?_
      refine L1 (ext2_0 rfl) ?_
      refine L1 (ext2_1 rfl) ?_
      have hs5 : w3.heap.size ≤ w4.heap.size := hs4
      have kpc := Kp.refl [] w4
      refine Lal56 ?_
      intro D10 w5 hD10e hD10 kp5 hsz10
      have hB := hB.kp kp5 (by simp)
      have kp := kp.trans kp5
      have hS := hS.kp kp5 (by simp)
      have hD := hD.kp kp5 (by simp)
      have kpc := kpc.trans kp5
      clear kp5
      refine Lal56 ?_
      intro D11 w6 hD11e hD11 kp5 hsz11
      have hB := hB.kp kp5 (by simp)
      have kp := kp.trans kp5
      have hS := hS.kp kp5 (by simp)
      have hD := hD.kp kp5 (by simp)
      have hD10 := hD10.kp kp5 (by simp)
      have kpc := kpc.trans kp5
      clear kp5
      refine Lst56 rfl rfl ho1 hD10 ?_
      intro w7a hD10 kp7 _
      have hB := hB.kp kp7 (by simp; omega)
      have kp := kp.transNew kp7 (by simp; omega)
      have hS := hS.kp kp7 (fun b hb => by have := hol3 b hb; simp; omega)
      have hD := hD.kp kp7 (by simp; omega)
      have hD11 := hD11.kp kp7 (by simp; omega)
      have kpc := kpc.transNew kp7 (by simp; omega)
      clear kp7
      refine Lst56 rfl rfl ho2 hD11 ?_
      intro w7 hD11 kp7 _
      have hB := hB.kp kp7 (by simp; omega)
      have kp := kp.transNew kp7 (by simp; omega)
      have hS := hS.kp kp7 (fun b hb => by have := hol3 b hb; simp; omega)
      have hD := hD.kp kp7 (by simp; omega)
      have hD10 := hD10.kp kp7 (by simp; omega)
      have kpc := kpc.transNew kp7 (by simp; omega)
      clear kp7
      refine wpList_nil ?_
      rcases hdyn with ⟨hstd, hdn⟩ | ⟨rfl, lit, dist, B1, B2, hC1, hC2, hb1, hb2, hdok⟩
      ·skip
       refine then_n ?_
       refine reg_lit ?_
       refine Mp rfl ?_
       refine L1 (ld56 rfl hD10 (by decide) rfl rfl rfl) ?_
       refine L1 (ld56 rfl hD11 (by decide) rfl rfl rfl) ?_
       refine LC (cl3 has22 rfl rfl rfl rfl) (block_s hB hstd l1 c1 s1 l2 c2 s2) ?_
       rintro v w8 ⟨kp8, hBk⟩
       have kp := kp.trans kp8
       have hS := hS.kp kp8 (by simp)
       have hD := hD.kp kp8 (by simp)
       have hB := hBk
       have hbk : RBk (srcOf data) (bv (srcOf data).D p1 3 / 2) (p1 + 3) o1 pd o1 std := by rw [← hv2]; exact .inr (.inr (.inl ⟨hk2, .inl ⟨hstd, rfl, hdn⟩⟩))
       have hol2 : std = 0 → o1.length + 130 * (8 * data.length - pd) ≤ 140737488355328 := fun h0 => absurd h0 hstd
       refine wpList_nil ?_
       refine inb_n ?_
       refine then_n ?_
       refine sqr ?_
       refine Mp rfl ?_
       refine Np rfl ?_
       refine L1 (fa53_4 rfl) ?_
       refine L1 (ld3 rfl (hB.cellv (v := .int _ _) (by decide) rfl)) ?_
       refine L1 (bi rfl rfl (bn_eql (v := decide (std = 0)) (decide_eq_decide.2 (by omega)))) ?_
       refine nt ?_
       refine cond_d (p := std = 0) rfl (fun hs0 => ?_) (fun hs0 => ?_)
       ·skip
        exact absurd hs0 hstd
       ·skip
        have hprb := hbk.pre.len
        refine wp_skip ?_
        refine inb_n ?_
        refine then_n ?_
        exact ⟨0, _, by omega, rfl, rfl, rfl, rfl, decide (n1 = 1), pd, std, e1, _, o1, rfl, hD, hB, kp, hS, hov, hpd, (hpre.trans hbk.pre), ⟨he1.1, by omega⟩, .inr ⟨.inr hs0, rfl, hcont _ _ _ _ (RI.fail hg hbk hs0)⟩⟩
      ·skip
       obtain ⟨B1, hC1, hb1⟩ := hC1.low hb1
       obtain ⟨B2, hC2, hb2⟩ := hC2.low hb2
       have hbb1 : ∀ b ∈ B1, b ≠ X ∧ (Value.slice va o1.length vc).ownBlock ≠ some b := fun b hb => ⟨by have := (hb1 b hb).1; omega, fun e => by have := (hb1 b hb).1; have := hol3 b e; omega⟩
       have hbb2 : ∀ b ∈ B2, b ≠ X ∧ (Value.slice va o1.length vc).ownBlock ≠ some b := fun b hb => ⟨by have := (hb2 b hb).1; omega, fun e => by have := (hb2 b hb).1; have := hol3 b e; omega⟩
       have hC1 := hC1.kp kpc (by simp)
       have hC2 := hC2.kp kpc (by simp)
       obtain ⟨pos', hmd, _, h256, hkf, hl15, hl286, hd30, hd15, hRd, hokd, hge⟩ := id hdok
       refine then_n ?_
       refine reg_lit ?_
       refine Mp rfl ?_
       refine L1 (ld56 rfl hD10 (by decide) rfl rfl rfl) ?_
       refine L1 (ld56 rfl hD11 (by decide) rfl rfl rfl) ?_
       refine LC (cl3 has22 rfl rfl rfl rfl) (block_r hE ⟨hB, kp⟩ hpd hS hov2 (by have e : (can (p1 + 3)).p = p1 + 3 := rfl; omega) hC1 hC2 hbb1 hbb2 (.inr (full_kraft (mx_le15 (getD_15 hl15)) hkf)) hRd (by omega) (by omega)) ?_
       rintro v w8 ⟨p2, st2, ov2, o2, ⟨hB, kp⟩, hO, hp2, hrh, hol2⟩
       obtain ⟨hD, hov⟩ := hO.keep hD (fun e => hXD e.symm) hov3
       have hS := hO.s
       have hbk : RBk (srcOf data) (bv (srcOf data).D p1 3 / 2) (p1 + 3) o1 p2 o2 st2 := by rw [← hv2]; exact .inr (.inr (.inl ⟨hk2, .inr ⟨lit, dist, pd, hdok, hrh⟩⟩))
       have hol2 : st2 = 0 → o2.length + 130 * (8 * data.length - p2) ≤ 140737488355328 := fun _ => hol2
       refine wpList_nil ?_
       refine inb_n ?_
       refine then_n ?_
       refine sqr ?_
       refine Mp rfl ?_
       refine Np rfl ?_
       refine L1 (fa53_4 rfl) ?_
       refine L1 (ld3 rfl (hB.cellv (v := .int _ _) (by decide) rfl)) ?_
       refine L1 (bi rfl rfl (bn_eql (v := decide (st2 = 0)) (decide_eq_decide.2 (by omega)))) ?_
       refine nt ?_
       refine cond_d (p := st2 = 0) rfl (fun hs0 => ?_) (fun hs0 => ?_)
       ·skip
        have hge := hbk.ge hs0
        have hol4 := hol2 hs0
        clear hol2
        subst hs0
        obtain ⟨qa, qc, rfl⟩ := hS.val
        have hprl := hpre.len
        have hprb := hbk.pre.len
        refine reg_lit ?_
        refine Mp rfl ?_
        refine Mp rfl ?_
        refine Np rfl ?_
        refine L1 (fa53_2 rfl) ?_
        refine L1 (ld22 rfl (hB.cellv (v := (.slice qa o2.length qc)) (by decide) rfl)) ?_
        refine L1 (ln und22 rfl) ?_
        refine Np rfl ?_
        refine L1 (fa53_5 rfl) ?_
        refine Lst3 (v := .int .i64 ((o2.length : Nat) : Int)) rfl rfl rfl hB (by decide) ?_
        intro wx hB kpx
        have hB := hB.congr (fun k hk => rx_5 k hk)
        have kp := kp.transNew kpx (by simp; omega)
        have hS := hS.kp kpx (fun b hb => by simp; exact (hov b hb).1)
        have hD := hD.kp kpx (by simp; omega)
        clear kpx
        refine wpList_nil ?_
        refine inb_n ?_
        refine then_n ?_
        by_cases hl : n1 = 1
        ·exact ⟨0, _, by omega, rfl, rfl, rfl, rfl, true, p2, 0, o2.length, _, o2, congrArg Value.bool (decide_eq_true hl), hD, hB, kp, hS, hov, hp2, (hpre.trans hbk.pre), ⟨by omega, Nat.le_refl _⟩, .inr ⟨.inl rfl, rfl, hcont _ _ _ _ (RI.last hg hbk (by omega))⟩⟩
        ·exact ⟨8 * data.length - p2 + 1, _, by omega, rfl, rfl, rfl, rfl, false, p2, 0, o2.length, _, o2, congrArg Value.bool (decide_eq_false hl), hD, hB, kp, hS, hov, hp2, (hpre.trans hbk.pre), ⟨by omega, Nat.le_refl _⟩, .inl ⟨rfl, rfl, rfl, hol4, fun q z s e' h => hcont _ _ _ _ (RI.more hg hbk (by omega) h)⟩⟩
       ·skip
        have hprb := hbk.pre.len
        refine wp_skip ?_
        refine inb_n ?_
        refine then_n ?_
        exact ⟨0, _, by omega, rfl, rfl, rfl, rfl, decide (n1 = 1), p2, st2, e1, _, o2, rfl, hD, hB, kp, hS, hov, hp2, (hpre.trans hbk.pre), ⟨he1.1, by omega⟩, .inr ⟨.inr hs0, rfl, hcont _ _ _ _ (RI.fail hg hbk hs0)⟩⟩
     ·skip
      refine then_n ?_
      refine wp_seq ?_
      refine wp_block ?_
      refine sqr ?_
      refine Mp rfl ?_
      refine Np rfl ?_
      refine L1 (fa53_4 rfl) ?_
      refine L1 (ld3 rfl (hB.cellv (v := .int _ _) (by decide) rfl)) ?_
      refine L1 (bi rfl rfl (bn_neq (v := false) (decide_eq_true rfl))) ?_
      refine Ab rfl ?_
      refine nt ?_
      refine cond_f rfl ?_
      refine sqr ?_
      refine Mi rfl ?_
      refine L1 (bi rfl rfl (bn_eql (v := false) (decide_eq_false (by omega)))) ?_
      refine Ab rfl ?_
      refine nt ?_
      refine cond_f rfl ?_
      refine sqr ?_
      refine Mi rfl ?_
      refine L1 (bi rfl rfl (bn_eql (v := false) (decide_eq_false (by omega)))) ?_
      refine Ab rfl ?_
      refine nt ?_
      refine cond_f rfl ?_
      refine sqr ?_
      refine Mi rfl ?_
      refine L1 (bi rfl rfl (bn_eql (v := false) (decide_eq_false (by omega)))) ?_
      refine Ab rfl ?_
      refine nt ?_
      refine cond_f rfl ?_
      refine reg_lit ?_
      refine Mp rfl ?_
      refine Np rfl ?_
      refine L1 (fa53_4 rfl) ?_
      refine Lst3 (v := .int .i64 ((1 : Nat) : Int)) rfl rfl rfl hB (by decide) ?_
      intro wx hB kpx
      have hB := hB.congr (fun k _ => rx_4 k)
      have kp := kp.transNew kpx (by simp; omega)
      have hS := hS.kp kpx (fun b hb => by simp; exact (hov b hb).1)
      have hD := hD.kp kpx (by simp; omega)
      clear kpx
      refine wpList_nil ?_
      have hbk : RBk (srcOf data) (bv (srcOf data).D p1 3 / 2) (p1 + 3) o1 (p1 + 3) o1 1 := by rw [← hv2]; exact .inr (.inr (.inr ⟨by omega, rfl, rfl, rfl⟩))
      have hol2 : 1 = 0 → o1.length + 130 * (8 * data.length - (p1 + 3)) ≤ 140737488355328 := fun h0 => by cases h0
      refine inb_n ?_
      refine then_n ?_
      refine sqr ?_
      refine Mp rfl ?_
      refine Np rfl ?_
      refine L1 (fa53_4 rfl) ?_
      refine L1 (ld3 rfl (hB.cellv (v := .int _ _) (by decide) rfl)) ?_
      refine L1 (bi rfl rfl (bn_eql (v := decide (1 = 0)) (decide_eq_decide.2 (by omega)))) ?_
      refine nt ?_
      refine cond_d (p := 1 = 0) rfl (fun hs0 => ?_) (fun hs0 => ?_)
      ·skip
       have hge := hbk.ge hs0
       have hol4 := hol2 hs0
       clear hol2
       cases hs0
      ·skip
       have hprb := hbk.pre.len
       refine wp_skip ?_
       refine inb_n ?_
       refine then_n ?_
       exact ⟨0, _, by omega, rfl, rfl, rfl, rfl, decide (n1 = 1), (p1 + 3), 1, e1, _, o1, rfl, hD, hB, kp, hS, hov, hg, (hpre.trans hbk.pre), ⟨he1.1, by omega⟩, .inr ⟨.inr hs0, rfl, hcont _ _ _ _ (RI.fail hg hbk hs0)⟩⟩
  ·skip
   refine then_n ?_
   refine wp_seq ?_
   refine wp_block ?_
   refine sqr ?_
   refine Mp rfl ?_
   refine Np rfl ?_
   refine L1 (fa53_4 rfl) ?_
   refine L1 (ld3 rfl (hB.cellv (v := .int _ _) (by decide) rfl)) ?_
   refine L1 (bi rfl rfl (bn_neq (v := true) (decide_eq_false (by decide)))) ?_
   refine Ab rfl ?_
   refine nt ?_
   refine cond_t rfl ?_
   refine wp_skip ?_
   refine inb_n ?_
   refine then_n ?_
   refine sqr ?_
   refine Mp rfl ?_
   refine Np rfl ?_
   refine L1 (fa53_4 rfl) ?_
   refine L1 (ld3 rfl (hB.cellv (v := .int _ _) (by decide) rfl)) ?_
   refine L1 (bi rfl rfl (bn_eql (v := false) (decide_eq_false (by decide)))) ?_
   refine nt ?_
   refine cond_f rfl ?_
   refine wp_skip ?_
   refine inb_n ?_
   refine then_n ?_
   exact ⟨0, _, by omega, rfl, rfl, rfl, rfl, decide (n1 = 1), _, 2, e1, _, o1, rfl, hD, hB, kp, hS, hov, Nat.le_refl _, hpre, he1, .inr ⟨.inr (by decide), rfl, hcont _ _ _ _ (RI.short (by rw [hN]; exact hg))⟩⟩
 ·skip
  by_cases hlb : lb = true
  ·skip
   subst hlb
   have hpl := hpre.len
   have hmx : o1.length ≤ 9223372036854775807 := by
    rcases id hS with ⟨_, h⟩ | ⟨_, cap, _, _, _, h1, h2, _⟩
    ·rw [h]; simp
    ·exact Nat.le_trans h1 (Nat.le_trans h2 (by unfold maxLen; decide))
   refine wp_seq ?_
   refine sqr ?_
   refine Mb rfl ?_
   refine L1 (un_not rfl) ?_
   refine L1 (mv (v := .bool false) rfl) ?_
   refine Lskip (t := 24) (b := true) rfl (by decide) rfl ?_
   refine Lskip (t := 24) (b := true) rfl (by decide) rfl ?_
   refine Lskip (t := 24) (b := true) rfl (by decide) rfl ?_
   refine Lskip (t := 24) (b := true) rfl (by decide) rfl ?_
   refine Lskip (t := 24) (b := true) rfl (by decide) rfl ?_
   refine L1 (pk_f rfl rfl) ?_
   refine nt ?_
   refine cond_f rfl ?_
   refine wp_exit ?_
   refine then_e ?_
   refine then_e ?_
   refine inb_same ?_
   refine then_n ?_
   refine wp_seq ?_
   refine reg_tail 37 mixed (by kernel_rfl) ?_
   have hB := hB.drew
   have kp := kp.drew
   have hS := hS.kp ((Kp.refl [] _).drew) (by simp)
   have hD := hD.drew
   refine S1 (mv (v := .pointer _) rfl) ?_
   refine S1 (nilP rfl) ?_
   refine S1 (fa53_2 rfl) ?_
   refine S1 (ld22 rfl (hB.cellv (v := (.slice va o1.length vc)) (by decide) rfl)) ?_
   refine S1 (mv (v := .pointer _) rfl) ?_
   refine S1 (nilP rfl) ?_
   refine S1 (fa53_3 rfl) ?_
   refine S1 (ld3 rfl (hB.cellv (v := .int _ _) (by decide) rfl)) ?_
   refine S1 (sl_l und22 sz5 rfl rfl rfl (by omega)) ?_
   refine S1 (mv (v := .pointer _) rfl) ?_
   refine S1 (nilP rfl) ?_
   refine S1 (fa53_4 rfl) ?_
   refine S1 (ld3 rfl (hB.cellv (v := .int _ _) (by decide) rfl)) ?_
   refine S1 (mv (v := .pointer _) rfl) ?_
   refine S1 (nilP rfl) ?_
   refine S1 (fa53_1 rfl) ?_
   refine S1 (ld3 rfl (hB.cellv (v := .int _ _) (by decide) rfl)) ?_
   refine S1 (bi rfl rfl (bn_add (c := ((p1 + 7 : Nat) : Int)) (by omega) (by omega) (by omega))) ?_
   refine S1 (bi rfl rfl (bn_quo (x := p1 + 7) (m := 8) rfl rfl (by decide) (by omega))) ?_
   refine S1 (mv (v := .pointer _) rfl) ?_
   refine S1 (nilP rfl) ?_
   refine S1 (fa53_5 rfl) ?_
   refine S1 (ld3 rfl (hB.cellv (v := .int _ _) (by decide) rfl)) ?_
   refine S1 (mv (v := .pointer _) rfl) ?_
   refine S1 (nilP rfl) ?_
   refine S1 (fa53_3 rfl) ?_
   refine S1 (ld3 rfl (hB.cellv (v := .int _ _) (by decide) rfl)) ?_
   refine S1 (bi rfl rfl (bn_sub (c := ((e1 - dict.length : Nat) : Int)) (by omega) (by omega) (by omega))) ?_
   refine S1 (mv (v := (.slice da data.length dc)) rfl) ?_
   refine S1 (ln und22 rfl) ?_
   refine S1 (bi rfl rfl (bn_mul (c := ((8 * data.length : Nat) : Int)) (by omega) (by omega) (by omega))) ?_
   refine S1 (mv (v := .pointer _) rfl) ?_
   refine S1 (nilP rfl) ?_
   refine S1 (fa53_1 rfl) ?_
   refine S1 (ld3 rfl (hB.cellv (v := .int _ _) (by decide) rfl)) ?_
   refine S1 (bi rfl rfl (bn_sub (c := ((8 * data.length - p1 : Nat) : Int)) (by omega) (by omega) (by omega))) ?_
   refine S1 (bd31 rfl rfl rfl rfl rfl) ?_
   refine still_nil ?_
   refine Lst31 rfl rfl ⟨rfl, rfl, rfl, rfl, rfl⟩ hD ?_
   intro w9 hD kp9 _
   have hS := hS.kp kp9 (fun b hb => by simp; exact (hov b hb).2.2)
   have kp := kp.transNew kp9 (by simp; omega)
   refine nt ?_
   refine wp_ret ?_
   refine retc (vs := [.slice (cutA va dict.length vc) (o1.length - dict.length) (vc - dict.length), .int .i64 ((st : Nat) : Int), .int .i64 (((p1 + 7) / 8 : Nat) : Int), .int .i64 ((e1 - dict.length : Nat) : Int), .int .i64 ((8 * data.length - p1 : Nat) : Int)]) rfl rfl (ag31 _) (sz31 _) rfl hD (fun j hj => c31_get j hj) ?_
   obtain ⟨da2, dc2, hde, hdc, hAg⟩ := hS.dropAg hpl
   cases hde
   exact ⟨_, rfl, _, _, p1, o1, st, e1, _, rfl, hri, hAg, by omega, kp, hp1, hpl⟩
  ·skip
   have hst : st ≠ 0 := hdead.resolve_left hlb
   obtain rfl : lb = false := by cases lb; rfl; exact absurd rfl hlb
   have hpl := hpre.len
   have hmx : o1.length ≤ 9223372036854775807 := by
    rcases id hS with ⟨_, h⟩ | ⟨_, cap, _, _, _, h1, h2, _⟩
    ·rw [h]; simp
    ·exact Nat.le_trans h1 (Nat.le_trans h2 (by unfold maxLen; decide))
   refine wp_seq ?_
   refine sqr ?_
   refine Mb rfl ?_
   refine L1 (un_not rfl) ?_
   refine L1 (mv (v := .bool true) rfl) ?_
   refine L1g (t := 24) (b := true) rfl (by decide) rfl (mv (v := .pointer _) rfl) ?_
   refine L1g (t := 24) (b := true) rfl (by decide) rfl (nilP rfl) ?_
   refine L1g (t := 24) (b := true) rfl (by decide) rfl (fa53_4 rfl) ?_
   refine L1g (t := 24) (b := true) rfl (by decide) rfl (ld3 rfl (hB.cellv (v := .int _ _) (by decide) rfl)) ?_
   refine L1g (t := 24) (b := true) rfl (by decide) rfl (bi rfl rfl (bn_eql (v := false) (decide_eq_false (by omega)))) ?_
   refine L1 (pk_t rfl rfl) ?_
   refine nt ?_
   refine cond_f rfl ?_
   refine wp_exit ?_
   refine then_e ?_
   refine then_e ?_
   refine inb_same ?_
   refine then_n ?_
   refine wp_seq ?_
   refine reg_tail 37 mixed (by kernel_rfl) ?_
   have hB := hB.drew
   have kp := kp.drew
   have hS := hS.kp ((Kp.refl [] _).drew) (by simp)
   have hD := hD.drew
   refine S1 (mv (v := .pointer _) rfl) ?_
   refine S1 (nilP rfl) ?_
   refine S1 (fa53_2 rfl) ?_
   refine S1 (ld22 rfl (hB.cellv (v := (.slice va o1.length vc)) (by decide) rfl)) ?_
   refine S1 (mv (v := .pointer _) rfl) ?_
   refine S1 (nilP rfl) ?_
   refine S1 (fa53_3 rfl) ?_
   refine S1 (ld3 rfl (hB.cellv (v := .int _ _) (by decide) rfl)) ?_
   refine S1 (sl_l und22 sz5 rfl rfl rfl (by omega)) ?_
   refine S1 (mv (v := .pointer _) rfl) ?_
   refine S1 (nilP rfl) ?_
   refine S1 (fa53_4 rfl) ?_
   refine S1 (ld3 rfl (hB.cellv (v := .int _ _) (by decide) rfl)) ?_
   refine S1 (mv (v := .pointer _) rfl) ?_
   refine S1 (nilP rfl) ?_
   refine S1 (fa53_1 rfl) ?_
   refine S1 (ld3 rfl (hB.cellv (v := .int _ _) (by decide) rfl)) ?_
   refine S1 (bi rfl rfl (bn_add (c := ((p1 + 7 : Nat) : Int)) (by omega) (by omega) (by omega))) ?_
   refine S1 (bi rfl rfl (bn_quo (x := p1 + 7) (m := 8) rfl rfl (by decide) (by omega))) ?_
   refine S1 (mv (v := .pointer _) rfl) ?_
   refine S1 (nilP rfl) ?_
   refine S1 (fa53_5 rfl) ?_
   refine S1 (ld3 rfl (hB.cellv (v := .int _ _) (by decide) rfl)) ?_
   refine S1 (mv (v := .pointer _) rfl) ?_
   refine S1 (nilP rfl) ?_
   refine S1 (fa53_3 rfl) ?_
   refine S1 (ld3 rfl (hB.cellv (v := .int _ _) (by decide) rfl)) ?_
   refine S1 (bi rfl rfl (bn_sub (c := ((e1 - dict.length : Nat) : Int)) (by omega) (by omega) (by omega))) ?_
   refine S1 (mv (v := (.slice da data.length dc)) rfl) ?_
   refine S1 (ln und22 rfl) ?_
   refine S1 (bi rfl rfl (bn_mul (c := ((8 * data.length : Nat) : Int)) (by omega) (by omega) (by omega))) ?_
   refine S1 (mv (v := .pointer _) rfl) ?_
   refine S1 (nilP rfl) ?_
   refine S1 (fa53_1 rfl) ?_
   refine S1 (ld3 rfl (hB.cellv (v := .int _ _) (by decide) rfl)) ?_
   refine S1 (bi rfl rfl (bn_sub (c := ((8 * data.length - p1 : Nat) : Int)) (by omega) (by omega) (by omega))) ?_
   refine S1 (bd31 rfl rfl rfl rfl rfl) ?_
   refine still_nil ?_
   refine Lst31 rfl rfl ⟨rfl, rfl, rfl, rfl, rfl⟩ hD ?_
   intro w9 hD kp9 _
   have hS := hS.kp kp9 (fun b hb => by simp; exact (hov b hb).2.2)
   have kp := kp.transNew kp9 (by simp; omega)
   refine nt ?_
   refine wp_ret ?_
   refine retc (vs := [.slice (cutA va dict.length vc) (o1.length - dict.length) (vc - dict.length), .int .i64 ((st : Nat) : Int), .int .i64 (((p1 + 7) / 8 : Nat) : Int), .int .i64 ((e1 - dict.length : Nat) : Int), .int .i64 ((8 * data.length - p1 : Nat) : Int)]) rfl rfl (ag31 _) (sz31 _) rfl hD (fun j hj => c31_get j hj) ?_
   obtain ⟨da2, dc2, hde, hdc, hAg⟩ := hS.dropAg hpl
   cases hde
   exact ⟨_, rfl, _, _, p1, o1, st, e1, _, rfl, hri, hAg, by omega, kp, hp1, hpl⟩
end Go.Proofs.YtejeloeaklpinaaDoor
namespace Go.Proofs.YtejeloeaklpinaaDoor
/-- The bytes told by the machine and by the reference: what the window lost lies ahead. -/
def Tl (pre m r : List Nat) : Prop := r = pre ++ m ∧ (pre = [] ∨ 32768 ≤ m.length)
section
variable {pre m r : List Nat}
theorem Tl.app (h : Tl pre m r) (x : List Nat) : Tl pre (m ++ x) (r ++ x) :=
 ⟨by rw [h.1, List.append_assoc], h.2.imp id (fun h => by rw [List.length_append]; omega)⟩
theorem Tl.lz (h : Tl pre m r) {d : Nat} (h1 : 1 ≤ d) (hd : d ≤ m.length) : ∀ k, Tl pre (lz m d k) (lz r d k)
 | 0 => h
 | k + 1 => by
  have ih := Tl.lz h h1 hd k
  have hl := lz_length m d k
  simp only [Go.Proofs.YtejeloeaklpinaaDoor.lz]
  have e : (Go.Proofs.YtejeloeaklpinaaDoor.lz r d k).getD ((Go.Proofs.YtejeloeaklpinaaDoor.lz r d k).length - d) 0 = (Go.Proofs.YtejeloeaklpinaaDoor.lz m d k).getD ((Go.Proofs.YtejeloeaklpinaaDoor.lz m d k).length - d) 0 := by
   rw [ih.1, getD_app, List.length_append, if_neg (by omega)]
   congr 1
   omega
  rw [e]
  exact ih.app _
theorem Tl.far (h : Tl pre m r) (b : Nat) : (r.length < b ∨ 32768 < b) ↔ min m.length 32768 < b := by
 rw [h.1, List.length_append]
 rcases h.2 with h2 | h2
 ·subst h2; simp only [List.length_nil]; omega
 ·omega
end
theorem lz_add (m : List Nat) (d a : Nat) : ∀ b, lz (lz m d a) d b = lz m d (a + b)
 | 0 => rfl
 | b + 1 => by rw [lz, lz_add m d a b, show a + (b + 1) = a + b + 1 from rfl, lz]
theorem bytesAt_add (S : Src) (n : Nat) : ∀ (m pos : Nat), bytesAt S pos (m + n) = bytesAt S pos m ++ bytesAt S (pos + m) n
 | 0, pos => by simp [bytesAt]
 | m + 1, pos => by rw [show m + 1 + n = m + n + 1 by omega, bytesAt, bytesAt, bytesAt_add S n m (pos + 1), List.cons_append, show pos + 1 + m = pos + (m + 1) by omega]
/-- Behind a block: what the reference makes of the rest. -/
def Af (S : Src) (fin : Bool) (p1 : Nat) (o1 : List Nat) (s1 q : Nat) (z : List Nat) (st : Nat) : Prop :=
 (s1 ≠ 0 ∧ q = p1 ∧ z = o1 ∧ st = s1) ∨ (s1 = 0 ∧ fin = true ∧ q = p1 ∧ z = o1 ∧ st = 0) ∨ (s1 = 0 ∧ fin = false ∧ ∃ e e', RI S p1 o1 e q z st e')
/-- The machine's codes are the reference's. -/
structure Co (lit dist : List Nat) (hl : Cd) (hd : Option Cd) : Prop where
 l : hl = ⟨lit.getD 256 0, lkL lit⟩
 m0 : lit.getD 256 0 ≠ 0
 m15 : lit.getD 256 0 ≤ 15
 full : ∀ x, lkL lit x % 16 ≠ 0
 K : Kraft lit
 d : (hd = none ∧ dist = List.replicate 32 5) ∨ (hd = some (cdL dist) ∧ Rd1 dist ∧ okL dist = true)
theorem rsym_val {S : Src} {L : List Nat} {p s p1 : Nat} (hK : Kraft L) (h : rsym S L p = .ok s p1 0) : p1 = p + L.getD s 0 ∧ p1 ≤ 8 * S.N ∧ lkL L (S.D / 2 ^ p) = 16 * s + L.getD s 0 ∧ 1 ≤ L.getD s 0 ∧ L.getD s 0 ≤ 15 := by
 unfold rsym at h
 split at h
 ·split at h <;> cases h
 ·rename_i h0
  split at h
  ·rename_i h1
   have hne : Vk L L.length (S.D / 2 ^ p) ≠ 0 := by intro e; rw [lkL_eq, e] at h0; exact h0 rfl
   obtain ⟨t, h2, h3, h4⟩ := vk_some hne
   have h5 := (sym_fnd hK h3).2.1
   have h15 := hK.n15 t
   cases h
   rw [lkL_eq, h4] at h1
   rw [lkL_eq, h4]
   have e1 : (16 * t + L.getD t 0) / 16 = t := by omega
   have e2 : (16 * t + L.getD t 0) % 16 = L.getD t 0 := by omega
   rw [e2] at h1
   rw [e1, e2]
   exact ⟨rfl, h1, rfl, h5, h15⟩
  ·cases h
theorem gs_lit {S : Src} {L : List Nat} {p s p1 m : Nat} (hK : Kraft L) (h : rsym S L p = .ok s p1 0) (pos : Nat) : (p + m ≤ 8 * S.N ∧ getSym S ⟨m, lkL L⟩ p pos = .ok s p1 (rdTo p pos (max m (L.getD s 0)))) ∨ (8 * S.N < p + m ∧ getSym S ⟨m, lkL L⟩ p pos = .short) := by
 obtain ⟨h1, h2, h3, h4, h5⟩ := rsym_val hK h
 have e1 : (16 * s + L.getD s 0) / 16 = s := by omega
 have e2 : (16 * s + L.getD s 0) % 16 = L.getD s 0 := by omega
 unfold getSym
 simp only
 rw [h3, e1, e2, if_neg (by omega)]
 by_cases hm : p + m ≤ 8 * S.N
 ·rw [if_pos (by omega)]; exact .inl ⟨hm, by rw [h1]⟩
 ·rw [if_neg (by omega)]; exact .inr ⟨by omega, rfl⟩
/-- Symbols of distances: the machine sees what the reference sees. -/
theorem gs_dist {S : Src} {L : List Nat} {p : Nat} (hR : Rd1 L) (hok : okL L = true) (pos : Nat) (hp : p ≤ 8 * S.N) :
  (∀ s p1, rsym S L p = .ok s p1 0 → p ≤ p1 ∧ getSym S (cdL L) p pos = .ok s p1 (max pos ((p1 + 7) / 8))) ∧ (rsym S L p = .short → getSym S (cdL L) p pos = .short) ∧ (∀ p1, rsym S L p = .bad p1 0 → ∃ q pos', getSym S (cdL L) p pos = .bad q pos') := by
 have hmn := mn_mx L
 refine ⟨fun s p1 h => ?_, fun h => ?_, fun p1 h => ?_⟩
 ·rcases hR with h0 | hK
  ·unfold rsym at h
   rw [lk_zero h0, if_pos rfl] at h
   split at h <;> cases h
  ·obtain ⟨h1, h2, h3, h4, h5⟩ := rsym_val hK h
   have hle := (mn_le L s (by omega)).1
   rcases gs_lit (m := mn L) hK h pos with ⟨_, hg⟩ | ⟨hg, _⟩
   ·refine ⟨by omega, ?_⟩
    unfold cdL
    rw [hg]
    unfold rdTo
    rw [Nat.max_eq_right hle, ← h1]
   ·omega
 ·unfold rsym at h
  unfold getSym cdL
  simp only
  by_cases h0 : lkL L (S.D / 2 ^ p) % 16 = 0
  ·rw [if_pos h0] at h ⊢
   split at h
   ·cases h
   ·rename_i h1
    rw [if_neg ?_]
    have h15 := hR.m15
    unfold okL at hok
    simp only [Bool.or_eq_true, Bool.and_eq_true, beq_iff_eq] at hok
    rcases hok with (h2 | h2) | h2
    ·omega
    ·by_cases hz : mx L = 0
     ·omega
     ·exact absurd h0 (full_lk h15 (by rw [kf_mx hz h15, h2, pow_split h15]) _)
    ·obtain ⟨s, _, hs⟩ := mx_ex (L := L) (by omega)
     have := (mn_le L s (by omega)).2
     omega
  ·rw [if_neg h0] at h ⊢
   split at h
   ·cases h
   ·rw [if_neg (by omega)]
 ·unfold rsym at h
  unfold getSym cdL
  simp only
  by_cases h0 : lkL L (S.D / 2 ^ p) % 16 = 0
  ·rw [if_pos h0] at h ⊢
   split at h
   ·rename_i h1
    rw [if_pos (by omega)]
    exact ⟨_, _, rfl⟩
   ·cases h
  ·rw [if_neg h0] at h
   split at h <;> cases h
/-- The codes of distances of the fixed blocks: five bits. -/
theorem lk32 (X : Nat) : lkL (List.replicate 32 5) X = 16 * rev 5 X + 5 := by
 have key : ∀ x, x < 32 → lkL (List.replicate 32 5) x = 16 * rev 5 x + 5 := by decide +kernel
 have e : lkL (List.replicate 32 5) X = lkL (List.replicate 32 5) (X % 32) := by
  unfold lkL
  have : covers (List.replicate 32 5) X = covers (List.replicate 32 5) (X % 32) := by
   funext s
   unfold covers
   by_cases hs : s < 32
   ·have h5 : (List.replicate 32 5).getD s 0 = 5 := by
     rw [List.getD_eq_getElem?_getD, List.getElem?_replicate, if_pos hs]; rfl
    rw [h5]
    congr 2
    show X % 32 = X % 32 % 32
    omega
   ·have h0 : (List.replicate 32 5).getD s 0 = 0 := by
     rw [List.getD_eq_getElem?_getD, List.getElem?_replicate, if_neg hs]; rfl
    rw [h0]; rfl
  rw [this]
 rw [e, key _ (Nat.mod_lt _ (by decide))]
 have := rv_mod 5 X
 rw [show (2 : Nat) ^ 5 = 32 from rfl] at this
 rw [this]
theorem fix_dist {S : Src} {p : Nat} (pos : Nat) :
  (∀ s p1, rsym S (List.replicate 32 5) p = .ok s p1 0 → p ≤ p1 ∧ getDs S none p pos = .ok s p1 (max pos ((p1 + 7) / 8))) ∧ (rsym S (List.replicate 32 5) p = .short → getDs S none p pos = .short) ∧ (∀ p1, rsym S (List.replicate 32 5) p ≠ .bad p1 0) := by
 have hr := rvb 5 (S.D / 2 ^ p)
 have hv := lk32 (S.D / 2 ^ p)
 have e1 : (16 * rev 5 (S.D / 2 ^ p) + 5) / 16 = rev 5 (S.D / 2 ^ p) := by omega
 have e2 : (16 * rev 5 (S.D / 2 ^ p) + 5) % 16 = 5 := by omega
 have hb : rev 5 (bv S.D p 5) = rev 5 (S.D / 2 ^ p) := rv_mod 5 _
 unfold rsym
 rw [hv, e1, e2, if_neg (by decide)]
 by_cases h : p + 5 ≤ 8 * S.N
 ·rw [if_pos h]
  refine ⟨fun s p1 h1 => ?_, fun h1 => (by cases h1), fun p1 h1 => (by cases h1)⟩
  cases h1
  refine ⟨by omega, ?_⟩
  rw [ds_none h, hb]
  rfl
 ·rw [if_neg h]
  exact ⟨fun s p1 h1 => (by cases h1), fun _ => ds_nones (by omega), fun p1 h1 => (by cases h1)⟩
theorem Co.dist {S : Src} {lit dist : List Nat} {hl : Cd} {hd : Option Cd} (h : Co lit dist hl hd) {p : Nat} (pos : Nat) (hp : p ≤ 8 * S.N) :
  (∀ s p1, rsym S dist p = .ok s p1 0 → p ≤ p1 ∧ getDs S hd p pos = .ok s p1 (max pos ((p1 + 7) / 8))) ∧ (rsym S dist p = .short → getDs S hd p pos = .short) ∧ (∀ p1, rsym S dist p = .bad p1 0 → ∃ q pos', getDs S hd p pos = .bad q pos') := by
 rcases h.d with ⟨rfl, rfl⟩ | ⟨rfl, hR, hok⟩
 ·obtain ⟨h1, h2, h3⟩ := fix_dist (S := S) (p := p) pos
  exact ⟨h1, h2, fun p1 h => absurd h (h3 p1)⟩
 ·exact gs_dist hR hok pos hp
/-- Where the end mark can still come. -/
theorem RH.left {S : Src} {lit dist : List Nat} {p p' st : Nat} {out o' : List Nat} (hK : Kraft lit) (h : RH S lit dist p out p' o' st) : st = 0 → p + lit.getD 256 0 ≤ 8 * S.N := by
 induction h with
 | short => intro h; cases h
 | bad => intro h; cases h
 | eob h => intro _; have := rsym_val hK h; omega
 | lit h _ _ ih => intro h0; have := rsym_val hK h; have := ih h0; omega
 | big => intro h; cases h
 | lshort => intro h; cases h
 | dshort => intro h; cases h
 | dbad => intro h; cases h
 | dbig => intro h; cases h
 | xshort => intro h; cases h
 | far => intro h; cases h
 | copy h1 _ _ _ h2 _ _ _ _ _ ih => intro h0; have := rsym_val hK h1; have := rsym_lt h2; have := ih h0; omega
theorem rsym_le {S : Src} {L : List Nat} {p p1 : Nat} (h : rsym S L p = .bad p1 0) : p ≤ p1 ∧ p1 ≤ 8 * S.N := by
 unfold rsym at h
 split at h
 ·split at h
  ·cases h; omega
  ·cases h
 ·split at h <;> cases h
/-- The place only goes on; what is told is only added to; the states. -/
theorem RH.on {S : Src} {lit dist : List Nat} {p p' st : Nat} {out o' : List Nat} (h : RH S lit dist p out p' o' st) : p ≤ 8 * S.N → p ≤ p' ∧ p' ≤ 8 * S.N ∧ Pre out o' ∧ st ≤ 2 := by
 induction h with
 | short => intro h; exact ⟨h, Nat.le_refl _, Pre.refl _, by decide⟩
 | bad h => intro _; have := rsym_le h; exact ⟨this.1, this.2, Pre.refl _, by decide⟩
 | eob h => intro _; have := rsym_lt h; exact ⟨by omega, by omega, Pre.refl _, by decide⟩
 | lit h _ _ ih => intro _; have := rsym_lt h; obtain ⟨i1, i2, i3, i4⟩ := ih this.2; exact ⟨by omega, i2, (Pre.app _ _).trans i3, i4⟩
 | big h => intro _; have := rsym_lt h; exact ⟨by omega, by omega, Pre.refl _, by decide⟩
 | lshort h => intro h; exact ⟨h, Nat.le_refl _, Pre.refl _, by decide⟩
 | dshort h => intro h; exact ⟨h, Nat.le_refl _, Pre.refl _, by decide⟩
 | dbad h _ _ _ h2 => intro _; have := rsym_lt h; have := rsym_le h2; exact ⟨by omega, by omega, Pre.refl _, by decide⟩
 | dbig h _ _ _ h2 => intro _; have := rsym_lt h; have := rsym_lt h2; exact ⟨by omega, by omega, Pre.refl _, by decide⟩
 | xshort h => intro h; exact ⟨h, Nat.le_refl _, Pre.refl _, by decide⟩
 | far h _ _ _ h2 _ h3 => intro _; have := rsym_lt h; have := rsym_lt h2; exact ⟨by omega, h3, Pre.refl _, by decide⟩
 | copy h _ _ _ h2 _ h3 _ _ _ ih => intro _; have := rsym_lt h; have := rsym_lt h2; obtain ⟨i1, i2, i3, i4⟩ := ih h3; exact ⟨by omega, i2, (lz_pre _ _ _).trans i3, i4⟩
end Go.Proofs.YtejeloeaklpinaaDoor
