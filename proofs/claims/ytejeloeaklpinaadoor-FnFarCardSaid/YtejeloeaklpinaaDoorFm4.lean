/- Texts of this claim, merged and shortened by gen/pack.py: Dyn0, Dyn, Cuts, Ref0, Ref1, Ref2, RefA, RefB, RefC, RefD, RefE0. -/
import Derived.Test.YtejeloeaklpinaaDoorFm3
namespace Go.Proofs.YtejeloeaklpinaaDoor
/-- The order, in plain numbers. -/
def ordN (k : Nat) : Nat := [16, 17, 18, 0, 8, 7, 9, 6, 10, 5, 11, 4, 12, 3, 13, 2, 14, 1, 15].getD k 0
theorem order_eq : ∀ i, i < 19 → order i = (ordN i : Int) := by decide +kernel
theorem ordN_lt : ∀ i, i < 19 → ordN i < 19 := by decide +kernel
theorem ordN_inj : ∀ i, i < 19 → ∀ j, j < 19 → ordN i = ordN j → i = j := by decide +kernel
theorem ordN_sur : ∀ j, j < 19 → ∃ i, i < 19 ∧ ordN i = j := by decide +kernel
section
variable {S : Src} {a : A} {p pos : Nat} {f : Nat → Nat}
theorem clLens_step {i p0 pos0 : Nat} {f0 : Nat → Nat} (h : clLens S i p0 pos0 f0 = some (f, p, pos)) (h3 : p + 3 ≤ 8 * S.N) :
  clLens S (i + 1) p0 pos0 f0 = some ((fun j => if j = ordN i then bv S.D p 3 else f j), p + 3, rdTo p pos 3) := by
 simp only [clLens, h]
 rw [if_pos h3]; rfl
theorem clLens_none {i p0 pos0 : Nat} {f0 : Nat → Nat} (h : clLens S i p0 pos0 f0 = some (f, p, pos)) (h3 : 8 * S.N < p + 3) : clLens S (i + 1) p0 pos0 f0 = none := by
 simp only [clLens, h]
 rw [if_neg (by omega)]
theorem clLens_mono {i p0 pos0 : Nat} {f0 : Nat → Nat} (h : clLens S i p0 pos0 f0 = none) : ∀ d, clLens S (i + d) p0 pos0 f0 = none
 | 0 => h
 | d + 1 => by
  have := clLens_mono h d
  rw [← Nat.add_assoc]
  simp only [clLens, this]
/-- The lengths of the codes, as they lie in cells, when the first i are told. -/
structure CL (cs : Nat → Value) (f : Nat → Nat) (i m : Nat) : Prop where
 cell : ∀ k, k < m → cs (ordN k) = .int .i64 ((f (ordN k) : Nat) : Int)
 zero : ∀ k, i ≤ k → k < 19 → f (ordN k) = 0
 le : ∀ j, f j ≤ 7
theorem CL.start (cs : Nat → Value) : CL cs (fun _ => 0) 0 0 := ⟨fun k hk => absurd hk (Nat.not_lt_zero _), fun _ _ _ => rfl, fun _ => Nat.zero_le _⟩
theorem CL.step {cs : Nat → Value} {f : Nat → Nat} {i x : Nat} (h : CL cs f i i) (hi : i < 19) (hx : x ≤ 7) : CL (upd cs (ordN i) (.int .i64 (x : Int))) (fun j => if j = ordN i then x else f j) (i + 1) (i + 1) := by
 refine ⟨fun k hk => ?_, fun k hk hk2 => ?_, fun j => ?_⟩
 ·unfold upd
  by_cases hki : k = i
  ·subst hki; rw [if_pos rfl]; simp
  ·have hne : ordN k ≠ ordN i := fun e => hki (ordN_inj k (by omega) i hi e)
   rw [if_neg hne]
   show cs (ordN k) = Value.int .i64 ((if ordN k = ordN i then x else f (ordN k) : Nat) : Int)
   rw [if_neg hne]
   exact h.cell k (by omega)
 ·have hne : ordN k ≠ ordN i := fun e => by have := ordN_inj k hk2 i hi e; omega
  show (if ordN k = ordN i then x else f (ordN k)) = 0
  rw [if_neg hne]
  exact h.zero k (by omega) hk2
 ·show (if j = ordN i then x else f j) ≤ 7
  split
  ·exact hx
  ·exact h.le j
theorem CL.fill {cs : Nat → Value} {f : Nat → Nat} {i m : Nat} (h : CL cs f i m) (him : i ≤ m) (hm : m < 19) : CL (upd cs (ordN m) (.int .i64 0)) f i (m + 1) := by
 refine ⟨fun k hk => ?_, h.zero, h.le⟩
 unfold upd
 by_cases hkm : k = m
 ·subst hkm; rw [if_pos rfl, h.zero k him hm]; rfl
 ·have hne : ordN k ≠ ordN m := fun e => hkm (ordN_inj k (by omega) m hm e)
  rw [if_neg hne]
  exact h.cell k (by omega)
theorem CL.all {cs : Nat → Value} {f : Nat → Nat} {i : Nat} (h : CL cs f i 19) (j : Nat) (hj : j < 19) : cs j = .int .i64 ((((List.range 19).map f).getD j 0 : Nat) : Int) := by
 obtain ⟨k, hk, rfl⟩ := ordN_sur j hj
 rw [h.cell k hk, List.getD_eq_getElem?_getD, List.getElem?_map, List.getElem?_range hj]
 rfl
theorem CL.l15 {cs : Nat → Value} {f : Nat → Nat} {i m : Nat} (h : CL cs f i m) (s : Nat) : ((List.range 19).map f).getD s 0 ≤ 15 := by
 rw [List.getD_eq_getElem?_getD, List.getElem?_map]
 by_cases hs : s < 19
 ·rw [List.getElem?_range hs]
  have := h.le s
  show f s ≤ 15; omega
 ·rw [List.getElem?_eq_none (by simpa using hs)]
  exact Nat.zero_le _
/-- A symbol that is found is one of the list. -/
theorem getSym_in {L : List Nat} (h15 : ∀ s, L.getD s 0 ≤ 15) {s p' pos' : Nat} (h : getSym S (cdL L) p pos = .ok s p' pos') : s < L.length := by
 unfold getSym at h
 simp only at h
 split at h
 ·split at h <;> cases h
 ·rename_i h0
  split at h
  ·cases h
   have hne : Vk L L.length (S.D / 2 ^ p) ≠ 0 := by
    intro e
    apply h0
    show lkL L (S.D / 2 ^ p) % 16 = 0
    rw [lkL_eq, e]
   obtain ⟨t, h1, _, h3⟩ := vk_some hne
   show lkL L (S.D / 2 ^ p) / 16 < _
   rw [lkL_eq, h3]
   have := h15 t
   omega
  ·cases h
/-- The machine's head of a block with codes of its own, by its ends. -/
def dv (S : Src) (a : A) : Nat := bv S.D a.p 14
/-- How many lengths are told: of symbols, of distances, of the codes by which they are told. -/
def nL (S : Src) (a : A) : Nat := dv S a % 32 + 257
def nD (S : Src) (a : A) : Nat := dv S a / 32 % 32 + 1
def nC (S : Src) (a : A) : Nat := dv S a / 1024 + 4
theorem nC_le (S : Src) (a : A) : nC S a ≤ 19 := by have := bv_lt S.D a.p 14; have h14 : (2 : Nat) ^ 14 = 16384 := rfl; unfold nC dv; omega
theorem md_short (h : 8 * S.N < a.p + 14) : mDyn S a = (a.short S, true) := by unfold mDyn; rw [if_pos h]
theorem md_big (h : ¬ 8 * S.N < a.p + 14) (h2 : 286 < nL S a ∨ 30 < nD S a) : mDyn S a = ({ a with pos := rdTo a.p a.pos 14 }.bad, true) := by
 unfold nL nD dv at *; try unfold nC dv at *
 unfold mDyn; rw [if_neg h]; simp only []; rw [if_pos h2]
variable (h : ¬ 8 * S.N < a.p + 14) (h2 : ¬ (286 < nL S a ∨ 30 < nD S a))
include h h2
theorem md_cln (h3 : clLens S (nC S a) (a.p + 14) (rdTo a.p a.pos 14) (fun _ => 0) = none) : mDyn S a = (a.short S, true) := by
 unfold nL nD dv at *; try unfold nC dv at *
 unfold mDyn; rw [if_neg h]; simp only []; rw [if_neg h2, h3]
variable (h3 : clLens S (nC S a) (a.p + 14) (rdTo a.p a.pos 14) (fun _ => 0) = some (f, p, pos))
include h3
theorem md_clb (h4 : okL ((List.range 19).map f) = false) : mDyn S a = ({ a with p := p, pos := pos }.bad, true) := by
 unfold nL nD dv at *; try unfold nC dv at *
 unfold mDyn; rw [if_neg h]; simp only []; rw [if_neg h2, h3]; simp only []; rw [if_pos h4]
variable (h4 : okL ((List.range 19).map f) = true)
include h4
theorem md_rs (h5 : rdLens S (cdL ((List.range 19).map f)) (nL S a + nD S a) (nL S a + nD S a) [] p pos = .short) : mDyn S a = (a.short S, true) := by
 unfold nL nD dv at *; try unfold nC dv at *
 unfold mDyn; rw [if_neg h]; simp only []; rw [if_neg h2, h3]; simp only []; rw [if_neg (by rw [h4]; decide), h5]
theorem md_rb {p' pos' : Nat} (h5 : rdLens S (cdL ((List.range 19).map f)) (nL S a + nD S a) (nL S a + nD S a) [] p pos = .bad p' pos') : mDyn S a = ({ a with p := p', pos := pos' }.bad, true) := by
 unfold nL nD dv at *; try unfold nC dv at *
 unfold mDyn; rw [if_neg h]; simp only []; rw [if_neg h2, h3]; simp only []; rw [if_neg (by rw [h4]; decide), h5]
variable {l : List Nat} {p' pos' : Nat} (h5 : rdLens S (cdL ((List.range 19).map f)) (nL S a + nD S a) (nL S a + nD S a) [] p pos = .ok l p' pos')
include h5
theorem md_kb (h6 : okL (l.take (nL S a)) = false ∨ okL (l.drop (nL S a)) = false) : mDyn S a = ({ a with p := p', pos := pos' }.bad, true) := by
 unfold nL nD dv at *; try unfold nC dv at *
 unfold mDyn; rw [if_neg h]; simp only []; rw [if_neg h2, h3]; simp only []; rw [if_neg (by rw [h4]; decide), h5]; simp only []; rw [if_pos h6]
theorem md_ok (h6 : okL (l.take (nL S a)) = true) (h7 : okL (l.drop (nL S a)) = true) : mDyn S a =
  ({ a with p := p', pos := pos', md := .huff ⟨max (mn (l.take (nL S a))) (l.getD 256 0), lkL (l.take (nL S a))⟩ (some (cdL (l.drop (nL S a)))) none }, false) := by
 unfold nL nD dv at *; try unfold nC dv at *
 unfold mDyn; rw [if_neg h]; simp only []; rw [if_neg h2, h3]; simp only []; rw [if_neg (by rw [h4]; decide), h5]; simp only []; rw [if_neg (by rw [h6, h7]; decide)]
end
section
variable {S : Src} {c : Cd} {n k p pos x p1 pos1 : Nat} {l : List Nat}
theorem rl_done (h : n ≤ l.length) : rdLens S c n k l p pos = .ok l p pos := by
 cases k with
 | zero => rfl
 | succ k => simp only [rdLens]; rw [if_pos h]
theorem rl_short (h : ¬ n ≤ l.length) (hs : getSym S c p pos = .short) : rdLens S c n (k + 1) l p pos = .short := by simp only [rdLens]; rw [if_neg h, hs]
theorem rl_bad (h : ¬ n ≤ l.length) (hs : getSym S c p pos = .bad p1 pos1) : rdLens S c n (k + 1) l p pos = .bad p1 pos1 := by simp only [rdLens]; rw [if_neg h, hs]
theorem rl_one (h : ¬ n ≤ l.length) (hs : getSym S c p pos = .ok x p1 pos1) (hx : x < 16) : rdLens S c n (k + 1) l p pos = rdLens S c n k (l ++ [x]) p1 pos1 := by
 conv => lhs; simp only [rdLens]
 rw [if_neg h, hs]; simp only []; rw [if_pos hx]
theorem rl_first (h : ¬ n ≤ l.length) (hs : getSym S c p pos = .ok 16 p1 pos1) (h0 : l.length = 0) : rdLens S c n (k + 1) l p pos = .bad p1 pos1 := by
 simp only [rdLens]
 rw [if_neg h, hs]; simp only []; rw [if_neg (by decide), if_pos ⟨trivial, h0⟩]
def rlB (x : Nat) : Nat := if x = 16 then 2 else if x = 17 then 3 else 7
def rlR (x : Nat) : Nat := if x = 18 then 11 else 3
def rlV (x : Nat) (l : List Nat) : Nat := if x = 16 then l.getD (l.length - 1) 0 else 0
variable (h : ¬ n ≤ l.length) (hs : getSym S c p pos = .ok x p1 pos1) (hx : ¬ x < 16) (h0 : ¬ (x = 16 ∧ l.length = 0))
include h hs hx h0
theorem rl_bshort (hb : 8 * S.N < p1 + rlB x) : rdLens S c n (k + 1) l p pos = .short := by
 simp only [rdLens]
 rw [if_neg h, hs]; simp only []; rw [if_neg hx, if_neg h0]
 unfold getBits
 rw [if_neg (by unfold rlB at hb; omega)]
theorem rl_big (hb : p1 + rlB x ≤ 8 * S.N) (hn : n < l.length + (rlR x + bv S.D p1 (rlB x))) : rdLens S c n (k + 1) l p pos = .bad (p1 + rlB x) (rdTo p1 pos1 (rlB x)) := by
 unfold rlB rlR at *
 simp only [rdLens]
 rw [if_neg h, hs]; simp only []; rw [if_neg hx, if_neg h0]
 unfold getBits
 rw [if_pos hb]; simp only []; rw [if_pos hn]
theorem rl_more (hb : p1 + rlB x ≤ 8 * S.N) (hn : ¬ n < l.length + (rlR x + bv S.D p1 (rlB x))) : rdLens S c n (k + 1) l p pos = rdLens S c n k (l ++ List.replicate (rlR x + bv S.D p1 (rlB x)) (rlV x l)) (p1 + rlB x) (rdTo p1 pos1 (rlB x)) := by
 unfold rlB rlR rlV at *
 conv => lhs; simp only [rdLens]
 rw [if_neg h, hs]; simp only []; rw [if_neg hx, if_neg h0]
 unfold getBits
 rw [if_pos hb]; simp only []; rw [if_neg hn]
end
/-- Lengths as they lie in cells. -/
structure LB (bs : Nat → Value) (l : List Nat) : Prop where
 cell : ∀ k, k < l.length → bs k = .int .i64 ((l.getD k 0 : Nat) : Int)
 le : ∀ k, l.getD k 0 ≤ 15
theorem LB.take {bs : Nat → Value} {l : List Nat} (h : LB bs l) {m : Nat} (j : Nat) (hj : j < (l.take m).length) : bs (0 + j) = .int .i64 (((l.take m).getD j 0 : Nat) : Int) := by
 rw [List.length_take] at hj
 rw [Nat.zero_add, h.cell j (by omega), List.getD_eq_getElem?_getD, List.getD_eq_getElem?_getD, List.getElem?_take, if_pos (by omega)]
theorem LB.take15 {bs : Nat → Value} {l : List Nat} (h : LB bs l) (m s : Nat) : (l.take m).getD s 0 ≤ 15 := by
 have := h.le s
 rw [List.getD_eq_getElem?_getD] at this ⊢
 rw [List.getElem?_take]
 split
 ·exact this
 ·exact Nat.zero_le _
theorem LB.drop {bs : Nat → Value} {l : List Nat} (h : LB bs l) {m : Nat} (j : Nat) (hj : j < (l.drop m).length) : bs (m + j) = .int .i64 (((l.drop m).getD j 0 : Nat) : Int) := by
 rw [List.length_drop] at hj
 rw [h.cell (m + j) (by omega), List.getD_eq_getElem?_getD, List.getD_eq_getElem?_getD, List.getElem?_drop]
theorem LB.drop15 {bs : Nat → Value} {l : List Nat} (h : LB bs l) (m s : Nat) : (l.drop m).getD s 0 ≤ 15 := by
 have := h.le (m + s)
 rw [List.getD_eq_getElem?_getD] at this ⊢
 rw [List.getElem?_drop]
 exact this
theorem LB.nil (bs : Nat → Value) : LB bs [] := ⟨fun k hk => absurd hk (Nat.not_lt_zero _), fun k => by simp⟩
theorem LB.push {bs : Nat → Value} {l : List Nat} (h : LB bs l) {x : Nat} (hx : x ≤ 15) : LB (upd bs l.length (.int .i64 (x : Int))) (l ++ [x]) := by
 have hg : ∀ k, (l ++ [x]).getD k 0 = if k < l.length then l.getD k 0 else if k = l.length then x else 0 := by
  intro k
  rw [getD_app1]
  split
  ·rfl
  ·split
   ·rename_i h1; subst h1; simp
   ·rw [List.getD_eq_getElem?_getD, List.getElem?_eq_none (by simp; omega)]; rfl
 refine ⟨fun k hk => ?_, fun k => ?_⟩
 ·rw [hg]
  unfold upd
  rw [List.length_append, List.length_singleton] at hk
  by_cases hkl : k = l.length
  ·rw [if_pos hkl, if_neg (by omega), if_pos hkl]
  ·rw [if_neg hkl, if_pos (by omega)]; exact h.cell k (by omega)
 ·rw [hg]
  split
  ·exact h.le k
  ·split
   ·exact hx
   ·omega
theorem LB.rep {bs : Nat → Value} {l : List Nat} {j v : Nat} (h : LB bs (l ++ List.replicate j v)) (hv : v ≤ 15) : LB (upd bs (l.length + j) (.int .i64 (v : Int))) (l ++ List.replicate (j + 1) v) := by
 have e : l ++ List.replicate (j + 1) v = (l ++ List.replicate j v) ++ [v] := by rw [List.replicate_succ', List.append_assoc]
 have hl : (l ++ List.replicate j v).length = l.length + j := by simp
 rw [e, ← hl]
 exact h.push hv
/-- The cells of the reader that the lengths and tables may change. -/
def RL : List Nat := List.range' 2 1033
theorem RL_mem (k : Nat) : k ∈ RL ↔ 2 ≤ k ∧ k < 1035 := by unfold RL; rw [List.mem_range'_1]
def RLe : List Nat := 1048 :: RL
theorem RLe_mem (k : Nat) : k ∈ RLe ↔ k = 1048 ∨ 2 ≤ k ∧ k < 1035 := by unfold RLe; rw [List.mem_cons, RL_mem]
theorem Off.rl {g0 g g' : Nat → Value} {L : List Nat} (h : Off RL g0 g) (o : Off L g g') (hl : ∀ k, k ∈ L → 2 ≤ k ∧ k < 1035) : Off RL g0 g' := h.trans (o.mono fun k hk => (RL_mem k).2 (hl k hk))
theorem Off.rlu {g0 g : Nat → Value} (h : Off RL g0 g) {k : Nat} (hk : 2 ≤ k ∧ k < 1035) (v : Value) : Off RL g0 (Go.Proofs.YtejeloeaklpinaaDoor.upd g k v) := h.upd ((RL_mem k).2 hk) v
theorem Off.rlo {g0 g g' : Nat → Value} (h : Off RL g0 g) {o : Nat} (ho : 2 ≤ o ∧ o + 515 ≤ 1035) (h' : ∀ j, j < o ∨ o + 515 ≤ j → g' j = g j) : Off RL g0 g' := fun k hk => (h' k (by rw [RL_mem] at hk; omega)).trans (h k hk)
theorem Off.rlf {g0 g : Nat → Value} (h : Off RL g0 g) (j : Nat) (hj : 1035 ≤ j) : g j = g0 j := h j (by rw [RL_mem]; omega)
theorem Bt.low {E : Env} {g g' : Nat → Value} {p pos : Nat} (h : Bt E g p pos) (h' : ∀ j, j < 5 → g' j = g j) : Bt E g' p pos :=
 ⟨by obtain ⟨n, hn⟩ := h.ro; exact ⟨n, (h' _ (by decide)).trans hn⟩, (h' _ (by decide)).trans h.b, (h' _ (by decide)).trans h.nb, h.le, h.l32⟩
def HZs (g : Nat → Value) : Prop := HZ g 5 ∧ HZ g 520
theorem HZs.low {g g' : Nat → Value} {L : List Nat} (h : HZs g) (o : Off L g g') (hl : ∀ k, k ∈ L → k < 5 ∨ 1035 ≤ k) : HZs g' := ⟨h.1.keep fun j a b => o j (fun hm => by have := hl j hm; omega), h.2.keep fun j a b => o j (fun hm => by have := hl j hm; omega)⟩
theorem HZs.updW {E : Env} {w : World} {g hs bs cs : Nat → Value} {pos k : Nat} {v : Value} (h : HZs g) (_ : Wd E w (upd g k v) hs bs cs pos) (hk : k < 5) : HZs (upd g k v) := h.low ((Off.refl [k] g).upd (by simp) v) (by simp; omega)
theorem Off.rle {g0 g : Nat → Value} (h : Off RL g0 g) : Off RLe g0 g := h.mono fun k hk => (RLe_mem k).2 (.inr ((RL_mem k).1 hk))
theorem cr_rl {E : Env} {w w' : World} {g g' hs bs bs' cs cs' : Nat → Value} {pos pos' : Nat} {out : List Nat} {fl wr e : Nat} (h : Cr E w g hs bs cs pos out fl wr e) (hW : Wd E w' g' hs bs' cs' pos') (o : Off RLe g g') (hZ : HZ g' 5 ∧ HZ g' 520) : Cr E w' g' hs bs' cs' pos' out fl wr e := by
 have n : ∀ k, k ≠ 1048 → (k < 2 ∨ 1035 ≤ k) → k ∉ RLe := fun k h1 h2 hm => by rw [RLe_mem] at hm; omega
 exact ⟨hW, h.S.off o ⟨n _ (by decide) (by decide), n _ (by decide) (by decide), n _ (by decide) (by decide), n _ (by decide) (by decide), n _ (by decide) (by decide)⟩, h.V, h.D.off o ⟨n _ (by decide) (by decide), n _ (by decide) (by decide), n _ (by decide) (by decide), n _ (by decide) (by decide)⟩, h.T.off o (n _ (by decide) (by decide)), hZ⟩
theorem Stc.rl {E : Env} {g g' : Nat → Value} (h : Stc E g) (o : Off RL g g') : Stc E g' := by
 have n : ∀ k, (k < 2 ∨ 1035 ≤ k) → k ∉ RL := fun k h2 hm => by rw [RL_mem] at hm; omega
 exact h.off o ⟨n _ (by decide), n _ (by decide), n _ (by decide), n _ (by decide), n _ (by decide)⟩
theorem HZ.off {g g' : Nat → Value} {o : Nat} {L : List Nat} (h : HZ g o) (f : Off L g g') (hL : ∀ k, k ∈ L → k < o ∨ o + 515 ≤ k) : HZ g' o := h.keep fun j a b => f j (fun hm => by have := hL j hm; omega)
theorem HTab.offs {E : Env} {w w' : World} {g g' : Nat → Value} {o : Nat} {c : Cd} {L : List Nat} (h : HTab E w g o c) (k : Kp E.X w w') (f : Off L g g') (hL : ∀ k, k ∈ L → k < o ∨ o + 515 ≤ k) : HTab E w' g' o c := h.keep k fun j a b => f j (fun hm => by have := hL j hm; omega)
theorem HTab.updW {E : Env} {w w' : World} {g hs bs cs : Nat → Value} {pos k o : Nat} {v : Value} {c : Cd} (h : HTab E w g o c) (_ : Wd E w' (upd g k v) hs bs cs pos) (kp : Kp E.X w w') (hk : k < o) : HTab E w' (upd g k v) o c := h.offs kp ((Off.refl [k] g).upd (by simp) v) (by simp; omega)
/-- The least length raised. -/
theorem HTab.min {E : Env} {w w' : World} {g : Nat → Value} {o m m' : Nat} {lk : Nat → Nat} (h : HTab E w g o ⟨m, lk⟩) (k : Kp E.X w w') : HTab E w' (upd g o (.int .i64 (m' : Int))) o ⟨m', lk⟩ := by
 have h' := h.keep k (gx' := g) fun _ _ _ => rfl
 obtain ⟨_, la, ll, lc, mask, h1, h2, h3, h4⟩ := h'
 have e : ∀ j, j ≠ o → upd g o (.int .i64 (m' : Int)) j = g j := fun j hj => upd_ne _ _ _ _ hj
 refine ⟨by rw [upd_same], la, ll, lc, mask, by rw [e _ (by omega)]; exact h1, by rw [e _ (by omega)]; exact h2, h3, fun x => ?_⟩
 obtain ⟨h5, ch, h6, h7⟩ := h4 x
 exact ⟨h5, ch, by rw [e _ (by omega)]; exact h6, h7⟩
theorem hz_min {g : Nat → Value} {o m : Nat} (h : m ≠ 0) : HZ (upd g o (.int .i64 (m : Int))) o := .inl ⟨(m : Int), by omega, upd_same _ _ _⟩
theorem und97 : Tryd.prog.underlying 97 = some (.array 316 3) := by kernel_rfl
theorem und98 : Tryd.prog.underlying 98 = some (.array 19 3) := by kernel_rfl
section
variable {ρ : Operand → Value} {d : Option Nat} {x y z : Operand} {ty : TypeId} {pos : String} {af : Array Edge} {gd : Option (Nat × Bool)} {w : World}
theorem sl98 {b : Nat} (h0 : ρ (.const (.int .i64 0)) = .int .i64 0) (hx : ρ x = .pointer (some ⟨b, 0, none⟩)) : (execOp ρ ⟨d, .slice 98 x (some (.const (.int .i64 0))) none none, ty, pos, af, gd⟩).run Tryd.prog w = .ok (.value (.slice (some ⟨b, 0, none⟩) 19 19)) w := by
 simp only [execOp, hx, h0, Option.map_none, Option.map_some]
 kernel_rfl
theorem arr97 : Tryd.prog.arrayLen 97 = 316 := by kernel_rfl
theorem elm97 : Tryd.prog.elem 97 = 3 := by kernel_rfl
theorem sl97 {b l h : Nat} {k k' : IntKind} {i j : Int} (hx : ρ x = .pointer (some ⟨b, 0, none⟩)) (hy : ρ y = .int k i) (hz : ρ z = .int k' j) (hi : i = (l : Int)) (hj : j = (h : Int)) (h1 : l ≤ h) (h2 : h ≤ 316) (h3 : l < 316) :
  (execOp ρ ⟨d, .slice 97 x (some y) (some z) none, ty, pos, af, gd⟩).run Tryd.prog w = .ok (.value (.slice (some ⟨b, l, none⟩) (h - l) (316 - l))) w := by
 subst hi hj
 have hs := run_sliceAt_array_lh (P := Tryd.prog) w 97 ⟨b, 0, none⟩ (by rw [arr97, elm97]; exact und97) k k' (l : Int) (h : Int) (by omega) (by omega) (by rw [arr97]; omega)
 simp only [execOp, hx, hy, hz, Option.map_some, Option.map_none]
 have hne : ¬ 316 = l := by omega
 simp [hs, elm97, sz3, slicedAt, arr97, Addr.add, hne]
 intro e; exact e.symm
end
/- Guarded operations of a statement whose order is open and that has an effect. -/
section
variable {P : Program} {ops : Array Oper} {Q : Act → World → Prop} {N : Nat} {L : List (Nat × Value)} {B : Nat → Value} {f : Nat → Value} {w w' : World} {rest : List Oper} {C : World → Prop} {fs : List Bool}
 {d : Nat} {op : Op} {ty : TypeId} {pos : String} {af : Array Edge} {v : Value}
theorem T1g {j t : Nat} {b : Bool} (hj : ((ops[j]?).bind (·.dst)) = some t) (ht : t < N) (hb : fl L B t = .bool b)
  (h : ∀ w, C w → (execOp (ev N (fl L B)) ⟨some d, op, ty, pos, af, some (j, b)⟩).run P w = .ok (.value v) w) (k : wpMix P ops C Q rest fs (fr N (fl ((d, v) :: L) B)) w) :
  wpMix P ops C Q (⟨some d, op, ty, pos, af, some (j, b)⟩ :: rest) (false :: fs) (fr N (fl L B)) w := by
 refine ⟨v, fun w' hC => .inl ⟨?_, .inl ?_⟩, ?_⟩
 ·simp only [Region.wanted, yielded_fr j t b hj ht hb]; cases b <;> rfl
 ·rw [fr_eval]; exact h w' hC
 ·rw [fr_put]; exact k
theorem Tskip {j t : Nat} {b : Bool} (hj : ((ops[j]?).bind (·.dst)) = some t) (ht : t < N) (hb : fl L B t = .bool (!b))
  (k : wpMix P ops C Q rest fs (fr N (fl ((d, undef) :: L) B)) w) :
  wpMix P ops C Q (⟨some d, op, ty, pos, af, some (j, b)⟩ :: rest) (false :: fs) (fr N (fl L B)) w := by
 refine ⟨undef, fun w' hC => .inr ⟨?_, rfl⟩, ?_⟩
 ·simp only [Region.wanted, yielded_fr j t (!b) hj ht hb]; cases b <;> rfl
 ·rw [fr_put]; exact k
theorem Eskip {j t : Nat} {b : Bool} (hj : ((ops[j]?).bind (·.dst)) = some t) (ht : t < N) (hb : fl L B t = .bool (!b))
  (k : wpMix P ops C Q rest fs (fr N (fl ((d, undef) :: L) B)) w) :
  wpMix P ops C Q (⟨some d, op, ty, pos, af, some (j, b)⟩ :: rest) (true :: fs) (fr N (fl L B)) w := by
 unfold wpMix eOper
 rw [if_neg (by simp only [Region.wanted, yielded_fr j t (!b) hj ht hb]; cases b <;> decide), fr_put]
 exact k
theorem ECg {j t : Nat} {b : Bool} (hj : ((ops[j]?).bind (·.dst)) = some t) (ht : t < N) (hb : fl L B t = .bool b) {g : FuncId} {args : Array Value} {R : Value → World → Prop} (h : (execOp (ev N (fl L B)) ⟨some d, op, ty, pos, af, some (j, b)⟩).run P w = .ok (.enter g args) w')
  (hc : Calls P g args w' fun e w2 => ∃ v, e = .returned v ∧ R v w2) (k : ∀ v w2, R v w2 → C w2 ∧ wpMix P ops C Q rest fs (fr N (fl ((d, v) :: L) B)) w2) :
  wpMix P ops C Q (⟨some d, op, ty, pos, af, some (j, b)⟩ :: rest) (true :: fs) (fr N (fl L B)) w := by
 unfold wpMix eOper
 rw [if_pos (by simp only [Region.wanted, yielded_fr j t b hj ht hb]; cases b <;> rfl), fr_eval, h]
 simp only [uponE]
 refine hc.mono fun e w2 ⟨v, he, hr⟩ => ⟨v, he, ?_⟩
 rw [fr_put]
 exact k v w2 hr
end
attribute [local irreducible] wpList wpStill wpMix Code.wp Calls fr
section
variable {ops : Array Oper} {N : Nat} {L : List (Nat × Value)} {B f : Nat → Value} {w w' : World} {rest : List Oper} {C : World → Prop} {fs : List Bool} {Q : Act → World → Prop} {dd : Nat} {x y : Operand} {op : Op} {ty : TypeId} {pos : String} {af : Array Edge} {b k n : Nat} {T : TypeId} {g : Nat → Value} {v : Value}
theorem Est_any (t : TypeId) (ht : ∀ w, (sizeOf t).run Tryd.prog w = .ok 1 w) (hx : ev N f x = .pointer (some ⟨b, k, none⟩)) (hy : ev N f y = v) (h1 : v.oneCell' = true) (hB : Bk w b n T g) (hk : k < n)
  (K : ∀ w1, Bk w1 b n T (upd g k v) → Kp [b] w w1 → C w1 ∧ wpMix Tryd.prog ops C Q rest fs (fr N f) w1) : wpMix Tryd.prog ops C Q (⟨none, .store t x y, ty, pos, af, none⟩ :: rest) (true :: fs) (fr N f) w := by
 obtain ⟨h4, h5⟩ := K _ (hB.set k v) ((Kp.refl [b] w).setCell (by simp) v)
 exact E0 (st_any t (ht w) hx hy h1 (hB.cell hk) (hB.frozen _)) h4 h5
end
end Go.Proofs.YtejeloeaklpinaaDoor
namespace Go.Proofs.YtejeloeaklpinaaDoor
attribute [local irreducible] wpList wpStill wpMix Code.wp Calls fr
set_option maxHeartbeats 1000000 in
theorem dyn_c : C45 := by
 intro E w a g hs bs cs hE hC hL hmd herr
 have kp := Kp.refl E.L w
 have hN := hE.N47
 have hW := hC.W
 have hSt := hC.S
 have hB := hL.B
 have ho := Off.refl RL g
 have hZ : HZs g := hC.Z
 have hS := hSt
 refine calls_fr (N := 340) Tryd.func45 rfl rfl (by simp [fp]) rfl ?_
 refine sqr ?_
 refine L1 (asg (v := .nilIface) rfl) ?_
 refine nt ?_
 refine wp_seq ?_
 refine wp_block ?_
 refine loop_fr (fun k f w' => f 0 = fp E ∧ ∃ g' pos', Wd E w' g' hs bs cs pos' ∧ Bt E g' (a.p) pos' ∧ Off RL g g' ∧ HZs g' ∧ Kp E.L w w' ∧ a.pos ≤ pos' ∧ (pos' = a.pos ∨ 8 * pos' < a.p + 14 + 8) ∧ k = E.N - pos') (E.N - a.pos) ⟨rfl, _, a.pos, hW, hB, ho, hZ, kp, Nat.le_refl _, .inl rfl, rfl⟩ ?_
 clear hW kp hB ho hZ
 intro k f wq HJ
 obtain ⟨t0, gq, posq, hW, hB, ho, hZ, kp, hpp, hpq, rfl⟩ := HJ
 have hp0 := hB.le
 have hp1 := hB.l32
 have hS := hSt.rl ho
 obtain ⟨ro, hro⟩ := hB.ro
 refine slots (fc t0 fnil) ?_
 refine wp_seq ?_
 refine sqr ?_
 refine Mp rfl ?_
 refine Np rfl ?_
 refine L1 (fa95_4 rfl) ?_
 refine L1 (ld38 rfl (hW.F.cellv (by decide) hB.nb)) ?_
 refine L1 (bi rfl rfl (bn_lss (v := decide (8 * posq - (a.p) < 14)) (decide_eq_decide.2 (by omega)))) ?_
 refine nt ?_
 refine cond_d (p := 8 * posq - (a.p) < 14) rfl (fun hlt => ?_) (fun hlt => ?_)
 ·skip
  by_cases hpn : posq < E.N
  ·skip
   refine skn ?_
   refine wp_block ?_
   refine sqr ?_
   refine Mp rfl ?_
   refine LC (cl1 has41 rfl rfl) (more_ok E _ gq hs bs cs (a.p) posq hE hW hS hB (by omega) hpn) ?_
   rintro v w1 ⟨rfl, g2, hW, hB, ho2, kp1⟩
   have kpS := kp1.X
   have kp := kp.trans kp1
   have ho := ho.rl ho2 (by decide)
   have hZ := hZ.low ho2 (by decide)
   refine L1 (asg (v := .nilIface) rfl) ?_
   refine nt ?_
   refine sqr ?_
   refine L1 (mv (v := .nilIface) rfl) ?_
   refine L1 (en_nil rfl rfl) ?_
   refine nt ?_
   refine cond_f rfl ?_
   refine wp_skip ?_
   refine inb_n ?_
   refine then_n ?_
   have hle := hW.rd.le
   exact ⟨E.N - (posq + 1), _, by omega, rfl, rfl, _, posq + 1, hW, hB, ho, hZ, kp, by omega, .inr (by omega), rfl⟩
  ·skip
   refine skn ?_
   refine wp_block ?_
   refine sqr ?_
   refine Mp rfl ?_
   refine LC (cl1 has41 rfl rfl) (more_short E _ gq hs bs cs (a.p) posq hE hW hS hB (by have := hW.rd.le; omega)) ?_
   rintro v w1 ⟨rfl, hW, kp1⟩
   have kp := kp.trans kp1
   have epq : posq = E.N := by have := hW.rd.le; omega
   rw [epq] at hW
   refine L1 (asg (v := (UEOFv E)) rfl) ?_
   refine nt ?_
   refine sqr ?_
   refine L1 (mv (v := UEOFv E) rfl) ?_
   refine L1 (en_held (u := 131) rfl rfl) ?_
   refine nt ?_
   refine cond_t rfl ?_
   refine sqr ?_
   refine L1 (mv (v := (UEOFv E)) rfl) ?_
   refine L1 (asg (v := (UEOFv E)) rfl) ?_
   refine nt ?_
   refine wp_ret ?_
   refine inb_r ?_
   refine then_r ?_
   refine inb_r ?_
   refine then_r ?_
   refine ret1 rfl rfl ?_
   exact ⟨_, rfl, _, _, _, a.short E.S', kp, cr_rl hC hW (ho.rle) hZ, rfl, rfl, rfl, rfl, .inl ⟨.inr (.inr (.inl ⟨rfl, rfl⟩)), by show (2 : Nat) ≠ 0; decide, md_short (by show 8 * E.N < _; omega)⟩⟩
 ·skip
  have hpos : posq = rdTo (a.p) a.pos 14 := rdTo_of hpp hpq (by omega)
  have hleq := hW.rd.le
  have hbv := bv_lt E.D (a.p) (8 * posq - (a.p))
  have h32 : bv E.D (a.p) (8 * posq - (a.p)) < 4294967296 := Nat.lt_of_lt_of_le hbv (Nat.pow_le_pow_right (n := 2) (by decide) (show 8 * posq - (a.p) ≤ 32 by omega))
  have hbm : bv E.D (a.p) (8 * posq - (a.p)) % 2 ^ 14 = bv E.D (a.p) 14 := bv_mod E.D (a.p) (8 * posq - (a.p)) 14 (by omega)
  have hbn := bv_lt E.D (a.p) 14
  refine wp_exit ?_
  refine then_e ?_
  refine then_e ?_
  refine inb_same ?_
  refine then_n ?_
  refine wp_seq ?_
  have h14 : ¬ 8 * E.S'.N < a.p + 14 := by show ¬ 8 * E.N < _; omega
  obtain ⟨b0, hb0⟩ : ∃ b0, bv E.D a.p (8 * posq - a.p) = b0 := ⟨_, rfl⟩
  have hbb := hB.b
  have hfin : ∀ b3 : Nat, b3 = b0 / 2 ^ 14 → Value.int .u32 (b3 : Int) = Value.int .u32 ((bv E.D a.p (8 * posq - a.p) / 2 ^ 14 : Nat) : Int) := fun b3 h => by rw [h, hb0]
  rw [hb0] at hbb h32 hbm
  have hdv : b0 % 2 ^ 14 = dv E.S' a := hbm
  have hd14 : dv E.S' a < 2 ^ 14 := bv_lt _ _ _
  have e1 : b0 % 2 ^ 5 = dv E.S' a % 32 := by rw [← hdv]; omega
  have e2 : b0 / 2 ^ 5 % 2 ^ 5 = dv E.S' a / 32 % 32 := by rw [← hdv]; omega
  have e3 : b0 / 2 ^ 5 / 2 ^ 5 % 2 ^ 4 = dv E.S' a / 1024 := by rw [← hdv]; omega
  have hnl : nL E.S' a = dv E.S' a % 32 + 257 := rfl
  have hnd : nD E.S' a = dv E.S' a / 32 % 32 + 1 := rfl
  have hnc : nC E.S' a = dv E.S' a / 1024 + 4 := rfl
  refine reg_lit ?_
  refine Mp rfl ?_
  refine Np rfl ?_
  refine L1 (fa95_3 rfl) ?_
  refine L1 (ld82 rfl (hW.F.cellv (by decide) hbb)) ?_
  refine L1 (bi rfl rfl ((bn_mask32 (k := 5) rfl rfl h32 (by decide)).trans (congrArg (fun x : Nat => pure (Value.int .u32 (x : Int))) e1))) ?_
  refine L1 (cv82_3 rfl (wrap_s64 _ (by omega) (by omega))) ?_
  refine L1 (bi rfl rfl (bn_add (c := ((nL E.S' a : Nat) : Int)) (by omega) (by omega) (by omega))) ?_
  refine Ai rfl ?_
  refine nt ?_
  refine wp_seq ?_
  refine sqr ?_
  refine Mi rfl ?_
  refine L1 (bi rfl rfl (bn_gtr (v := decide (286 < nL E.S' a)) (decide_eq_decide.2 (by omega)))) ?_
  refine nt ?_
  refine cond_d (p := 286 < nL E.S' a) rfl (fun h286 => ?_) (fun h286 => ?_)
  ·skip
   refine sqr ?_
   refine Mp rfl ?_
   refine Np rfl ?_
   refine L1 (fa95_2 rfl) ?_
   refine L1 (ld2 rfl (hW.F.cellv (by decide) hro)) ?_
   refine L1 (mkI107 rfl) ?_
   refine L1 (asg (v := .iface _ _) rfl) ?_
   refine nt ?_
   refine wp_ret ?_
   refine then_r ?_
   refine ret1 rfl rfl ?_
   exact ⟨_, rfl, _, _, _, { a with pos := posq }.bad, kp, cr_rl hC hW (ho.rle) hZ, rfl, rfl, rfl, rfl, .inl ⟨.inr (.inr (.inr ⟨rfl, _, rfl⟩)), by show (3 : Nat) ≠ 0; decide, by rw [hpos]; exact md_big h14 (.inl h286)⟩⟩
  ·skip
   refine skn ?_
   refine sqr ?_
   refine Mp rfl ?_
   refine Np rfl ?_
   refine L1 (fa95_3 rfl) ?_
   refine L1 (ld82 rfl (hW.F.cellv (by decide) hbb)) ?_
   refine L1 (bi rfl rfl (bn_shr (x := b0) (n := 5) rfl rfl (by decide))) ?_
   refine Np rfl ?_
   refine L1 (fa95_3 rfl) ?_
   refine Lst82 (v := .int _ _) rfl rfl rfl hW.F (by decide) ?_
   intro w1 hb1 kp1
   have hW := hW.setF hE hb1 kp1
   have kp := kp.F kp1
   clear hb1 kp1
   have hZ := hZ.updW hW (by decide)
   have ho := hW.offs (ho.rlu (by decide) _)
   refine nt ?_
   refine sqr ?_
   refine Mp rfl ?_
   refine Np rfl ?_
   refine L1 (fa95_3 rfl) ?_
   refine L1 (ld82 rfl (hW.F.cellv (v := .int _ _) (by decide) rfl)) ?_
   refine L1 (bi rfl rfl ((bn_mask32 (x := b0 / 2 ^ 5) (k := 5) rfl rfl (by omega) (by decide)).trans (congrArg (fun x : Nat => pure (Value.int .u32 (x : Int))) e2))) ?_
   refine L1 (cv82_3 rfl (wrap_s64 _ (by omega) (by omega))) ?_
   refine L1 (bi rfl rfl (bn_add (c := ((nD E.S' a : Nat) : Int)) (by omega) (by omega) (by omega))) ?_
   refine Ai rfl ?_
   refine nt ?_
   refine wp_seq ?_
   refine sqr ?_
   refine Mi rfl ?_
   refine L1 (bi rfl rfl (bn_gtr (v := decide (30 < nD E.S' a)) (decide_eq_decide.2 (by omega)))) ?_
   refine nt ?_
   refine cond_d (p := 30 < nD E.S' a) rfl (fun h30 => ?_) (fun h30 => ?_)
   ·skip
    refine sqr ?_
    refine Mp rfl ?_
    refine Np rfl ?_
    refine L1 (fa95_2 rfl) ?_
    refine L1 (ld2 rfl (hW.F.cellv (by decide) hro)) ?_
    refine L1 (mkI107 rfl) ?_
    refine L1 (asg (v := .iface _ _) rfl) ?_
    refine nt ?_
    refine wp_ret ?_
    refine then_r ?_
    refine ret1 rfl rfl ?_
    exact ⟨_, rfl, _, _, _, { a with pos := posq }.bad, kp, cr_rl hC hW (ho.rle) hZ, rfl, rfl, rfl, rfl, .inl ⟨.inr (.inr (.inr ⟨rfl, _, rfl⟩)), by show (3 : Nat) ≠ 0; decide, by rw [hpos]; exact md_big h14 (.inr h30)⟩⟩
   ·skip
    refine skn ?_
    refine sqr ?_
    refine Mp rfl ?_
    refine Np rfl ?_
    refine L1 (fa95_3 rfl) ?_
    refine L1 (ld82 rfl (hW.F.cellv (v := .int _ _) (by decide) rfl)) ?_
    refine L1 (bi rfl rfl (bn_shr (x := b0 / 2 ^ 5) (n := 5) rfl rfl (by decide))) ?_
    refine Np rfl ?_
    refine L1 (fa95_3 rfl) ?_
    refine Lst82 (v := .int _ _) rfl rfl rfl hW.F (by decide) ?_
    intro w1 hb1 kp1
    have hW := hW.setF hE hb1 kp1
    have kp := kp.F kp1
    clear hb1 kp1
    have hZ := hZ.updW hW (by decide)
    have ho := hW.offs (ho.rlu (by decide) _)
    refine nt ?_
    refine sqr ?_
    refine Mp rfl ?_
    refine Np rfl ?_
    refine L1 (fa95_3 rfl) ?_
    refine L1 (ld82 rfl (hW.F.cellv (v := .int _ _) (by decide) rfl)) ?_
    refine L1 (bi rfl rfl ((bn_mask32 (x := b0 / 2 ^ 5 / 2 ^ 5) (k := 4) rfl rfl (by omega) (by decide)).trans (congrArg (fun x : Nat => pure (Value.int .u32 (x : Int))) e3))) ?_
    refine L1 (cv82_3 rfl (wrap_s64 _ (by omega) (by omega))) ?_
    refine L1 (bi rfl rfl (bn_add (c := ((nC E.S' a : Nat) : Int)) (by omega) (by omega) (by omega))) ?_
    refine Ai rfl ?_
    refine nt ?_
    refine sqr ?_
    refine Mp rfl ?_
    refine Np rfl ?_
    refine L1 (fa95_3 rfl) ?_
    refine L1 (ld82 rfl (hW.F.cellv (v := .int _ _) (by decide) rfl)) ?_
    refine L1 (bi rfl rfl (bn_shr (x := b0 / 2 ^ 5 / 2 ^ 5) (n := 4) rfl rfl (by decide))) ?_
    refine Np rfl ?_
    refine L1 (fa95_3 rfl) ?_
    refine Lst82 (v := .int _ _) rfl rfl rfl hW.F (by decide) ?_
    intro w1 hb1 kp1
    have hW := hW.setF hE hb1 kp1
    have kp := kp.F kp1
    clear hb1 kp1
    have hZ := hZ.updW hW (by decide)
    have ho := hW.offs (ho.rlu (by decide) _)
    refine nt ?_
    refine sqr ?_
    refine Mp rfl ?_
    refine Np rfl ?_
    refine L1 (fa95_4 rfl) ?_
    refine L1 (ld38 rfl (hW.F.cellv (by decide) hB.nb)) ?_
    refine L1 (bi rfl rfl (bn_subu (c := ((8 * posq - a.p - 14 : Nat) : Int)) (by omega) (by omega) (by omega))) ?_
    refine Np rfl ?_
    refine L1 (fa95_4 rfl) ?_
    refine Lst38 (v := .int _ _) rfl rfl rfl hW.F (by decide) ?_
    intro w1 hb1 kp1
    have hW := hW.setF hE hb1 kp1
    have kp := kp.F kp1
    clear hb1 kp1
    have hZ := hZ.updW hW (by decide)
    have ho := hW.offs (ho.rlu (by decide) _)
    refine wpList_nil ?_
    have hB := Bt.advW hW hB 14 (by omega) ⟨_, hro⟩ (hfin _ (by rw [Nat.div_div_eq_div_mul, Nat.div_div_eq_div_mul])) rfl
    have hncl := nC_le E.S' a
    have hnot : ¬ (286 < nL E.S' a ∨ 30 < nD E.S' a) := by omega
    have hL57 : 257 ≤ nL E.S' a := by omega
    have hD1 : 1 ≤ nD E.S' a := by omega
    clear hfin hbb e1 e2 e3 hdv hd14 hbm hbv h32
    rw [hpos] at hW hB ho hZ
    refine then_n ?_
    refine wp_seq ?_
    refine sqr ?_
    refine Ai rfl ?_
    refine nt ?_
    refine wp_block ?_
    refine loop_fr (fun k f w' => f 0 = fp E ∧ f 4 = .int .i64 ((nL E.S' a : Nat) : Int) ∧ f 5 = .int .i64 ((nD E.S' a : Nat) : Int) ∧ f 6 = .int .i64 ((nC E.S' a : Nat) : Int) ∧ ∃ i : Nat, f 7 = .int .i64 ((i : Nat) : Int) ∧ i ≤ nC E.S' a ∧ k = nC E.S' a - i ∧ ∃ g' cs' p' pos' F, Wd E w' g' hs bs cs' pos' ∧ Bt E g' p' pos' ∧ Off RL g g' ∧ HZs g' ∧ Kp E.L w w' ∧ clLens E.S' i (a.p + 14) (rdTo a.p a.pos 14) (fun _ => 0) = some (F, p', pos') ∧ CL cs' F i i) (nC E.S' a) ⟨rfl, rfl, rfl, rfl, 0, rfl, Nat.zero_le _, rfl, _, cs, a.p + 14, _, _, hW, hB, ho, hZ, kp, rfl, CL.start cs⟩ ?_
    clear hW hB ho hZ kp hS hpp hpq hleq hpos hlt hp0 hp1 hro
    intro k f w1 HJ
    obtain ⟨s0, s4, s5, s6, i, s7, hi, rfl, g1, cs1, p1, pos1, F, hW, hB, ho, hZ, kp, hcl, hCL⟩ := HJ
    refine slots (fc s0 (fc s4 (fc s5 (fc s6 (fc s7 fnil))))) ?_
    refine wp_seq ?_
    refine sqr ?_
    refine Mi rfl ?_
    refine Mi rfl ?_
    refine L1 (bi rfl rfl (bn_lss (v := decide (i < nC E.S' a)) (decide_eq_decide.2 (by omega)))) ?_
    refine nt ?_
    refine cond_d (p := i < nC E.S' a) rfl (fun hlt2 => ?_) (fun hlt2 => ?_)
    ·skip
     refine skn ?_
     refine wp_seq ?_
     refine wp_block ?_
     refine wp_seq ?_
     refine wp_block ?_
     refine loop_fr (fun k f w' => f 0 = fp E ∧ f 4 = .int .i64 ((nL E.S' a : Nat) : Int) ∧ f 5 = .int .i64 ((nD E.S' a : Nat) : Int) ∧ f 6 = .int .i64 ((nC E.S' a : Nat) : Int) ∧ f 7 = .int .i64 ((i : Nat) : Int) ∧ ∃ g' pos', Wd E w' g' hs bs cs1 pos' ∧ Bt E g' (p1) pos' ∧ Off RL g g' ∧ HZs g' ∧ Kp E.L w w' ∧ pos1 ≤ pos' ∧ (pos' = pos1 ∨ 8 * pos' < p1 + 3 + 8) ∧ k = E.N - pos') (E.N - pos1) ⟨rfl, rfl, rfl, rfl, rfl, _, pos1, hW, hB, ho, hZ, kp, Nat.le_refl _, .inl rfl, rfl⟩ ?_
     clear hW kp hB ho hZ
     intro k f wq HJ
     obtain ⟨t0, t4, t5, t6, t7, gq, posq, hW, hB, ho, hZ, kp, hpp, hpq, rfl⟩ := HJ
     have hp0 := hB.le
     have hp1 := hB.l32
     have hS := hSt.rl ho
     obtain ⟨ro, hro⟩ := hB.ro
     refine slots (fc t0 (fc t4 (fc t5 (fc t6 (fc t7 fnil))))) ?_
     refine wp_seq ?_
     refine sqr ?_
     refine Mp rfl ?_
     refine Np rfl ?_
     refine L1 (fa95_4 rfl) ?_
     refine L1 (ld38 rfl (hW.F.cellv (by decide) hB.nb)) ?_
     refine L1 (bi rfl rfl (bn_lss (v := decide (8 * posq - (p1) < 3)) (decide_eq_decide.2 (by omega)))) ?_
     refine nt ?_
     refine cond_d (p := 8 * posq - (p1) < 3) rfl (fun hlt => ?_) (fun hlt => ?_)
     ·skip
      by_cases hpn : posq < E.N
      ·skip
       refine skn ?_
       refine wp_block ?_
       refine sqr ?_
       refine Mp rfl ?_
       refine LC (cl1 has41 rfl rfl) (more_ok E _ gq hs bs cs1 (p1) posq hE hW hS hB (by omega) hpn) ?_
       rintro v w1 ⟨rfl, g2, hW, hB, ho2, kp1⟩
       have kpS := kp1.X
       have kp := kp.trans kp1
       have ho := ho.rl ho2 (by decide)
       have hZ := hZ.low ho2 (by decide)
       refine L1 (asg (v := .nilIface) rfl) ?_
       refine nt ?_
       refine sqr ?_
       refine L1 (mv (v := .nilIface) rfl) ?_
       refine L1 (en_nil rfl rfl) ?_
       refine nt ?_
       refine cond_f rfl ?_
       refine wp_skip ?_
       refine inb_n ?_
       refine then_n ?_
       have hle := hW.rd.le
       exact ⟨E.N - (posq + 1), _, by omega, rfl, rfl, rfl, rfl, rfl, rfl, _, posq + 1, hW, hB, ho, hZ, kp, by omega, .inr (by omega), rfl⟩
      ·skip
       refine skn ?_
       refine wp_block ?_
       refine sqr ?_
       refine Mp rfl ?_
       refine LC (cl1 has41 rfl rfl) (more_short E _ gq hs bs cs1 (p1) posq hE hW hS hB (by have := hW.rd.le; omega)) ?_
       rintro v w1 ⟨rfl, hW, kp1⟩
       have kp := kp.trans kp1
       have epq : posq = E.N := by have := hW.rd.le; omega
       rw [epq] at hW
       refine L1 (asg (v := (UEOFv E)) rfl) ?_
       refine nt ?_
       refine sqr ?_
       refine L1 (mv (v := UEOFv E) rfl) ?_
       refine L1 (en_held (u := 131) rfl rfl) ?_
       refine nt ?_
       refine cond_t rfl ?_
       refine sqr ?_
       refine L1 (mv (v := (UEOFv E)) rfl) ?_
       refine L1 (asg (v := (UEOFv E)) rfl) ?_
       refine nt ?_
       refine wp_ret ?_
       refine inb_r ?_
       refine then_r ?_
       refine inb_r ?_
       refine then_r ?_
       refine inb_r ?_
       refine then_r ?_
       refine then_r ?_
       refine inb_r ?_
       refine then_r ?_
       refine ret1 rfl rfl ?_
       exact ⟨_, rfl, _, _, _, a.short E.S', kp, cr_rl hC hW (ho.rle) hZ, rfl, rfl, rfl, rfl, .inl ⟨.inr (.inr (.inl ⟨rfl, rfl⟩)), by show (2 : Nat) ≠ 0; decide, md_cln h14 hnot (by have := clLens_mono (clLens_none hcl (by show 8 * E.N < _; omega)) (nC E.S' a - (i + 1)); rwa [show i + 1 + (nC E.S' a - (i + 1)) = nC E.S' a by omega] at this)⟩⟩
     ·skip
      have hpos : posq = rdTo (p1) pos1 3 := rdTo_of hpp hpq (by omega)
      have hleq := hW.rd.le
      have hbv := bv_lt E.D (p1) (8 * posq - (p1))
      have h32 : bv E.D (p1) (8 * posq - (p1)) < 4294967296 := Nat.lt_of_lt_of_le hbv (Nat.pow_le_pow_right (n := 2) (by decide) (show 8 * posq - (p1) ≤ 32 by omega))
      have hbm : bv E.D (p1) (8 * posq - (p1)) % 2 ^ 3 = bv E.D (p1) 3 := bv_mod E.D (p1) (8 * posq - (p1)) 3 (by omega)
      have hbn := bv_lt E.D (p1) 3
      refine wp_exit ?_
      refine then_e ?_
      refine then_e ?_
      refine inb_same ?_
      refine then_n ?_
      refine wp_seq ?_
      have hC0 : wq.drew.cell? ⟨E.F, 1036, none⟩ = some (.pointer (some ⟨E.cb, 0, none⟩)) ∧ wq.drew.cell? ⟨2, 0 + i, none⟩ = some (.int .i64 ((ordN i : Nat) : Int)) ∧ wq.drew.cell? ⟨E.F, 3, none⟩ = some (.int .u32 ((bv E.D p1 (8 * posq - p1) : Nat) : Int)) := ⟨hW.drew.F.cellv (by decide) hS.cb, by rw [Nat.zero_add, hW.drew.gl.ord i (by omega), order_eq i (by omega)], hW.drew.F.cellv (by decide) hB.b⟩
      have hol := ordN_lt i (by omega)
      have hcbB := hE.bcb
      have hcbF := hE.Fc
      have hG6 := hW.gl.B6
      refine reg_mix [false, false, false, false, false, false, false, false, false, false, false, false, false, false, false, true] (fun w => w.cell? ⟨E.F, 1036, none⟩ = some (.pointer (some ⟨E.cb, 0, none⟩)) ∧ w.cell? ⟨2, 0 + i, none⟩ = some (.int .i64 ((ordN i : Nat) : Int)) ∧ w.cell? ⟨E.F, 3, none⟩ = some (.int .u32 ((bv E.D p1 (8 * posq - p1) : Nat) : Int))) mixed (by kernel_rfl) ?_ ?_
      ·exact hC0
      have hW := hW.drew
      have kp := kp.drew
      refine T1 (fun w hC => mv (v := .pointer _) rfl) ?_
      refine T1 (fun w hC => nilP rfl) ?_
      refine T1 (fun w hC => fa95_8 rfl) ?_
      refine T1 (fun w hC => ld88 rfl hC.1) ?_
      refine T1 (fun w hC => mv (v := .int _ _) rfl) ?_
      refine T1 (fun w hC => ixA und98 sz3 rfl rfl (j := i) rfl (by omega)) ?_
      refine T1 (fun w hC => ld3 (v := .int .i64 ((ordN i : Nat) : Int)) rfl hC.2.1) ?_
      refine T1 (fun w hC => mv (v := .pointer _) rfl) ?_
      refine T1 (fun w hC => nilP rfl) ?_
      refine T1 (fun w hC => fa95_3 rfl) ?_
      refine T1 (fun w hC => ld82 rfl hC.2.2) ?_
      refine T1 (fun w hC => bi rfl rfl ((bn_mask32 (k := 3) rfl rfl h32 (by decide)).trans (congrArg (fun x : Nat => pure (Value.int .u32 (x : Int))) hbm))) ?_
      refine T1 (fun w hC => cv82_3 rfl (wrap_s64 _ (by omega) (by omega))) ?_
      refine T1 (fun w hC => nilP rfl) ?_
      refine T1 (fun w hC => ixA und98 sz3 rfl rfl (j := ordN i) rfl hol) ?_
      refine Est_any 3 sz3 (v := .int .i64 ((bv E.D p1 3 : Nat) : Int)) rfl rfl rfl hW.cb (by omega) ?_
      intro w2 hcb kp1
      refine ⟨⟨kp1.cell hC0.1 (by simp; exact hcbF), kp1.cell hC0.2.1 (by simp; omega), kp1.cell hC0.2.2 (by simp; exact hcbF)⟩, ?_⟩
      have hW := hW.setcb hE (hcb.congr (g' := upd cs1 (ordN i) (.int .i64 ((bv E.D p1 3 : Nat) : Int))) (fun k _ => by rw [Nat.zero_add])) kp1
      have kp := kp.cb kp1
      refine mix_nil ?_
      refine then_n ?_
      refine sqr ?_
      refine Mp rfl ?_
      refine Np rfl ?_
      refine L1 (fa95_3 rfl) ?_
      refine L1 (ld82 rfl (hW.F.cellv (by decide) hB.b)) ?_
      refine L1 (bi rfl rfl (bn_shr (n := 3) rfl rfl (by decide))) ?_
      refine Np rfl ?_
      refine L1 (fa95_3 rfl) ?_
      refine Lst82 (v := .int _ _) rfl rfl rfl hW.F (by decide) ?_
      intro w1 hb1 kp1
      have hW := hW.setF hE hb1 kp1
      have kp := kp.F kp1
      clear hb1 kp1
      have hZ := hZ.updW hW (by decide)
      have ho := hW.offs (ho.rlu (by decide) _)
      refine nt ?_
      refine reg_lit ?_
      refine Mp rfl ?_
      refine Np rfl ?_
      refine L1 (fa95_4 rfl) ?_
      refine L1 (ld38 rfl (hW.F.cellv (by decide) hB.nb)) ?_
      refine L1 (bi rfl rfl (bn_subu (c := ((8 * posq - p1 - 3 : Nat) : Int)) (by omega) (by omega) (by omega))) ?_
      refine Np rfl ?_
      refine L1 (fa95_4 rfl) ?_
      refine Lst38 (v := .int _ _) rfl rfl rfl hW.F (by decide) ?_
      intro w1 hb1 kp1
      have hW := hW.setF hE hb1 kp1
      have kp := kp.F kp1
      clear hb1 kp1
      have hZ := hZ.updW hW (by decide)
      have ho := hW.offs (ho.rlu (by decide) _)
      refine wpList_nil ?_
      have hB := Bt.advW hW hB 3 (by omega) ⟨_, hro⟩ rfl rfl
      have hcl := clLens_step hcl (by show _ ≤ 8 * E.N; omega)
      have hCL := hCL.step (x := bv E.D p1 3) (by omega) (by omega)
      rw [hpos] at hW hB ho hZ
      refine inb_n ?_
      refine then_n ?_
      refine reg_lit ?_
      refine Mi rfl ?_
      refine L1 (bi rfl rfl (bn_add (c := ((i + 1 : Nat) : Int)) (by omega) (by omega) (by omega))) ?_
      refine Ai rfl ?_
      refine nt ?_
      exact ⟨nC E.S' a - (i + 1), _, by omega, rfl, rfl, rfl, rfl, rfl, i + 1, rfl, by omega, rfl, _, _, p1 + 3, _, _, hW, hB, ho, hZ, kp, hcl, hCL⟩
    ·skip
     obtain rfl : i = nC E.S' a := by omega
     have hS := hSt.rl ho
     refine wp_exit ?_
     refine then_e ?_
     refine then_e ?_
     refine inb_same ?_
     refine then_n ?_
     refine wp_seq ?_
     refine sqr ?_
     refine Mi rfl ?_
     refine Ai rfl ?_
     refine nt ?_
     refine wp_block ?_
     refine loop_fr (fun k f w' => f 0 = fp E ∧ f 4 = .int .i64 ((nL E.S' a : Nat) : Int) ∧ f 5 = .int .i64 ((nD E.S' a : Nat) : Int) ∧ ∃ m : Nat, f 9 = .int .i64 ((m : Nat) : Int) ∧ nC E.S' a ≤ m ∧ m ≤ 19 ∧ k = 19 - m ∧ ∃ cs', Wd E w' g1 hs bs cs' pos1 ∧ Kp E.L w w' ∧ CL cs' F (nC E.S' a) m) (19 - nC E.S' a) ⟨rfl, rfl, rfl, nC E.S' a, rfl, Nat.le_refl _, hncl, rfl, cs1, hW, kp, hCL⟩ ?_
     clear hW kp hCL
     intro k f w2 HJ
     obtain ⟨s0, s4, s5, m, s9, hm1, hm2, rfl, cs2, hW, kp, hCL⟩ := HJ
     refine slots (fc s0 (fc s4 (fc s5 (fc s9 fnil)))) ?_
     refine wp_seq ?_
     refine sqr ?_
     refine Mi rfl ?_
     refine L1 (bi rfl rfl (bn_lss (v := decide (m < 19)) (decide_eq_decide.2 (by omega)))) ?_
     refine nt ?_
     refine cond_d (p := m < 19) rfl (fun hlt3 => ?_) (fun hlt3 => ?_)
     ·skip
      refine skn ?_
      refine wp_seq ?_
      refine wp_block ?_
      have hC0 : w2.drew.cell? ⟨E.F, 1036, none⟩ = some (.pointer (some ⟨E.cb, 0, none⟩)) ∧ w2.drew.cell? ⟨2, 0 + m, none⟩ = some (.int .i64 ((ordN m : Nat) : Int)) := ⟨hW.drew.F.cellv (by decide) hS.cb, by rw [Nat.zero_add, hW.drew.gl.ord m hlt3, order_eq m hlt3]⟩
      have hol := ordN_lt m hlt3
      have hcbB := hE.bcb
      have hcbF := hE.Fc
      have hG6 := hW.gl.B6
      refine reg_mix [false, false, false, false, false, false, false, false, false, true] (fun w => w.cell? ⟨E.F, 1036, none⟩ = some (.pointer (some ⟨E.cb, 0, none⟩)) ∧ w.cell? ⟨2, 0 + m, none⟩ = some (.int .i64 ((ordN m : Nat) : Int))) mixed (by kernel_rfl) ?_ ?_
      ·exact hC0
      have hW := hW.drew
      have kp := kp.drew
      refine T1 (fun w hC => mv (v := .pointer _) rfl) ?_
      refine T1 (fun w hC => nilP rfl) ?_
      refine T1 (fun w hC => fa95_8 rfl) ?_
      refine T1 (fun w hC => ld88 rfl hC.1) ?_
      refine T1 (fun w hC => mv (v := .int _ _) rfl) ?_
      refine T1 (fun w hC => ixA und98 sz3 rfl rfl (j := m) rfl hlt3) ?_
      refine T1 (fun w hC => ld3 (v := .int .i64 ((ordN m : Nat) : Int)) rfl hC.2) ?_
      refine T1 (fun w hC => nilP rfl) ?_
      refine T1 (fun w hC => ixA und98 sz3 rfl rfl (j := ordN m) rfl hol) ?_
      refine Est_any 3 sz3 (v := .int .i64 0) rfl rfl rfl hW.cb (by omega) ?_
      intro w3 hcb kp1
      refine ⟨⟨kp1.cell hC0.1 (by simp; exact hcbF), kp1.cell hC0.2 (by simp; omega)⟩, ?_⟩
      have hW := hW.setcb hE (hcb.congr (g' := upd cs2 (ordN m) (.int .i64 0)) (fun k _ => by rw [Nat.zero_add])) kp1
      have kp := kp.cb kp1
      refine mix_nil ?_
      refine inb_n ?_
      refine then_n ?_
      refine reg_lit ?_
      refine Mi rfl ?_
      refine L1 (bi rfl rfl (bn_add (c := ((m + 1 : Nat) : Int)) (by omega) (by omega) (by omega))) ?_
      refine Ai rfl ?_
      refine nt ?_
      exact ⟨19 - (m + 1), _, by omega, rfl, rfl, rfl, rfl, m + 1, rfl, by omega, by omega, rfl, _, hW, kp, hCL.fill hm1 hlt3⟩
     ·skip
      obtain rfl : m = 19 := by omega
      obtain ⟨cl, hcle⟩ : ∃ cl, (List.range 19).map F = cl := ⟨_, rfl⟩
      have hcll : cl.length = 19 := by rw [← hcle]; simp
      have hcl15 : ∀ s, cl.getD s 0 ≤ 15 := by rw [← hcle]; exact hCL.l15
      have hclc : ∀ j, j < cl.length → cs2 (0 + j) = .int .i64 ((cl.getD j 0 : Nat) : Int) := fun j hj => by rw [Nat.zero_add, ← hcle]; rw [hcll] at hj; exact hCL.all j hj
      have hcbF := hE.Fc
      refine wp_exit ?_
      refine then_e ?_
      refine then_e ?_
      refine inb_same ?_
      refine then_n ?_
      refine wp_seq ?_
      refine wp_seq ?_
      have hC0 : w2.drew.cell? ⟨E.F, 1036, none⟩ = some (.pointer (some ⟨E.cb, 0, none⟩)) := hW.drew.F.cellv (by decide) hS.cb
      refine reg_mix [false, false, false, false, false, false, false, false, false, true, false] (fun w => w.cell? ⟨E.F, 1036, none⟩ = some (.pointer (some ⟨E.cb, 0, none⟩))) mixed (by kernel_rfl) ?_ ?_
      ·exact hC0
      have hW := hW.drew
      have kp := kp.drew
      refine T1 (fun w hC => mv (v := .pointer _) rfl) ?_
      refine T1 (fun w hC => nilP rfl) ?_
      refine T1 (fun w hC => fa95_5 rfl) ?_
      refine T1 (fun w hC => mv (v := .pointer _) rfl) ?_
      refine T1 (fun w hC => nilP rfl) ?_
      refine T1 (fun w hC => fa95_8 rfl) ?_
      refine T1 (fun w hC => ld88 rfl hC) ?_
      refine T1 (fun w hC => nilP rfl) ?_
      refine T1 (fun w hC => sl98 rfl rfl) ?_
      have hXl := hW.lts
      have hic := init_c _ E.F 1054 95 5 g1 E.cb 0 19 cl hW.F (by decide) hZ.1 (fun j hj => hW.cb.cellv (by omega) (hclc j hj)) (fun e => hcbF e.symm) hcl15 (by omega)
      rw [hcll] at hic
      refine EC (cl2 has53 rfl rfl rfl) hic ?_
      rintro v w3 ⟨rfl, gx', hF', hout, kp1, hHZ5, hT⟩
      refine ⟨hF'.cellv (by decide) ((hout 1036 (by decide)).trans hS.cb), ?_⟩
      have hW := hW.setF hE hF' kp1
      have kp := kp.F kp1
      have ho := ho.rlo (o := 5) (by decide) hout
      have hB := hB.low (fun j hj => hout j (by omega))
      have hZ : HZs gx' := ⟨hHZ5, hZ.2.keep fun j h1 h2 => hout j (by omega)⟩
      have hS := hSt.rl ho
      obtain ⟨ro, hro⟩ := hB.ro
      refine T1 (fun w hC => un_not rfl) ?_
      refine mix_nil ?_
      refine then_n ?_
      refine cond_b (b := !okL cl) rfl (fun hok => ?_) (fun hok => ?_)
      ·skip
       have hok : okL cl = false := by simpa using hok
       refine sqr ?_
       refine Mp rfl ?_
       refine Np rfl ?_
       refine L1 (fa95_2 rfl) ?_
       refine L1 (ld2 rfl (hW.F.cellv (by decide) hro)) ?_
       refine L1 (mkI107 rfl) ?_
       refine L1 (asg (v := .iface _ _) rfl) ?_
       refine nt ?_
       refine wp_ret ?_
       refine then_r ?_
       refine ret1 rfl rfl ?_
       exact ⟨_, rfl, _, _, _, { a with p := p1, pos := pos1 }.bad, kp, cr_rl hC hW (ho.rle) hZ, rfl, rfl, rfl, rfl, .inl ⟨.inr (.inr (.inr ⟨rfl, _, rfl⟩)), by show (3 : Nat) ≠ 0; decide, md_clb h14 hnot hcl (by rw [hcle]; exact hok)⟩⟩
      ·skip
       have hok : okL cl = true := by simpa using hok
       have hT := hT hok E (.inr hXl)
       have hmxc : mx cl ≤ 15 := mx_le15 hcl15
       have hLk : LkOk (cdL cl) := lk_ok hok hmxc (by omega) _ (Nat.le_refl _) (Nat.le_trans (mn_mx cl) hmxc)
       have hok' : okL ((List.range 19).map F) = true := by rw [hcle]; exact hok
       clear hok hout hF' kp1 hHZ5 hC0 hclc hCL hXl
       refine skn ?_
       refine wp_seq ?_
       refine sqr ?_
       refine Mi rfl ?_
       refine Mi rfl ?_
       refine L1 (bi rfl rfl (bn_add (c := ((nL E.S' a + nD E.S' a : Nat) : Int)) (by omega) (by omega) (by omega))) ?_
       refine Ai rfl ?_
       refine Ai rfl ?_
       refine nt ?_
       refine wp_block ?_
       refine loop_fr (fun k f w' => f 0 = fp E ∧ f 4 = .int .i64 ((nL E.S' a : Nat) : Int) ∧ f 5 = .int .i64 ((nD E.S' a : Nat) : Int) ∧ f 11 = .int .i64 ((nL E.S' a + nD E.S' a : Nat) : Int) ∧ ∃ l : List Nat, f 10 = .int .i64 ((l.length : Nat) : Int) ∧ l.length ≤ nL E.S' a + nD E.S' a ∧ k = nL E.S' a + nD E.S' a - l.length ∧ ∃ fuel g' bs' p' pos', Wd E w' g' hs bs' cs2 pos' ∧ Bt E g' p' pos' ∧ Off RL g g' ∧ HZs g' ∧ Kp E.L w w' ∧ HTab E w' g' 5 (cdL cl) ∧ LB bs' l ∧ nL E.S' a + nD E.S' a ≤ fuel + l.length ∧ rdLens E.S' (cdL cl) (nL E.S' a + nD E.S' a) (nL E.S' a + nD E.S' a) [] p1 pos1 = rdLens E.S' (cdL cl) (nL E.S' a + nD E.S' a) fuel l p' pos') (nL E.S' a + nD E.S' a) ⟨rfl, rfl, rfl, rfl, [], rfl, Nat.zero_le _, rfl, nL E.S' a + nD E.S' a, _, bs, p1, pos1, hW, hB, ho, hZ, kp, hT, LB.nil bs, Nat.le_refl _, rfl⟩ ?_
       clear hW hB ho hZ kp hT hS hro
       intro k f w4 HJ
       obtain ⟨s0, s4, s5, s11, l, s10, hll, rfl, fuel, g2, bs2, p2, pos2, hW, hB, ho, hZ, kp, hT, hLB, hfu, hrd⟩ := HJ
       have hS := hSt.rl ho
       refine slots (fc s0 (fc s4 (fc s5 (fc s10 (fc s11 fnil))))) ?_
       refine wp_seq ?_
       refine sqr ?_
       refine Mi rfl ?_
       refine Mi rfl ?_
       refine L1 (bi rfl rfl (bn_lss (v := decide (l.length < nL E.S' a + nD E.S' a)) (decide_eq_decide.2 (by omega)))) ?_
       refine nt ?_
       refine cond_d (p := l.length < nL E.S' a + nD E.S' a) rfl (fun hlt5 => ?_) (fun hlt5 => ?_)
       ·skip
        have hnl5 : ¬ nL E.S' a + nD E.S' a ≤ l.length := by omega
        obtain ⟨fu, rfl⟩ : ∃ fu, fuel = fu + 1 := ⟨fuel - 1, by omega⟩
        refine skn ?_
        refine wp_block ?_
        refine sqr ?_
        refine Mp rfl ?_
        refine Mp rfl ?_
        refine Np rfl ?_
        refine L1 (fa95_5 rfl) ?_
        refine LC (cl2 has54 rfl rfl rfl) (sym_c E _ g2 hs bs2 cs2 p2 pos2 E.F 5 (cdL cl) hE hW hS hB (.inl ⟨rfl, .inl rfl, hT⟩) hLk) ?_
        rintro v w5 hpost
        obtain ⟨x, ev, rfl, kp1, hcs⟩ := hpost.cases
        have kpS := kp1.X
        have kp := kp.trans kp1
        clear kp1 hpost
        refine L1 (mv (v := .tuple _) rfl) ?_
        refine L1 (ext2_0 rfl) ?_
        refine L1 (ext2_1 rfl) ?_
        refine Ai rfl ?_
        refine L1 (asg (v := ev) rfl) ?_
        refine wpList_nil ?_
        rcases hcs with ⟨p3, pos3, g3, hsy, rfl, hW, hB, ho2⟩ | ⟨g3, hsy, rfl, hW, ho2⟩ | ⟨p3, pos3, g3, x1, hsy, rfl, hW, ho2⟩
        ·skip
         have hx19 := getSym_in hcl15 hsy
         rw [hcll] at hx19
         obtain ⟨ro, hro⟩ := hB.ro
         have ho := ho.rl ho2 (by decide)
         have hZ := hZ.low ho2 (by decide)
         have hT := hT.offs kpS ho2 (by decide)
         have hS := hSt.rl ho
         have hbtF := hE.Fb
         clear ho2
         refine then_n ?_
         refine wp_seq ?_
         refine sqr ?_
         refine L1 (mv (v := .nilIface) rfl) ?_
         refine L1 (en_nil rfl rfl) ?_
         refine nt ?_
         refine cond_f rfl ?_
         refine skn ?_
         refine wp_seq ?_
         refine sqr ?_
         refine Mi rfl ?_
         refine L1 (bi rfl rfl (bn_lss (v := decide (x < 16)) (decide_eq_decide.2 (by omega)))) ?_
         refine nt ?_
         refine cond_d (p := x < 16) rfl (fun h16 => ?_) (fun h16 => ?_)
         ·skip
          refine sqr ?_
          refine Mp rfl ?_
          refine Np rfl ?_
          refine L1 (fa95_7 rfl) ?_
          refine L1 (ld87 rfl (hW.F.cellv (by decide) hS.bt)) ?_
          refine Mi rfl ?_
          refine Mi rfl ?_
          refine Np rfl ?_
          refine L1 (ixA und97 sz3 rfl rfl (j := l.length) rfl (by omega)) ?_
          refine Lst3 (v := .int .i64 ((x : Nat) : Int)) rfl rfl rfl hW.bt (by omega) ?_
          intro w6 hbt kp1
          have hW := hW.setbt hE (hbt.congr (g' := upd bs2 l.length (.int .i64 ((x : Nat) : Int))) (fun k _ => by rw [Nat.zero_add])) kp1
          have hT := hT.keep (kp1.mono (by simp [Env.X])) (fun _ _ _ => rfl)
          have kp := kp.bt kp1
          have hLB := hLB.push (x := x) (by omega)
          refine nt ?_
          refine sqr ?_
          refine Mi rfl ?_
          refine L1 (bi rfl rfl (bn_add (c := ((l.length + 1 : Nat) : Int)) (by omega) (by omega) (by omega))) ?_
          refine Ai rfl ?_
          refine nt ?_
          refine wp_exit ?_
          refine then_e ?_
          refine inb_same ?_
          refine then_n ?_
          exact ⟨nL E.S' a + nD E.S' a - (l.length + 1), _, by omega, rfl, rfl, rfl, rfl, rfl, l ++ [x], by rw [List.length_append]; rfl, by rw [List.length_append]; show l.length + 1 ≤ _; omega, by rw [List.length_append]; rfl, fu, _, _, p3, pos3, hW, hB, ho, hZ, kp, hT, hLB, by rw [List.length_append]; show _ ≤ fu + (l.length + 1); omega, hrd.trans (rl_one hnl5 hsy h16)⟩
         ·skip
          refine skn ?_
          refine sqr ?_
          refine Ai rfl ?_
          refine nt ?_
          refine sqr ?_
          refine Ai rfl ?_
          refine nt ?_
          refine sqr ?_
          refine Ai rfl ?_
          refine nt ?_
          refine seq_cut (N := 340) (fun f w' => w5 = w' ∧ f 0 = fp E ∧ f 4 = .int .i64 ((nL E.S' a : Nat) : Int) ∧ f 5 = .int .i64 ((nD E.S' a : Nat) : Int) ∧ f 10 = .int .i64 ((l.length : Nat) : Int) ∧ f 11 = .int .i64 ((nL E.S' a + nD E.S' a : Nat) : Int) ∧ f 14 = .int .i64 ((rlR x : Nat) : Int) ∧ f 15 = .int .u64 ((rlB x : Nat) : Int) ∧ f 16 = .int .i64 ((rlV x l : Nat) : Int) ∧ ¬ (x = 16 ∧ l.length = 0)) ?_ ?_
          ·skip
           refine sqr ?_
           refine Mi rfl ?_
           refine nt ?_
           refine wp_block ?_
           refine sqr ?_
           refine L1 (bi rfl rfl (bn_eql (v := decide (x = 16)) (decide_eq_decide.2 (by omega)))) ?_
           refine Ab rfl ?_
           refine nt ?_
           refine cond_d (p := x = 16) rfl (fun hx16 => ?_) (fun hx16 => ?_)
           ·skip
            subst hx16
            refine sqr ?_
            refine Ai rfl ?_
            refine nt ?_
            refine sqr ?_
            refine Ai rfl ?_
            refine nt ?_
            refine wp_seq ?_
            refine sqr ?_
            refine Mi rfl ?_
            refine L1 (bi rfl rfl (bn_eql (v := decide (l.length = 0)) (decide_eq_decide.2 (by omega)))) ?_
            refine nt ?_
            refine cond_d (p := l.length = 0) rfl (fun hl0 => ?_) (fun hl0 => ?_)
            ·skip
             refine sqr ?_
             refine Mp rfl ?_
             refine Np rfl ?_
             refine L1 (fa95_2 rfl) ?_
             refine L1 (ld2 rfl (hW.F.cellv (by decide) hro)) ?_
             refine L1 (mkI107 rfl) ?_
             refine L1 (asg (v := .iface _ _) rfl) ?_
             refine nt ?_
             refine wp_ret ?_
             refine then_r ?_
             refine inb_r ?_
             refine then_r ?_
             refine inb_r ?_
             refine then_r ?_
             refine inb_r ?_
             refine then_r ?_
             refine ret1 rfl rfl ?_
             exact ⟨_, rfl, _, _, _, { a with p := p3, pos := pos3 }.bad, kp, cr_rl hC hW (ho.rle) hZ, rfl, rfl, rfl, rfl, .inl ⟨.inr (.inr (.inr ⟨rfl, _, rfl⟩)), by show (3 : Nat) ≠ 0; decide, md_rb h14 hnot hcl hok' (by rw [hcle]; exact hrd.trans (rl_first hnl5 hsy hl0))⟩⟩
            ·skip
             refine skn ?_
             refine reg_lit ?_
             refine Mp rfl ?_
             refine Np rfl ?_
             refine L1 (fa95_7 rfl) ?_
             refine L1 (ld87 rfl (hW.F.cellv (by decide) hS.bt)) ?_
             refine Mi rfl ?_
             refine L1 (bi rfl rfl (bn_sub (c := ((l.length - 1 : Nat) : Int)) (by omega) (by omega) (by omega))) ?_
             refine Np rfl ?_
             refine L1 (ixA und97 sz3 rfl rfl (j := l.length - 1) rfl (by omega)) ?_
             refine L1 (ld3 (v := .int .i64 ((l.getD (l.length - 1) 0 : Nat) : Int)) rfl (hW.bt.cellv (by omega) (by rw [Nat.zero_add]; exact hLB.cell _ (by omega)))) ?_
             refine Ai rfl ?_
             refine wpList_nil ?_
             refine inb_n ?_
             refine then_n ?_
             exact ⟨_, rfl, rfl, rfl, rfl, rfl, rfl, rfl, rfl, rfl, rfl, fun e => hl0 e.2⟩
           ·skip
            refine sqr ?_
            refine L1 (bi rfl rfl (bn_eql (v := decide (x = 17)) (decide_eq_decide.2 (by omega)))) ?_
            refine Ab rfl ?_
            refine nt ?_
            refine cond_d (p := x = 17) rfl (fun hx17 => ?_) (fun hx17 => ?_)
            ·skip
             subst hx17
             refine sqr ?_
             refine Ai rfl ?_
             refine nt ?_
             refine sqr ?_
             refine Ai rfl ?_
             refine nt ?_
             refine reg_lit ?_
             refine Ai rfl ?_
             refine wpList_nil ?_
             refine inb_n ?_
             refine then_n ?_
             exact ⟨_, rfl, rfl, rfl, rfl, rfl, rfl, rfl, rfl, rfl, rfl, fun e => absurd e.1 (by decide)⟩
            ·skip
             refine sqr ?_
             refine L1 (bi rfl rfl (bn_eql (v := decide (x = 18)) (decide_eq_decide.2 (by omega)))) ?_
             refine Ab rfl ?_
             refine nt ?_
             refine cond_d (p := x = 18) rfl (fun hx18 => ?_) (fun hx18 => ?_)
             ·skip
              subst hx18
              refine sqr ?_
              refine Ai rfl ?_
              refine nt ?_
              refine sqr ?_
              refine Ai rfl ?_
              refine nt ?_
              refine reg_lit ?_
              refine Ai rfl ?_
              refine wpList_nil ?_
              refine inb_n ?_
              refine then_n ?_
              exact ⟨_, rfl, rfl, rfl, rfl, rfl, rfl, rfl, rfl, rfl, rfl, fun e => absurd e.1 (by decide)⟩
             ·skip
              exfalso
              omega
          ·skip
           rintro f _ ⟨rfl, s0, s4, s5, s10, s11, s14, s15, s16, h0⟩
           have hrb := fun hb => rl_bshort (k := fu) hnl5 hsy h16 h0 hb
           have hrg := fun hb hn => rl_big (k := fu) hnl5 hsy h16 h0 hb hn
           have hrm := fun hb hn => rl_more (k := fu) hnl5 hsy h16 h0 hb hn
           obtain ⟨nb, hnb⟩ : ∃ nb, rlB x = nb := ⟨_, rfl⟩
           obtain ⟨rr, hrr⟩ : ∃ rr, rlR x = rr := ⟨_, rfl⟩
           obtain ⟨v, hv⟩ : ∃ v, rlV x l = v := ⟨_, rfl⟩
           have hnb7 : nb ≤ 7 := by rw [← hnb]; unfold rlB; split; omega; split <;> omega
           have hrr11 : 3 ≤ rr ∧ rr ≤ 11 := by rw [← hrr]; unfold rlR; split <;> omega
           have hv15 : v ≤ 15 := by rw [← hv]; unfold rlV; split; exact hLB.le _; omega
           rw [hnb] at s15 hrb hrg hrm
           rw [hrr] at s14 hrg hrm
           rw [hv] at s16 hrm
           refine slots (fc s0 (fc s4 (fc s5 (fc s10 (fc s11 (fc s14 (fc s15 (fc s16 fnil)))))))) ?_
           have h2n : 2 ^ nb ≤ 2 ^ 7 := Nat.pow_le_pow_right (n := 2) (by decide) hnb7
           have h27 : (2 : Nat) ^ 7 = 128 := rfl
           have h2p : 0 < 2 ^ nb := Nat.two_pow_pos _
           refine wp_seq ?_
           refine wp_block ?_
           refine loop_fr (fun k f w' => f 0 = fp E ∧ f 4 = .int .i64 ((nL E.S' a : Nat) : Int) ∧ f 5 = .int .i64 ((nD E.S' a : Nat) : Int) ∧ f 10 = .int .i64 ((l.length : Nat) : Int) ∧ f 11 = .int .i64 ((nL E.S' a + nD E.S' a : Nat) : Int) ∧ f 14 = .int .i64 ((rr : Nat) : Int) ∧ f 15 = .int .u64 ((nb : Nat) : Int) ∧ f 16 = .int .i64 ((v : Nat) : Int) ∧ ∃ g' pos', Wd E w' g' hs bs2 cs2 pos' ∧ Bt E g' (p3) pos' ∧ Off RL g g' ∧ HZs g' ∧ Kp E.L w w' ∧ pos3 ≤ pos' ∧ (pos' = pos3 ∨ 8 * pos' < p3 + nb + 8) ∧ k = E.N - pos' ∧ HTab E w' g' 5 (cdL cl)) (E.N - pos3) ⟨rfl, rfl, rfl, rfl, rfl, rfl, rfl, rfl, _, pos3, hW, hB, ho, hZ, kp, Nat.le_refl _, .inl rfl, rfl, hT⟩ ?_
           clear hW kp hB ho hZ hT
           intro k f wq HJ
           obtain ⟨t0, t4, t5, t10, t11, t14, t15, t16, gq, posq, hW, hB, ho, hZ, kp, hpp, hpq, rfl, hT⟩ := HJ
           have hp0 := hB.le
           have hp1 := hB.l32
           have hS := hSt.rl ho
           obtain ⟨ro, hro⟩ := hB.ro
           refine slots (fc t0 (fc t4 (fc t5 (fc t10 (fc t11 (fc t14 (fc t15 (fc t16 fnil)))))))) ?_
           refine wp_seq ?_
           refine sqr ?_
           refine Mp rfl ?_
           refine Np rfl ?_
           refine L1 (fa95_4 rfl) ?_
           refine L1 (ld38 rfl (hW.F.cellv (by decide) hB.nb)) ?_
           refine Mi rfl ?_
           refine L1 (bi rfl rfl (bn_lss (v := decide (8 * posq - (p3) < nb)) (decide_eq_decide.2 (by omega)))) ?_
           refine nt ?_
           refine cond_d (p := 8 * posq - (p3) < nb) rfl (fun hlt => ?_) (fun hlt => ?_)
           ·skip
            by_cases hpn : posq < E.N
            ·skip
             refine skn ?_
             refine wp_block ?_
             refine sqr ?_
             refine Mp rfl ?_
             refine LC (cl1 has41 rfl rfl) (more_ok E _ gq hs bs2 cs2 (p3) posq hE hW hS hB (by omega) hpn) ?_
             rintro v w1 ⟨rfl, g2, hW, hB, ho2, kp1⟩
             have kpS := kp1.X
             have kp := kp.trans kp1
             have ho := ho.rl ho2 (by decide)
             have hZ := hZ.low ho2 (by decide)
             have hT := hT.offs kpS ho2 (by decide)
             refine L1 (asg (v := .nilIface) rfl) ?_
             refine nt ?_
             refine sqr ?_
             refine L1 (mv (v := .nilIface) rfl) ?_
             refine L1 (en_nil rfl rfl) ?_
             refine nt ?_
             refine cond_f rfl ?_
             refine wp_skip ?_
             refine inb_n ?_
             refine then_n ?_
             have hle := hW.rd.le
             exact ⟨E.N - (posq + 1), _, by omega, rfl, rfl, rfl, rfl, rfl, rfl, rfl, rfl, rfl, _, posq + 1, hW, hB, ho, hZ, kp, by omega, .inr (by omega), rfl, hT⟩
            ·skip
             refine skn ?_
             refine wp_block ?_
             refine sqr ?_
             refine Mp rfl ?_
             refine LC (cl1 has41 rfl rfl) (more_short E _ gq hs bs2 cs2 (p3) posq hE hW hS hB (by have := hW.rd.le; omega)) ?_
             rintro v w1 ⟨rfl, hW, kp1⟩
             have kp := kp.trans kp1
             have epq : posq = E.N := by have := hW.rd.le; omega
             rw [epq] at hW
             refine L1 (asg (v := (UEOFv E)) rfl) ?_
             refine nt ?_
             refine sqr ?_
             refine L1 (mv (v := UEOFv E) rfl) ?_
             refine L1 (en_held (u := 131) rfl rfl) ?_
             refine nt ?_
             refine cond_t rfl ?_
             refine sqr ?_
             refine L1 (mv (v := (UEOFv E)) rfl) ?_
             refine L1 (asg (v := (UEOFv E)) rfl) ?_
             refine nt ?_
             refine wp_ret ?_
             refine inb_r ?_
             refine then_r ?_
             refine inb_r ?_
             refine then_r ?_
             refine inb_r ?_
             refine then_r ?_
             refine inb_r ?_
             refine then_r ?_
             refine ret1 rfl rfl ?_
             exact ⟨_, rfl, _, _, _, a.short E.S', kp, cr_rl hC hW (ho.rle) hZ, rfl, rfl, rfl, rfl, .inl ⟨.inr (.inr (.inl ⟨rfl, rfl⟩)), by show (2 : Nat) ≠ 0; decide, md_rs h14 hnot hcl hok' (by rw [hcle]; exact hrd.trans (hrb (by show 8 * E.N < _; omega)))⟩⟩
           ·skip
            have hpos : posq = rdTo (p3) pos3 nb := rdTo_of hpp hpq (by omega)
            have hleq := hW.rd.le
            have hbv := bv_lt E.D (p3) (8 * posq - (p3))
            have h32 : bv E.D (p3) (8 * posq - (p3)) < 4294967296 := Nat.lt_of_lt_of_le hbv (Nat.pow_le_pow_right (n := 2) (by decide) (show 8 * posq - (p3) ≤ 32 by omega))
            have hbm : bv E.D (p3) (8 * posq - (p3)) % 2 ^ nb = bv E.D (p3) nb := bv_mod E.D (p3) (8 * posq - (p3)) nb (by omega)
            have hbn := bv_lt E.D (p3) nb
            refine wp_exit ?_
            refine then_e ?_
            refine then_e ?_
            refine inb_same ?_
            refine then_n ?_
            refine sqr ?_
            refine Mi rfl ?_
            refine Mp rfl ?_
            refine Np rfl ?_
            refine L1 (fa95_3 rfl) ?_
            refine L1 (ld82 rfl (hW.F.cellv (by decide) hB.b)) ?_
            refine Mi rfl ?_
            refine L1 (bi rfl rfl (bn_shl32 (x := 1) rfl rfl (by omega) (by omega))) ?_
            refine L1 (bi rfl rfl (bn_sub32 (c := ((2 ^ nb - 1 : Nat) : Int)) (by omega) (by omega) (by omega))) ?_
            refine L1 (bi rfl rfl ((bn_mask32 (k := nb) rfl rfl h32 (by omega)).trans (congrArg (fun x : Nat => pure (Value.int .u32 (x : Int))) hbm))) ?_
            refine L1 (cv82_3 rfl (wrap_s64 _ (by omega) (by omega))) ?_
            refine L1 (bi rfl rfl (bn_add (c := ((rr + bv E.D p3 nb : Nat) : Int)) (by omega) (by omega) (by omega))) ?_
            refine Ai rfl ?_
            refine nt ?_
            refine wp_seq ?_
            have hT0 := hT
            have kpq := Kp.refl E.X wq
            refine reg_lit ?_
            refine Mp rfl ?_
            refine Np rfl ?_
            refine L1 (fa95_3 rfl) ?_
            refine L1 (ld82 rfl (hW.F.cellv (by decide) hB.b)) ?_
            refine Mi rfl ?_
            refine L1 (bi rfl rfl (bn_shr (n := nb) rfl rfl (by show nb ≤ 32; omega))) ?_
            refine Np rfl ?_
            refine L1 (fa95_3 rfl) ?_
            refine Lst82 (v := .int _ _) rfl rfl rfl hW.F (by decide) ?_
            intro w1 hb1 kp1
            have hW := hW.setF hE hb1 kp1
            have kp := kp.F kp1
            have kpq := kpq.trans (kp1.mono (by simp [Env.X]))
            clear hb1 kp1
            have hZ := hZ.updW hW (by decide)
            have ho := hW.offs (ho.rlu (by decide) _)
            refine nt ?_
            refine sqr ?_
            refine Mp rfl ?_
            refine Np rfl ?_
            refine L1 (fa95_4 rfl) ?_
            refine L1 (ld38 rfl (hW.F.cellv (by decide) hB.nb)) ?_
            refine Mi rfl ?_
            refine L1 (bi rfl rfl (bn_subu (c := ((8 * posq - p3 - nb : Nat) : Int)) (by omega) (by omega) (by omega))) ?_
            refine Np rfl ?_
            refine L1 (fa95_4 rfl) ?_
            refine Lst38 (v := .int _ _) rfl rfl rfl hW.F (by decide) ?_
            intro w1 hb1 kp1
            have hW := hW.setF hE hb1 kp1
            have kp := kp.F kp1
            have kpq := kpq.trans (kp1.mono (by simp [Env.X]))
            clear hb1 kp1
            have hZ := hZ.updW hW (by decide)
            have ho := hW.offs (ho.rlu (by decide) _)
            refine wpList_nil ?_
            have hB := Bt.advW hW hB nb (by omega) ⟨_, hro⟩ rfl rfl
            have hT := hT0.offs kpq (hW.offs (((Off.refl [3, 4] gq).upd (k := 3) (by decide) _).upd (k := 4) (by decide) _)) (by decide)
            have hS := hSt.rl ho
            have hr2 := hB.ro
            obtain ⟨ro2, hro2⟩ := hr2
            obtain ⟨rep, hrep⟩ : ∃ rep, rr + bv E.D p3 nb = rep := ⟨_, rfl⟩
            have hrep2 : 3 ≤ rep ∧ rep ≤ 138 := by omega
            have hrg := hrg (by show _ ≤ 8 * E.N; omega)
            have hrm := hrm (by show _ ≤ 8 * E.N; omega)
            have hrg : _ := hrg
            change bv E.S'.D p3 nb < 2 ^ nb at hbn
            rw [show bv E.S'.D p3 nb = bv E.D p3 nb from rfl, hrep] at hrg hrm
            rw [← hpos] at hrg hrm
            clear kpq hT0
            refine then_n ?_
            refine wp_seq ?_
            refine sqr ?_
            refine L1 (mv rfl) ?_
            refine L1 (mv (v := .int .i64 ((rep : Nat) : Int)) (by show Value.int .i64 ((rr + bv E.D p3 nb : Nat) : Int) = _; rw [hrep])) ?_
            refine L1 (bi rfl rfl (bn_add (c := ((l.length + rep : Nat) : Int)) (by omega) (by omega) (by omega))) ?_
            refine Mi rfl ?_
            refine L1 (bi rfl rfl (bn_gtr (v := decide (nL E.S' a + nD E.S' a < l.length + rep)) (decide_eq_decide.2 (by omega)))) ?_
            refine nt ?_
            refine cond_d (p := nL E.S' a + nD E.S' a < l.length + rep) rfl (fun hbig => ?_) (fun hbig => ?_)
            ·skip
             refine sqr ?_
             refine Mp rfl ?_
             refine Np rfl ?_
             refine L1 (fa95_2 rfl) ?_
             refine L1 (ld2 rfl (hW.F.cellv (by decide) hro2)) ?_
             refine L1 (mkI107 rfl) ?_
             refine L1 (asg (v := .iface _ _) rfl) ?_
             refine nt ?_
             refine wp_ret ?_
             refine then_r ?_
             refine inb_r ?_
             refine then_r ?_
             refine inb_r ?_
             refine then_r ?_
             refine ret1 rfl rfl ?_
             exact ⟨_, rfl, _, _, _, { a with p := p3 + nb, pos := posq }.bad, kp, cr_rl hC hW (ho.rle) hZ, rfl, rfl, rfl, rfl, .inl ⟨.inr (.inr (.inr ⟨rfl, _, rfl⟩)), by show (3 : Nat) ≠ 0; decide, md_rb h14 hnot hcl hok' (by rw [hcle]; exact hrd.trans (hrg hbig))⟩⟩
            ·skip
             have hrm := hrm hbig
             refine skn ?_
             refine sqr ?_
             refine Ai rfl ?_
             refine nt ?_
             refine wp_block ?_
             obtain ⟨g5, hg5⟩ : ∃ g5, (upd (upd gq 3 (.int .u32 ((bv E.D p3 (8 * posq - p3) / 2 ^ nb : Nat) : Int))) 4 (.int .u64 ((8 * posq - p3 - nb : Nat) : Int))) = g5 := ⟨_, rfl⟩
             rw [hg5] at hW hB ho hZ hT hS
             refine loop_fr (fun k f w' => f 0 = fp E ∧ f 4 = .int .i64 ((nL E.S' a : Nat) : Int) ∧ f 5 = .int .i64 ((nD E.S' a : Nat) : Int) ∧ f 11 = .int .i64 ((nL E.S' a + nD E.S' a : Nat) : Int) ∧ f 14 = .int .i64 ((rep : Nat) : Int) ∧ f 16 = .int .i64 ((v : Nat) : Int) ∧ ∃ j : Nat, f 18 = .int .i64 ((j : Nat) : Int) ∧ f 10 = .int .i64 ((l.length + j : Nat) : Int) ∧ j ≤ rep ∧ k = rep - j ∧ ∃ bs', Wd E w' g5 hs bs' cs2 posq ∧ Kp E.L w w' ∧ HTab E w' g5 5 (cdL cl) ∧ LB bs' (l ++ List.replicate j v)) rep ⟨rfl, rfl, rfl, rfl, (by show Value.int .i64 ((rr + bv E.D p3 nb : Nat) : Int) = _; rw [hrep]), rfl, 0, rfl, rfl, Nat.zero_le _, rfl, bs2, hW, kp, hT, by simpa using hLB⟩ ?_
             clear hW kp hT hLB
             intro k f w7 HJ
             obtain ⟨s0, s4, s5, s11, s14, s16, j, s18, s10, hj, rfl, bs3, hW, kp, hT, hLB⟩ := HJ
             refine slots (fc s0 (fc s4 (fc s5 (fc s10 (fc s11 (fc s14 (fc s16 (fc s18 fnil)))))))) ?_
             refine wp_seq ?_
             refine sqr ?_
             refine Mi rfl ?_
             refine Mi rfl ?_
             refine L1 (bi rfl rfl (bn_lss (v := decide (j < rep)) (decide_eq_decide.2 (by omega)))) ?_
             refine nt ?_
             refine cond_d (p := j < rep) rfl (fun hltj => ?_) (fun hltj => ?_)
             ·skip
              refine skn ?_
              refine wp_seq ?_
              refine wp_block ?_
              refine sqr ?_
              refine Mp rfl ?_
              refine Np rfl ?_
              refine L1 (fa95_7 rfl) ?_
              refine L1 (ld87 rfl (hW.F.cellv (by decide) hS.bt)) ?_
              refine Mi rfl ?_
              refine Mi rfl ?_
              refine Np rfl ?_
              refine L1 (ixA und97 sz3 rfl rfl (j := l.length + j) rfl (by omega)) ?_
              refine Lst3 (v := .int .i64 ((v : Nat) : Int)) rfl rfl rfl hW.bt (by omega) ?_
              intro w8 hbt kp1
              have hW := hW.setbt hE (hbt.congr (g' := upd bs3 (l.length + j) (.int .i64 ((v : Nat) : Int))) (fun k _ => by rw [Nat.zero_add])) kp1
              have hT := hT.keep (kp1.mono (by simp [Env.X])) (fun _ _ _ => rfl)
              have kp := kp.bt kp1
              have hLB := hLB.rep hv15
              refine nt ?_
              refine reg_lit ?_
              refine Mi rfl ?_
              refine L1 (bi rfl rfl (bn_add (c := ((l.length + (j + 1) : Nat) : Int)) (by omega) (by omega) (by omega))) ?_
              refine Ai rfl ?_
              refine wpList_nil ?_
              refine inb_n ?_
              refine then_n ?_
              refine reg_lit ?_
              refine Mi rfl ?_
              refine L1 (bi rfl rfl (bn_add (c := ((j + 1 : Nat) : Int)) (by omega) (by omega) (by omega))) ?_
              refine Ai rfl ?_
              refine nt ?_
              exact ⟨rep - (j + 1), _, by omega, rfl, rfl, rfl, rfl, rfl, rfl, rfl, j + 1, rfl, rfl, by omega, rfl, _, hW, kp, hT, hLB⟩
             ·skip
              obtain rfl : rep = j := by omega
              refine wp_exit ?_
              refine then_e ?_
              refine then_e ?_
              refine inb_same ?_
              refine inb_n ?_
              refine then_n ?_
              have hln2 : (l ++ List.replicate rep v).length = l.length + rep := by simp
              exact ⟨nL E.S' a + nD E.S' a - (l.length + rep), _, by omega, rfl, rfl, rfl, rfl, rfl, l ++ List.replicate rep v, by rw [hln2]; rfl, by omega, by rw [hln2], fu, _, _, _, _, hW, hB, ho, hZ, kp, hT, hLB, by omega, hrd.trans hrm⟩
        ·skip
         have ho := ho.rl ho2 (by decide)
         have hZ := hZ.low ho2 (by decide)
         refine then_n ?_
         refine wp_seq ?_
         refine sqr ?_
         refine L1 (mv (v := UEOFv E) rfl) ?_
         refine L1 (en_held (u := 131) rfl rfl) ?_
         refine nt ?_
         refine cond_t rfl ?_
         refine sqr ?_
         refine L1 (mv (v := (UEOFv E)) rfl) ?_
         refine L1 (asg (v := (UEOFv E)) rfl) ?_
         refine nt ?_
         refine wp_ret ?_
         refine then_r ?_
         refine inb_r ?_
         refine then_r ?_
         refine inb_r ?_
         refine then_r ?_
         refine ret1 rfl rfl ?_
         exact ⟨_, rfl, _, _, _, a.short E.S', kp, cr_rl hC hW (ho.rle) hZ, rfl, rfl, rfl, rfl, .inl ⟨.inr (.inr (.inl ⟨rfl, rfl⟩)), by show (2 : Nat) ≠ 0; decide, md_rs h14 hnot hcl hok' (by rw [hcle]; exact hrd.trans (rl_short hnl5 hsy))⟩⟩
        ·skip
         have hZ := hZ.low ho2 (by decide)
         refine then_n ?_
         refine wp_seq ?_
         refine sqr ?_
         refine L1 (mv (v := .iface _ _) rfl) ?_
         refine L1 (en_held rfl rfl) ?_
         refine nt ?_
         refine cond_t rfl ?_
         refine sqr ?_
         refine L1 (mv (v := .iface _ _) rfl) ?_
         refine L1 (asg (v := .iface _ _) rfl) ?_
         refine nt ?_
         refine wp_ret ?_
         refine then_r ?_
         refine inb_r ?_
         refine then_r ?_
         refine inb_r ?_
         refine then_r ?_
         refine ret1 rfl rfl ?_
         exact ⟨_, rfl, _, _, _, { a with p := p3, pos := pos3 }.bad, kp, cr_rl hC hW (ho.rle.trans (ho2.mono (fun k hk => (RLe_mem k).2 (by simp at hk; omega)))) hZ, rfl, rfl, rfl, rfl, .inl ⟨.inr (.inr (.inr ⟨rfl, _, rfl⟩)), by show (3 : Nat) ≠ 0; decide, md_rb h14 hnot hcl hok' (by rw [hcle]; exact hrd.trans (rl_bad hnl5 hsy))⟩⟩
       ·skip
        obtain hln : l.length = nL E.S' a + nD E.S' a := by omega
        have hrk : rdLens E.S' (cdL cl) (nL E.S' a + nD E.S' a) (nL E.S' a + nD E.S' a) [] p1 pos1 = .ok l p2 pos2 := by rw [hrd]; exact rl_done (by omega)
        clear hrd hfu
        have htl : (l.take (nL E.S' a)).length = nL E.S' a := by rw [List.length_take]; omega
        have hdl : (l.drop (nL E.S' a)).length = nL E.S' a + nD E.S' a - nL E.S' a := by rw [List.length_drop, hln]
        have hbtF := hE.Fb
        have hmx1 : mx (l.take (nL E.S' a)) ≤ 15 := mx_le15 (hLB.take15 _)
        have hmx2 : mx (l.drop (nL E.S' a)) ≤ 15 := mx_le15 (hLB.drop15 _)
        have hl256 := hLB.le 256
        clear hT hLk
        refine wp_exit ?_
        refine then_e ?_
        refine then_e ?_
        refine inb_same ?_
        refine then_n ?_
        refine wp_seq ?_
        refine wp_seq ?_
        have hC0 : w4.drew.cell? ⟨E.F, 1035, none⟩ = some (.pointer (some ⟨E.bt, 0, none⟩)) := hW.drew.F.cellv (by decide) hS.bt
        refine reg_mix [false, false, false, false, false, false, false, false, false, false, true, false, false, false, false, false, false, false, false, false, false, false, false, false, false, false, true, false, false] (fun w => w.cell? ⟨E.F, 1035, none⟩ = some (.pointer (some ⟨E.bt, 0, none⟩))) mixed (by kernel_rfl) ?_ ?_
        ·exact hC0
        have hW := hW.drew
        have kp := kp.drew
        obtain hok1 | hok1 : okL (l.take (nL E.S' a)) = false ∨ okL (l.take (nL E.S' a)) = true := by cases okL (l.take (nL E.S' a)) <;> simp
        ·skip
         refine T1 (fun w hC => mv (v := .pointer _) rfl) ?_
         refine T1 (fun w hC => nilP rfl) ?_
         refine T1 (fun w hC => fa95_5 rfl) ?_
         refine T1 (fun w hC => mv (v := .pointer _) rfl) ?_
         refine T1 (fun w hC => nilP rfl) ?_
         refine T1 (fun w hC => fa95_7 rfl) ?_
         refine T1 (fun w hC => ld87 rfl hC) ?_
         refine T1 (fun w hC => nilP rfl) ?_
         refine T1 (fun w hC => mv (v := .int _ _) rfl) ?_
         refine T1 (fun w hC => sl97 (l := 0) (h := nL E.S' a) rfl rfl rfl rfl rfl (by omega) (by omega) (by omega)) ?_
         have hXl := hW.lts
         have hic := init_c _ E.F 1054 95 5 g2 E.bt 0 316 (l.take (nL E.S' a)) hW.F (by decide) hZ.1 (fun j hj => hW.bt.cellv (by omega) (hLB.take j hj)) (fun e => hbtF e.symm) (hLB.take15 _) (by omega)
         rw [htl] at hic
         refine EC (cl2 has53 rfl rfl rfl) hic ?_
         rintro v1 w5 ⟨hv1, gx1, hF1, hout1, kp1, hHZ1, hT1⟩
         rw [hok1] at hv1
         subst hv1
         refine ⟨hF1.cellv (by decide) ((hout1 1035 (by decide)).trans hS.bt), ?_⟩
         have hW := hW.setF hE hF1 kp1
         have kp := kp.F kp1
         have ho := ho.rlo (o := 5) (by decide) hout1
         have hB := hB.low (fun j hj => hout1 j (by omega))
         have hZ : HZs gx1 := ⟨hHZ1, hZ.2.keep fun j h1 h2 => hout1 j (by omega)⟩
         have hS := hSt.rl ho
         obtain ⟨ro, hro⟩ := hB.ro
         refine T1 (fun w hC => un_not rfl) ?_
         refine T1 (fun w hC => mv (v := .bool _) rfl) ?_
         refine Tskip (t := 294) (b := false) rfl (by decide) rfl ?_
         refine Tskip (t := 294) (b := false) rfl (by decide) rfl ?_
         refine Tskip (t := 294) (b := false) rfl (by decide) rfl ?_
         refine Tskip (t := 294) (b := false) rfl (by decide) rfl ?_
         refine Tskip (t := 294) (b := false) rfl (by decide) rfl ?_
         refine Tskip (t := 294) (b := false) rfl (by decide) rfl ?_
         refine Tskip (t := 294) (b := false) rfl (by decide) rfl ?_
         refine Tskip (t := 294) (b := false) rfl (by decide) rfl ?_
         refine Tskip (t := 294) (b := false) rfl (by decide) rfl ?_
         refine Tskip (t := 294) (b := false) rfl (by decide) rfl ?_
         refine Tskip (t := 294) (b := false) rfl (by decide) rfl ?_
         refine Tskip (t := 294) (b := false) rfl (by decide) rfl ?_
         refine Tskip (t := 294) (b := false) rfl (by decide) rfl ?_
         refine Eskip (t := 294) (b := false) rfl (by decide) rfl ?_
         refine Tskip (t := 294) (b := false) rfl (by decide) rfl ?_
         refine T1 (fun w hC => pk_t rfl rfl) ?_
         refine mix_nil ?_
         refine then_n ?_
         refine cond_t rfl ?_
         refine sqr ?_
         refine Mp rfl ?_
         refine Np rfl ?_
         refine L1 (fa95_2 rfl) ?_
         refine L1 (ld2 rfl (hW.F.cellv (by decide) hro)) ?_
         refine L1 (mkI107 rfl) ?_
         refine L1 (asg (v := .iface _ _) rfl) ?_
         refine nt ?_
         refine wp_ret ?_
         refine then_r ?_
         refine ret1 rfl rfl ?_
         exact ⟨_, rfl, _, _, _, { a with p := p2, pos := pos2 }.bad, kp, cr_rl hC hW (ho.rle) hZ, rfl, rfl, rfl, rfl, .inl ⟨.inr (.inr (.inr ⟨rfl, _, rfl⟩)), by show (3 : Nat) ≠ 0; decide, md_kb h14 hnot hcl hok' (by rw [hcle]; exact hrk) (.inl hok1)⟩⟩
        ·skip
         refine T1 (fun w hC => mv (v := .pointer _) rfl) ?_
         refine T1 (fun w hC => nilP rfl) ?_
         refine T1 (fun w hC => fa95_5 rfl) ?_
         refine T1 (fun w hC => mv (v := .pointer _) rfl) ?_
         refine T1 (fun w hC => nilP rfl) ?_
         refine T1 (fun w hC => fa95_7 rfl) ?_
         refine T1 (fun w hC => ld87 rfl hC) ?_
         refine T1 (fun w hC => nilP rfl) ?_
         refine T1 (fun w hC => mv (v := .int _ _) rfl) ?_
         refine T1 (fun w hC => sl97 (l := 0) (h := nL E.S' a) rfl rfl rfl rfl rfl (by omega) (by omega) (by omega)) ?_
         have hXl := hW.lts
         have hic := init_c _ E.F 1054 95 5 g2 E.bt 0 316 (l.take (nL E.S' a)) hW.F (by decide) hZ.1 (fun j hj => hW.bt.cellv (by omega) (hLB.take j hj)) (fun e => hbtF e.symm) (hLB.take15 _) (by omega)
         rw [htl] at hic
         refine EC (cl2 has53 rfl rfl rfl) hic ?_
         rintro v1 w5 ⟨hv1, gx1, hF1, hout1, kp1, hHZ1, hT1⟩
         rw [hok1] at hv1
         subst hv1
         refine ⟨hF1.cellv (by decide) ((hout1 1035 (by decide)).trans hS.bt), ?_⟩
         have hW := hW.setF hE hF1 kp1
         have kp := kp.F kp1
         have ho := ho.rlo (o := 5) (by decide) hout1
         have hB := hB.low (fun j hj => hout1 j (by omega))
         have hZ : HZs gx1 := ⟨hHZ1, hZ.2.keep fun j h1 h2 => hout1 j (by omega)⟩
         have hS := hSt.rl ho
         obtain ⟨ro, hro⟩ := hB.ro
         refine T1 (fun w hC => un_not rfl) ?_
         refine T1 (fun w hC => mv (v := .bool _) rfl) ?_
         have hT1 := hT1 hok1 E (.inr hXl)
         obtain hok2 | hok2 : okL (l.drop (nL E.S' a)) = false ∨ okL (l.drop (nL E.S' a)) = true := by cases okL (l.drop (nL E.S' a)) <;> simp
         ·skip
          refine T1g (t := 294) (b := false) rfl (by decide) rfl (fun w hC => mv (v := .pointer _) rfl) ?_
          refine T1g (t := 294) (b := false) rfl (by decide) rfl (fun w hC => nilP rfl) ?_
          refine T1g (t := 294) (b := false) rfl (by decide) rfl (fun w hC => fa95_6 rfl) ?_
          refine T1g (t := 294) (b := false) rfl (by decide) rfl (fun w hC => mv (v := .pointer _) rfl) ?_
          refine T1g (t := 294) (b := false) rfl (by decide) rfl (fun w hC => nilP rfl) ?_
          refine T1g (t := 294) (b := false) rfl (by decide) rfl (fun w hC => fa95_7 rfl) ?_
          refine T1g (t := 294) (b := false) rfl (by decide) rfl (fun w hC => ld87 rfl hC) ?_
          refine T1g (t := 294) (b := false) rfl (by decide) rfl (fun w hC => nilP rfl) ?_
          refine T1g (t := 294) (b := false) rfl (by decide) rfl (fun w hC => mv (v := .int _ _) rfl) ?_
          refine T1g (t := 294) (b := false) rfl (by decide) rfl (fun w hC => mv (v := .int _ _) rfl) ?_
          refine T1g (t := 294) (b := false) rfl (by decide) rfl (fun w hC => mv (v := .int _ _) rfl) ?_
          refine T1g (t := 294) (b := false) rfl (by decide) rfl (fun w hC => bi rfl rfl (bn_add (c := ((nL E.S' a + nD E.S' a : Nat) : Int)) (by omega) (by omega) (by omega))) ?_
          refine T1g (t := 294) (b := false) rfl (by decide) rfl (fun w hC => sl97 (l := nL E.S' a) (h := nL E.S' a + nD E.S' a) rfl rfl rfl rfl rfl (by omega) (by omega) (by omega)) ?_
          have hXl := hW.lts
          have hic := init_c _ E.F 1054 95 520 gx1 E.bt (nL E.S' a) (316 - (nL E.S' a)) (l.drop (nL E.S' a)) hW.F (by decide) hZ.2 (fun j hj => hW.bt.cellv (by omega) (hLB.drop j hj)) (fun e => hbtF e.symm) (hLB.drop15 _) (by omega)
          rw [hdl] at hic
          refine ECg (t := 294) (b := false) rfl (by decide) rfl (cl2 has53 rfl rfl rfl) hic ?_
          rintro v2 w6 ⟨hv2, gx2, hF2, hout2, kp2, hHZ2, hT2⟩
          rw [hok2] at hv2
          subst hv2
          refine ⟨hF2.cellv (by decide) ((hout2 1035 (by decide)).trans hS.bt), ?_⟩
          have hW := hW.setF hE hF2 kp2
          have kp := kp.F kp2
          have ho := ho.rlo (o := 520) (by decide) hout2
          have hB := hB.low (fun j hj => hout2 j (by omega))
          have hZ : HZs gx2 := ⟨hZ.1.keep fun j h1 h2 => hout2 j (by omega), hHZ2⟩
          have hS := hSt.rl ho
          obtain ⟨ro, hro⟩ := hB.ro
          refine T1g (t := 294) (b := false) rfl (by decide) rfl (fun w hC => un_not rfl) ?_
          refine T1 (fun w hC => pk_f rfl rfl) ?_
          refine mix_nil ?_
          refine then_n ?_
          refine cond_t rfl ?_
          refine sqr ?_
          refine Mp rfl ?_
          refine Np rfl ?_
          refine L1 (fa95_2 rfl) ?_
          refine L1 (ld2 rfl (hW.F.cellv (by decide) hro)) ?_
          refine L1 (mkI107 rfl) ?_
          refine L1 (asg (v := .iface _ _) rfl) ?_
          refine nt ?_
          refine wp_ret ?_
          refine then_r ?_
          refine ret1 rfl rfl ?_
          exact ⟨_, rfl, _, _, _, { a with p := p2, pos := pos2 }.bad, kp, cr_rl hC hW (ho.rle) hZ, rfl, rfl, rfl, rfl, .inl ⟨.inr (.inr (.inr ⟨rfl, _, rfl⟩)), by show (3 : Nat) ≠ 0; decide, md_kb h14 hnot hcl hok' (by rw [hcle]; exact hrk) (.inr hok2)⟩⟩
         ·skip
          refine T1g (t := 294) (b := false) rfl (by decide) rfl (fun w hC => mv (v := .pointer _) rfl) ?_
          refine T1g (t := 294) (b := false) rfl (by decide) rfl (fun w hC => nilP rfl) ?_
          refine T1g (t := 294) (b := false) rfl (by decide) rfl (fun w hC => fa95_6 rfl) ?_
          refine T1g (t := 294) (b := false) rfl (by decide) rfl (fun w hC => mv (v := .pointer _) rfl) ?_
          refine T1g (t := 294) (b := false) rfl (by decide) rfl (fun w hC => nilP rfl) ?_
          refine T1g (t := 294) (b := false) rfl (by decide) rfl (fun w hC => fa95_7 rfl) ?_
          refine T1g (t := 294) (b := false) rfl (by decide) rfl (fun w hC => ld87 rfl hC) ?_
          refine T1g (t := 294) (b := false) rfl (by decide) rfl (fun w hC => nilP rfl) ?_
          refine T1g (t := 294) (b := false) rfl (by decide) rfl (fun w hC => mv (v := .int _ _) rfl) ?_
          refine T1g (t := 294) (b := false) rfl (by decide) rfl (fun w hC => mv (v := .int _ _) rfl) ?_
          refine T1g (t := 294) (b := false) rfl (by decide) rfl (fun w hC => mv (v := .int _ _) rfl) ?_
          refine T1g (t := 294) (b := false) rfl (by decide) rfl (fun w hC => bi rfl rfl (bn_add (c := ((nL E.S' a + nD E.S' a : Nat) : Int)) (by omega) (by omega) (by omega))) ?_
          refine T1g (t := 294) (b := false) rfl (by decide) rfl (fun w hC => sl97 (l := nL E.S' a) (h := nL E.S' a + nD E.S' a) rfl rfl rfl rfl rfl (by omega) (by omega) (by omega)) ?_
          have hXl := hW.lts
          have hic := init_c _ E.F 1054 95 520 gx1 E.bt (nL E.S' a) (316 - (nL E.S' a)) (l.drop (nL E.S' a)) hW.F (by decide) hZ.2 (fun j hj => hW.bt.cellv (by omega) (hLB.drop j hj)) (fun e => hbtF e.symm) (hLB.drop15 _) (by omega)
          rw [hdl] at hic
          refine ECg (t := 294) (b := false) rfl (by decide) rfl (cl2 has53 rfl rfl rfl) hic ?_
          rintro v2 w6 ⟨hv2, gx2, hF2, hout2, kp2, hHZ2, hT2⟩
          rw [hok2] at hv2
          subst hv2
          refine ⟨hF2.cellv (by decide) ((hout2 1035 (by decide)).trans hS.bt), ?_⟩
          have hW := hW.setF hE hF2 kp2
          have kp := kp.F kp2
          have ho := ho.rlo (o := 520) (by decide) hout2
          have hB := hB.low (fun j hj => hout2 j (by omega))
          have hZ : HZs gx2 := ⟨hZ.1.keep fun j h1 h2 => hout2 j (by omega), hHZ2⟩
          have hS := hSt.rl ho
          obtain ⟨ro, hro⟩ := hB.ro
          refine T1g (t := 294) (b := false) rfl (by decide) rfl (fun w hC => un_not rfl) ?_
          refine T1 (fun w hC => pk_f rfl rfl) ?_
          refine mix_nil ?_
          have hT1 := hT1.keep (kp2.mono (by simp [Env.X])) (fun j h1 h2 => hout2 j (by omega))
          have hT2 := hT2 hok2 E (.inr hXl)
          have hrk' : rdLens E.S' (cdL ((List.range 19).map F)) (nL E.S' a + nD E.S' a) (nL E.S' a + nD E.S' a) [] p1 pos1 = .ok l p2 pos2 := by rw [hcle]; exact hrk
          have hmd2 := md_ok h14 hnot hcl hok' hrk' hok1 hok2
          have hm15 : max (mn (l.take (nL E.S' a))) (l.getD 256 0) ≤ 15 := by have := mn_mx (l.take (nL E.S' a)); omega
          have hLk1 : LkOk ⟨max (mn (l.take (nL E.S' a))) (l.getD 256 0), lkL (l.take (nL E.S' a))⟩ := lk_ok hok1 hmx1 (by omega) _ (Nat.le_max_left _ _) hm15
          have hLk2 : LkOk (cdL (l.drop (nL E.S' a))) := lk_ok hok2 hmx2 (by omega) _ (Nat.le_refl _) (Nat.le_trans (mn_mx _) hmx2)
          refine then_n ?_
          refine cond_f rfl ?_
          refine skn ?_
          refine wp_seq ?_
          refine wp_seq ?_
          refine reg_still mixed (by kernel_rfl) ?_
          have hW := hW.drew
          have kp := kp.drew
          have hT1 := hT1.keep ((Kp.refl E.X _).drew) (fun _ _ _ => rfl)
          have hT2 := hT2.keep ((Kp.refl E.X _).drew) (fun _ _ _ => rfl)
          refine S1 (mv (v := .pointer _) rfl) ?_
          refine S1 (nilP rfl) ?_
          refine S1 (fa95_5 rfl) ?_
          refine S1 (fb86_0 rfl) ?_
          refine S1 (ld3 (v := .int .i64 ((mn (l.take (nL E.S' a)) : Nat) : Int)) rfl (hW.F.cellv (by decide) hT1.1)) ?_
          refine S1 (mv (v := .pointer _) rfl) ?_
          refine S1 (nilP rfl) ?_
          refine S1 (fa95_7 rfl) ?_
          refine S1 (ld87 rfl (hW.F.cellv (by decide) hS.bt)) ?_
          refine S1 (nilP rfl) ?_
          refine S1 (ixA und97 sz3 rfl rfl (j := 256) rfl (by decide)) ?_
          refine S1 (ld3 (v := .int .i64 ((l.getD 256 0 : Nat) : Int)) rfl (hW.bt.cellv (by decide) (hLB.cell 256 (by omega)))) ?_
          refine S1 (bi rfl rfl (bn_lss (v := decide (mn (l.take (nL E.S' a)) < l.getD 256 0)) (decide_eq_decide.2 (by omega)))) ?_
          refine still_nil ?_
          refine then_n ?_
          refine cond_d (p := mn (l.take (nL E.S' a)) < l.getD 256 0) rfl (fun hmin => ?_) (fun hmin => ?_)
          ·skip
           refine reg_lit ?_
           refine Mp rfl ?_
           refine Mp rfl ?_
           refine Np rfl ?_
           refine L1 (fa95_7 rfl) ?_
           refine L1 (ld87 rfl (hW.F.cellv (by decide) hS.bt)) ?_
           refine Np rfl ?_
           refine L1 (ixA und97 sz3 rfl rfl (j := 256) rfl (by decide)) ?_
           refine L1 (ld3 (v := .int .i64 ((l.getD 256 0 : Nat) : Int)) rfl (hW.bt.cellv (by decide) (hLB.cell 256 (by omega)))) ?_
           refine Np rfl ?_
           refine L1 (fa95_5 rfl) ?_
           refine L1 (fb86_0 rfl) ?_
           refine Lst3 (v := .int .i64 ((l.getD 256 0 : Nat) : Int)) rfl rfl rfl hW.F (by decide) ?_
           intro w8 hF8 kp8
           have hW := hW.setF hE hF8 kp8
           have kpx := kp8.mono (L' := E.X) (by simp [Env.X])
           have kp := kp.F kp8
           have hT1 : HTab E w8 (upd gx2 5 (.int .i64 ((l.getD 256 0 : Nat) : Int))) 5 ⟨max (mn (l.take (nL E.S' a))) (l.getD 256 0), lkL (l.take (nL E.S' a))⟩ := by rw [Nat.max_eq_right (Nat.le_of_lt hmin)]; exact hT1.min kpx
           have hT2 := hT2.offs kpx ((Off.refl [5] gx2).upd (k := 5) (by decide) (.int .i64 ((l.getD 256 0 : Nat) : Int))) (by decide)
           have hB := hB.off ((Off.refl [5] gx2).upd (k := 5) (by decide) (.int .i64 ((l.getD 256 0 : Nat) : Int))) (by decide)
           have hZ : HZs (upd gx2 5 (.int .i64 ((l.getD 256 0 : Nat) : Int))) := ⟨hz_min (o := 5) (g := gx2) (m := l.getD 256 0) (by omega), hZ.2.keep fun j h1 h2 => upd_ne _ _ _ _ (by omega)⟩
           have ho := hW.offs (ho.rlu (by decide) _)
           refine nt ?_
           refine sqr ?_
           refine L1 (asg (v := .nilIface) rfl) ?_
           refine nt ?_
           refine wp_ret ?_
           refine ret1 rfl rfl ?_
           exact ⟨_, rfl, _, _, _, { a with p := p2, pos := pos2, md := .huff ⟨max (mn (l.take (nL E.S' a))) (l.getD 256 0), lkL (l.take (nL E.S' a))⟩ (some (cdL (l.drop (nL E.S' a)))) none }, kp, cr_rl hC hW ho.rle hZ, rfl, rfl, rfl, rfl, .inr ⟨rfl, herr, _, _, hmd2, rfl, hLk1, hLk2, hT1, hT2, hB, fun j hj => ho.rlf j hj⟩⟩
          ·skip
           have hT1 : HTab E w6.drew gx2 5 ⟨max (mn (l.take (nL E.S' a))) (l.getD 256 0), lkL (l.take (nL E.S' a))⟩ := by rw [Nat.max_eq_left (by omega)]; exact hT1
           refine skn ?_
           refine sqr ?_
           refine L1 (asg (v := .nilIface) rfl) ?_
           refine nt ?_
           refine wp_ret ?_
           refine ret1 rfl rfl ?_
           exact ⟨_, rfl, _, _, _, { a with p := p2, pos := pos2, md := .huff ⟨max (mn (l.take (nL E.S' a))) (l.getD 256 0), lkL (l.take (nL E.S' a))⟩ (some (cdL (l.drop (nL E.S' a)))) none }, kp, cr_rl hC hW ho.rle hZ, rfl, rfl, rfl, rfl, .inr ⟨rfl, herr, _, _, hmd2, rfl, hLk1, hLk2, hT1, hT2, hB, fun j hj => ho.rlf j hj⟩⟩
end Go.Proofs.YtejeloeaklpinaaDoor
namespace Go.Proofs.YtejeloeaklpinaaDoor
open Go.ChangeShapes Go.WideShapes Go.ChangeAt Go.RowKit
/-- All that is asked of the codes holds. -/
theorem hc_all : HC := ⟨fixed_c, huff_c, dyn_c⟩
theorem hc_of (data dict : List Nat) : HCof data dict := fun _ _ _ => hc_all
section
variable {ρ : Operand → Value} {d : Option Nat} {x y z u v : Operand} {ty : TypeId} {pos : String} {af : Array Edge} {gd : Option (Nat × Bool)} {w : World}
end
attribute [local irreducible] wpList wpStill wpMix Code.wp Calls fr
end Go.Proofs.YtejeloeaklpinaaDoor
namespace Go.Proofs.YtejeloeaklpinaaDoor
/-- The cells of a reader of the reference. -/
def rx (dv : Value) (bit : Nat) (ov : Value) (base st edge : Nat) (k : Nat) : Value :=
 if k = 0 then dv else if k = 1 then .int .i64 (bit : Int) else if k = 2 then ov else if k = 3 then .int .i64 (base : Int) else if k = 4 then .int .i64 (st : Int) else .int .i64 (edge : Int)
section
variable {dv ov ov' : Value} {bit bit' base st st' edge edge' : Nat}
theorem rx_1 (k : Nat) : upd (rx dv bit ov base st edge) 1 (.int .i64 (bit' : Int)) k = rx dv bit' ov base st edge k := by
 unfold upd rx
 by_cases h : k = 1
 ·subst h; rfl
 ·rw [if_neg h, if_neg h, if_neg h]
theorem rx_2 (k : Nat) : upd (rx dv bit ov base st edge) 2 ov' k = rx dv bit ov' base st edge k := by
 unfold upd rx
 by_cases h : k = 2
 ·subst h; rfl
 ·rw [if_neg h, if_neg h, if_neg h]
theorem rx_4 (k : Nat) : upd (rx dv bit ov base st edge) 4 (.int .i64 (st' : Int)) k = rx dv bit ov base st' edge k := by
 unfold upd rx
 by_cases h : k = 4
 ·subst h; rfl
 ·rw [if_neg h, if_neg h, if_neg h]
theorem rx_5 (k : Nat) (hk : k < 6) : upd (rx dv bit ov base st edge) 5 (.int .i64 (edge' : Int)) k = rx dv bit ov base st edge' k := by
 unfold upd rx
 by_cases h : k = 5
 ·subst h; rfl
 ·rw [if_neg h]
  by_cases h0 : k = 0
  ·rw [if_pos h0, if_pos h0]
  ·by_cases h1 : k = 1
   ·subst h1; rfl
   ·by_cases h2 : k = 2
    ·subst h2; rfl
    ·by_cases h3 : k = 3
     ·subst h3; rfl
     ·have h4 : k = 4 := by omega
      subst h4; rfl
end
/-- One bit of the source. -/
theorem bit_of {data : List Nat} (hb : ∀ x ∈ data, x < 256) {p : Nat} (hp : p < 8 * data.length) : bv (srcOf data).D p 1 = data.getD (p / 8) 0 / 2 ^ (p % 8) % 2 := by
 have h1 := srcb hb (i := p / 8) (by omega)
 have h2 := bv_shift (srcOf data).D (8 * (p / 8)) 8 (p % 8) (by omega)
 have h3 := bv_mod (srcOf data).D (8 * (p / 8) + p % 8) (8 - p % 8) 1 (by omega)
 rw [← h2, h1] at h3
 rw [show 8 * (p / 8) + p % 8 = p by omega] at h3
 rw [← h3]
theorem bv_succ (D p i : Nat) : bv D p (i + 1) = bv D p i + bv D (p + i) 1 * 2 ^ i := by rw [bv_add, Nat.mul_comm]
/-- The codes of one length among the first i symbols; all of lengths up to n. -/
def symN (L : List Nat) (n i : Nat) : List Nat := (List.range i).filter (fun s => L.getD s 0 == n)
def symA (L : List Nat) : Nat → List Nat
 | 0 => []
 | n + 1 => symA L n ++ symN L (n + 1) L.length
def syms (L : List Nat) : List Nat := symA L 15
section
variable {L : List Nat}
theorem symN_succ (n i : Nat) : symN L n (i + 1) = symN L n i ++ (if L.getD i 0 = n then [i] else []) := by
 unfold symN
 rw [List.range_succ, List.filter_append]
 congr 1
 by_cases h : L.getD i 0 = n
 ·rw [if_pos h]; exact List.filter_cons_of_pos (beq_iff_eq.2 h)
 ·rw [if_neg h]; exact List.filter_cons_of_neg (fun e => h (beq_iff_eq.1 e))
theorem symN_len (n : Nat) : ∀ i, i ≤ L.length → (symN L n i).length = cnt (L.take i) n
 | 0, _ => by simp [symN, cnt]
 | i + 1, h => by
  rw [symN_succ, List.length_append, symN_len n i (by omega), cnt_take_succ L i n (by omega)]
  split <;> rfl
theorem symN_pre (n i : Nat) : ∀ d, ∃ r, symN L n (i + d) = symN L n i ++ r
 | 0 => ⟨[], by simp⟩
 | d + 1 => by
  obtain ⟨r, h⟩ := symN_pre n i d
  exact ⟨r ++ (if L.getD (i + d) 0 = n then [i + d] else []), by rw [← Nat.add_assoc, symN_succ, h, List.append_assoc]⟩
theorem symN_get {n s : Nat} (hs : s < L.length) (h : L.getD s 0 = n) : (symN L n L.length).getD (cnt (L.take s) n) 0 = s := by
 obtain ⟨r, hr⟩ := symN_pre (L := L) n (s + 1) (L.length - (s + 1))
 rw [show s + 1 + (L.length - (s + 1)) = L.length by omega] at hr
 rw [hr, symN_succ, if_pos h, List.append_assoc, ← symN_len n s (by omega), List.getD_eq_getElem?_getD, List.getElem?_append_right (Nat.le_refl _), Nat.sub_self]
 rfl
theorem symA_succ (n : Nat) : (symA L (n + 1)).length = (symA L n).length + cnt L (n + 1) := by
 rw [symA, List.length_append, symN_len _ _ (Nat.le_refl _), List.take_length]
theorem symA_pre (n : Nat) : ∀ d, ∃ r, symA L (n + d) = symA L n ++ r
 | 0 => ⟨[], by simp⟩
 | d + 1 => by
  obtain ⟨r, h⟩ := symA_pre n d
  exact ⟨r ++ symN L (n + d + 1) L.length, by rw [← Nat.add_assoc, symA, h, List.append_assoc]⟩
theorem symA_mono {n m : Nat} (h : n ≤ m) : (symA L n).length ≤ (symA L m).length := by
 obtain ⟨r, hr⟩ := symA_pre (L := L) n (m - n)
 rw [show n + (m - n) = m by omega] at hr
 rw [hr, List.length_append]; omega
/-- All symbols are passed where no code is longer. -/
theorem symA_all {n : Nat} (h : mx L ≤ n) (hn : n ≤ 15) : (symA L n).length = (syms L).length := by
 unfold syms
 have key : ∀ d, n + d ≤ 15 → (symA L (n + d)).length = (symA L n).length := by
  intro d
  induction d with
  | zero => intro _; rfl
  | succ d ih => intro hd; rw [← Nat.add_assoc, symA_succ, ih (by omega), cnt_gt (by omega)]; rfl
 have := key (15 - n) (by omega)
 rw [show n + (15 - n) = 15 by omega] at this
 exact this.symm
theorem mx_ex : ∀ {L : List Nat}, mx L ≠ 0 → ∃ s, s < L.length ∧ L.getD s 0 = mx L
 | [], h => by simp [mx] at h
 | a :: l, h => by
  by_cases ha : mx l ≤ a
  ·refine ⟨0, by simp, ?_⟩
   simp only [mx]
   show a = _
   omega
  ·obtain ⟨s, h1, h2⟩ := mx_ex (L := l) (by omega)
   refine ⟨s + 1, by simpa using h1, ?_⟩
   have e : (a :: l).getD (s + 1) 0 = l.getD s 0 := by simp
   rw [e, h2]
   simp only [mx]
   omega
theorem cnt_mx (h : mx L ≠ 0) : 0 < cnt L (mx L) := by
 obtain ⟨s, h1, h2⟩ := mx_ex h
 exact Nat.lt_of_le_of_lt (Nat.zero_le _) (cnt_lt L h1 h2)
theorem symA_lt {n : Nat} (h : n < mx L) (h15 : mx L ≤ 15) : (symA L n).length < (syms L).length := by
 have h1 := cnt_mx (L := L) (by omega)
 have h2 := symA_succ (L := L) (mx L - 1)
 rw [show mx L - 1 + 1 = mx L by omega] at h2
 have h3 := symA_mono (L := L) (n := n) (m := mx L - 1) (by omega)
 have h4 := symA_mono (L := L) h15
 unfold syms
 omega
theorem flen (p : Nat → Bool) (a : Nat) (l : List Nat) : ((a :: l).filter p).length = (if p a = true then 1 else 0) + (l.filter p).length := by
 by_cases h : p a = true
 ·rw [List.filter_cons_of_pos h, if_pos h, List.length_cons]; omega
 ·rw [List.filter_cons_of_neg h, if_neg h]; omega
theorem fsplit (n : Nat) : ∀ L : List Nat, (L.filter (fun a => decide (1 ≤ a ∧ a ≤ n + 1))).length = (L.filter (fun a => decide (1 ≤ a ∧ a ≤ n))).length + cnt L (n + 1)
 | [] => rfl
 | a :: l => by
  have ih := fsplit n l
  unfold cnt at ih ⊢
  rw [flen, flen, flen]
  simp only [decide_eq_true_eq, beq_iff_eq]
  split <;> split <;> split <;> omega
theorem symA_cnt : ∀ n, (symA L n).length = (L.filter (fun a => decide (1 ≤ a ∧ a ≤ n))).length
 | 0 => by
  have : L.filter (fun a => decide (1 ≤ a ∧ a ≤ 0)) = [] := List.filter_eq_nil_iff.2 fun a _ => by simp; omega
  rw [this]; rfl
 | n + 1 => by rw [symA_succ, symA_cnt n, fsplit]
theorem syms_len : (syms L).length ≤ L.length := by
 unfold syms
 rw [symA_cnt]
 exact List.length_filter_le _ _
/-- The symbol that stands at its code's place. -/
theorem syms_get {n s : Nat} (h1 : 1 ≤ n) (hn : n ≤ 15) (hs : s < L.length) (h : L.getD s 0 = n) : (syms L).getD ((symA L (n - 1)).length + cnt (L.take s) n) 0 = s ∧ (symA L (n - 1)).length + cnt (L.take s) n < (syms L).length := by
 obtain ⟨r, hr⟩ := symA_pre (L := L) n (15 - n)
 rw [show n + (15 - n) = 15 by omega] at hr
 have e : symA L n = symA L (n - 1) ++ symN L n L.length := by
  obtain ⟨m, rfl⟩ : ∃ m, n = m + 1 := ⟨n - 1, by omega⟩
  rfl
 have hlt := cnt_lt L hs h
 have hl : (symN L n L.length).length = cnt L n := by rw [symN_len _ _ (Nat.le_refl _), List.take_length]
 unfold syms
 constructor
 ·rw [hr, e, List.append_assoc, List.getD_eq_getElem?_getD, List.getElem?_append_right (by omega), show (symA L (n - 1)).length + cnt (L.take s) n - (symA L (n - 1)).length = cnt (L.take s) n by omega, List.getElem?_append_left (by omega), ← List.getD_eq_getElem?_getD]
  exact symN_get hs h
 ·rw [hr, e]
  simp only [List.length_append]
  omega
end
/-- What the reference reads as a symbol at p. -/
def rsym (S : Src) (L : List Nat) (p : Nat) : Got :=
 if lkL L (S.D / 2 ^ p) % 16 = 0 then (if p + mx L ≤ 8 * S.N then .bad (p + mx L) 0 else .short)
 else if p + lkL L (S.D / 2 ^ p) % 16 ≤ 8 * S.N then .ok (lkL L (S.D / 2 ^ p) / 16) (p + lkL L (S.D / 2 ^ p) % 16) 0 else .short
/-- A set of codes that may be read. -/
def Rd1 (L : List Nat) : Prop := mx L = 0 ∨ Kraft L
theorem Rd1.m15 {L : List Nat} (h : Rd1 L) : mx L ≤ 15 := by
 rcases h with h | h
 ·omega
 ·exact h.m15
/-- A code ends here. -/
def fnd (L : List Nat) (X n : Nat) : Prop := rev n X < nc L n + cnt L n
section
variable {S : Src} {L : List Nat} {p n : Nat}
theorem fnd_sym {X : Nat} (h1 : 1 ≤ n) (hge : nc L n ≤ rev n X) (hf : fnd L X n) : ∃ s, s < L.length ∧ L.getD s 0 = n ∧ cnt (L.take s) n = rev n X - nc L n ∧ covers L X s = true := by
 unfold fnd at hf
 obtain ⟨s, h2, h3, h4⟩ := cnt_ex L n L.length (Nat.le_refl _) (rev n X - nc L n) (by rw [List.take_length]; omega)
 refine ⟨s, h2, h3, h4, ?_⟩
 have hc : cod L s = rev n X := by unfold cod; rw [h3, h4]; omega
 rw [cov_eq (by omega), h3, hc, rv_rv]
theorem sym_fnd {X s : Nat} (hK : Kraft L) (hc : covers L X s = true) : fnd L X (L.getD s 0) ∧ 1 ≤ L.getD s 0 ∧ L.getD s 0 ≤ mx L := by
 have h0 : L.getD s 0 ≠ 0 := ((hK.cov X s).1 hc).1
 have hr := (cov_eq h0).1 hc
 have := (rv_iff X (hK.cod h0)).1 hr
 refine ⟨?_, by omega, le_mx L s⟩
 unfold fnd
 rw [this]
 exact cod_lt h0
theorem rsym_ok (hR : Rd1 L) (h1 : 1 ≤ n) (hge : nc L n ≤ rev n (S.D / 2 ^ p)) (hf : fnd L (S.D / 2 ^ p) n) (hp : p + n ≤ 8 * S.N) :
  ∃ s, s < L.length ∧ L.getD s 0 = n ∧ cnt (L.take s) n = rev n (S.D / 2 ^ p) - nc L n ∧ rsym S L p = .ok s (p + n) 0 := by
 obtain ⟨s, h2, h3, h4, h5⟩ := fnd_sym h1 hge hf
 have hm := le_mx L s
 rcases hR with h | hK
 ·omega
 ·have hv := hK.vk h2 h5
  rw [← lkL_eq, h3] at hv
  have h15 := hK.m15
  refine ⟨s, h2, h3, h4, ?_⟩
  unfold rsym
  rw [hv, if_neg (by omega), if_pos (by omega), show (16 * s + n) / 16 = s by omega, show (16 * s + n) % 16 = n by omega]
theorem rsym_short (hR : Rd1 L) (hno : ∀ m, 1 ≤ m → m < n → ¬ fnd L (S.D / 2 ^ p) m) (hn : n ≤ mx L) (hp : 8 * S.N < p + n) : rsym S L p = .short := by
 have h15 := hR.m15
 unfold rsym
 by_cases h0 : lkL L (S.D / 2 ^ p) % 16 = 0
 ·rw [if_pos h0, if_neg (by omega)]
 ·rw [if_neg h0, if_neg]
  intro hle
  rcases hR with h | hK
  ·rw [lk_zero h] at h0; exact h0 rfl
  ·have hne : Vk L L.length (S.D / 2 ^ p) ≠ 0 := by intro e; rw [lkL_eq, e] at h0; exact h0 rfl
   obtain ⟨s, h2, h3, h4⟩ := vk_some hne
   obtain ⟨h5, h6, h7⟩ := sym_fnd hK h3
   rw [lkL_eq, h4] at hle
   refine hno _ h6 ?_ h5
   omega
theorem rsym_bad (hR : Rd1 L) (hno : ∀ m, 1 ≤ m → m ≤ mx L → ¬ fnd L (S.D / 2 ^ p) m) (hp : p + mx L ≤ 8 * S.N) : rsym S L p = .bad (p + mx L) 0 := by
 unfold rsym
 rw [if_pos, if_pos hp]
 rcases hR with h | hK
 ·rw [lk_zero h]
 ·by_cases hz : Vk L L.length (S.D / 2 ^ p) = 0
  ·rw [lkL_eq, hz]
  ·exfalso
   obtain ⟨s, h2, h3, h4⟩ := vk_some hz
   obtain ⟨h5, h6, h7⟩ := sym_fnd hK h3
   exact hno _ h6 h7 h5
end
/-- Where the codes of a length begin, at its round's head. -/
def ff (L : List Nat) (n : Nat) : Nat := if n ≤ 1 then 0 else nc L (n - 1) + cnt L (n - 1)
theorem ff_nc (L : List Nat) {n : Nat} (h : 1 ≤ n) : 2 * ff L n = nc L n := by
 unfold ff
 by_cases h1 : n ≤ 1
 ·rw [if_pos h1, show n = 1 by omega]; simp [nc]
 ·rw [if_neg h1]
  have := nc_succ L (n := n - 1) (by omega)
  rw [show n - 1 + 1 = n by omega] at this
  exact this.symm
theorem ff_succ (L : List Nat) {n : Nat} (h : 1 ≤ n) : ff L (n + 1) = nc L n + cnt L n := by
 unfold ff
 rw [if_neg (by omega), show n + 1 - 1 = n by omega]
theorem rev_next (D p n : Nat) : rev n (D / 2 ^ p) * 2 + bv D (p + n) 1 = rev (n + 1) (D / 2 ^ p) := by
 rw [rv_add n 1]
 have e : rev 1 (D / 2 ^ p / 2 ^ n) = bv D (p + n) 1 := by
  unfold bv
  rw [Nat.div_div_eq_div_mul, ← Nat.pow_add]
  simp [rev]
 rw [e]
end Go.Proofs.YtejeloeaklpinaaDoor
namespace Go.Proofs.YtejeloeaklpinaaDoor
/-- Ints that are read: nothing is asked of their block but that it is one of B. -/
def AgN (w : World) (B : List Nat) (v : Value) (L : List Nat) : Prop := ∃ a c, v = .slice a L.length c ∧ ∀ j, j < L.length → ∃ ad, a = some ad ∧ (ad.add j).block ∈ B ∧ w.cell? (ad.add j) = some (.int .i64 ((L.getD j 0 : Nat) : Int))
theorem AgN.kp {w w' : World} {B K : List Nat} {v : Value} {L : List Nat} (h : AgN w B v L) (k : Kp K w w') (hB : ∀ b ∈ B, b ∉ K) : AgN w' B v L := by
 obtain ⟨a, c, h1, h2⟩ := h
 refine ⟨a, c, h1, fun j hj => ?_⟩
 obtain ⟨ad, h3, h4, h5⟩ := h2 j hj
 exact ⟨ad, h3, h4, k.cell h5 (by simpa using hB _ h4)⟩
theorem AgN.mono {w : World} {B B' : List Nat} {v : Value} {L : List Nat} (h : AgN w B v L) (hB : ∀ b ∈ B, b ∈ B') : AgN w B' v L := by
 obtain ⟨a, c, h1, h2⟩ := h
 refine ⟨a, c, h1, fun j hj => ?_⟩
 obtain ⟨ad, h3, h4, h5⟩ := h2 j hj
 exact ⟨ad, h3, hB _ h4, h5⟩
def ck (L : List Nat) (n : Nat) : Nat := if n = 0 then 0 else cnt L n
/-- A set of codes: the lengths, how many there are of each length, the symbols. -/
def CV (w : World) (B : List Nat) (v : Value) (L : List Nat) : Prop := ∃ lv cv sv, v = .agg #[lv, cv, sv] ∧ AgN w B lv L ∧ AgN w B cv ((List.range 16).map (ck L)) ∧ AgN w B sv (syms L) ∧ (lv.oneCell' = true ∧ cv.oneCell' = true ∧ sv.oneCell' = true)
theorem CV.kp {w w' : World} {B K : List Nat} {v : Value} {L : List Nat} (h : CV w B v L) (k : Kp K w w') (hB : ∀ b ∈ B, b ∉ K) : CV w' B v L := by
 obtain ⟨lv, cv, sv, h1, h2, h3, h4, h5⟩ := h
 exact ⟨lv, cv, sv, h1, h2.kp k hB, h3.kp k hB, h4.kp k hB, h5⟩
theorem sz56 (w : World) : (sizeOf 56).run Tryd.prog w = .ok 3 w := by kernel_rfl
theorem ag56 (w : World) : (isAgg 56).run Tryd.prog w = .ok true w := by kernel_rfl
theorem sz31 (w : World) : (sizeOf 31).run Tryd.prog w = .ok 5 w := by kernel_rfl
theorem ag31 (w : World) : (isAgg 31).run Tryd.prog w = .ok true w := by kernel_rfl
theorem lvar {t n b : Nat} {w : World} {vs : List Value} (hag : (isAgg t).run Tryd.prog w = .ok true w) (hsz : (sizeOf t).run Tryd.prog w = .ok n w) (hl : vs.length = n) (h : ∀ j, j < n → w.cell? ⟨b, 0 + j, none⟩ = some (vs.getD j undef)) :
  (loadVar t ⟨b, 0, none⟩).run Tryd.prog w = .ok (.agg vs.toArray) w := by
 have hr := run_loadCells_list (P := Tryd.prog) (w := w) ⟨b, 0, none⟩ vs (fun j v hv => by
  have hj : j < vs.length := (List.getElem?_eq_some_iff.1 hv).1
  rw [Addr.add_lit, h j (by omega)]
  rw [getV _ _ hj] at hv
  exact hv)
 rw [hl] at hr
 simp [loadVar, hag, hsz, hr]
section
variable {ρ : Operand → Value} {d : Option Nat} {x y z u v : Operand} {ty : TypeId} {pos : String} {af : Array Edge} {gd : Option (Nat × Bool)} {w : World}
theorem ld56 {b n : Nat} {T : TypeId} {g : Nat → Value} {v0 v1 v2 : Value} (hx : ρ x = .pointer (some ⟨b, 0, none⟩)) (hB : Bk w b n T g) (hn : 3 ≤ n) (h0 : g 0 = v0) (h1 : g 1 = v1) (h2 : g 2 = v2) :
  (execOp ρ ⟨d, .load 56 x, ty, pos, af, gd⟩).run Tryd.prog w = .ok (.value (.agg #[v0, v1, v2])) w := by
 have hr := lvar (vs := [v0, v1, v2]) (ag56 w) (sz56 w) rfl (fun j hj => by
  rw [hB.cell (by omega)]
  match j, hj with
  | 0, _ => simp [h0]
  | 1, _ => simp [h1]
  | 2, _ => simp [h2]) (b := b)
 simp [execOp, hx, Instr.loadAt, Instr.sureAddr, hr]
theorem bn_mask8 {t : TypeId} {a b : Int} {x k : Nat} (ha : a = (x : Int)) (hb : b = ((2 ^ k - 1 : Nat) : Int)) (hx : x < 256) (hk : k ≤ 8) : binOp .and t (.int .u8 a) (.int .u8 b) = pure (.int .u8 ((x % 2 ^ k : Nat) : Int)) := by
 have hp : (2 : Nat) ^ k ≤ 2 ^ 8 := Nat.pow_le_pow_right (by omega) hk
 have h1 : 0 < (2 : Nat) ^ k := Nat.two_pow_pos k
 subst ha hb
 rw [← Nat.and_two_pow_sub_one_eq_mod]
 exact bits_nat .u8 rfl x _ _ .and hx (show _ < 2 ^ 8 by omega) (Nat.and_lt_two_pow _ (show _ < 2 ^ 8 by omega)) (.inl ⟨rfl, rfl⟩)
theorem bd56 {a0 a1 : Option Addr} {n0 n1 c0 c1 : Nat} (hx : ρ x = .slice a0 n0 c0) (hy : ρ y = .slice a1 n1 c1) : (execOp ρ ⟨d, .build 56 #[(0, x), (1, y)], ty, pos, af, gd⟩).run Tryd.prog w = .ok (.value (.agg #[.slice a0 n0 c0, .slice a1 n1 c1, .slice none 0 0])) w := by
 simp only [execOp, List.map_toArray, List.map_cons, List.map_nil, hx, hy]
 kernel_rfl
theorem bd56n : (execOp ρ ⟨d, .build 56 #[], ty, pos, af, gd⟩).run Tryd.prog w = .ok (.value (.agg #[.slice none 0 0, .slice none 0 0, .slice none 0 0])) w := by
 simp only [execOp, List.map_toArray, List.map_nil]
 kernel_rfl
theorem bx56 {v0 v1 v2 : Value} (hx : ρ x = .agg #[v0, v1, v2]) : (execOp ρ ⟨d, .box 56 x, ty, pos, af, gd⟩).run Tryd.prog w = .ok (.value (.pointer (some ⟨w.heap.size, 0, none⟩))) (w.alloc (.cells #[v0, v1, v2] 56)) := by
 show (Instr.box 56 (ρ x) >>= fun v => pure (Next.value v)).run Tryd.prog w = _
 rw [hx]
 kernel_rfl
theorem bd53 {a0 a1 : Option Addr} {n0 n1 c0 c1 : Nat} {i j : Int} (hx : ρ x = .slice a0 n0 c0) (hy : ρ y = .slice a1 n1 c1) (hz : ρ z = .int .i64 i) (hu : ρ u = .int .i64 j) :
  (execOp ρ ⟨d, .build 53 #[(0, x), (2, y), (3, z), (5, u)], ty, pos, af, gd⟩).run Tryd.prog w = .ok (.value (.agg #[.slice a0 n0 c0, .int .i64 0, .slice a1 n1 c1, .int .i64 i, .int .i64 0, .int .i64 j])) w := by
 simp only [execOp, List.map_toArray, List.map_cons, List.map_nil, hx, hy, hz, hu]
 kernel_rfl
theorem bx53 {v0 v1 v2 v3 v4 v5 : Value} (hx : ρ x = .agg #[v0, v1, v2, v3, v4, v5]) : (execOp ρ ⟨d, .box 53 x, ty, pos, af, gd⟩).run Tryd.prog w = .ok (.value (.pointer (some ⟨w.heap.size, 0, none⟩))) (w.alloc (.cells #[v0, v1, v2, v3, v4, v5] 53)) := by
 show (Instr.box 53 (ρ x) >>= fun v => pure (Next.value v)).run Tryd.prog w = _
 rw [hx]
 kernel_rfl
theorem bd31 {x4 : Operand} {a0 : Option Addr} {n0 c0 : Nat} {i1 i2 i3 i4 : Int} (hx : ρ x = .slice a0 n0 c0) (hy : ρ y = .int .i64 i1) (hz : ρ z = .int .i64 i2) (hu : ρ u = .int .i64 i3) (hv : ρ x4 = .int .i64 i4) :
  (execOp ρ ⟨d, .build 31 #[(0, x), (1, y), (2, z), (3, u), (4, x4)], ty, pos, af, gd⟩).run Tryd.prog w = .ok (.value (.agg #[.slice a0 n0 c0, .int .i64 i1, .int .i64 i2, .int .i64 i3, .int .i64 i4])) w := by
 simp only [execOp, List.map_toArray, List.map_cons, List.map_nil, hx, hy, hz, hu, hv]
 kernel_rfl
end
section
variable {N : Nat} {f : Nat → Value} {w : World} {b n : Nat} {T : TypeId} {g : Nat → Value} {v0 v1 v2 : Value}
def c56 (v0 v1 v2 : Value) (k : Nat) : Value := if k = 0 then v0 else if k = 1 then v1 else v2
/-- A function whose result lies in a cell. -/
theorem retc {fn : Func} {R : Ending → World → Prop} {t ty : Nat} {vs : List Value} (hr : fn.results = #[.cell t ty]) (hv : ev N f (.tmp t) = .pointer (some ⟨b, 0, none⟩)) (hag : (isAgg ty).run Tryd.prog w = .ok true w) (hsz : (sizeOf ty).run Tryd.prog w = .ok n w) (hl : vs.length = n)
  (hB : Bk w b n T g) (hg : ∀ j, j < n → g j = vs.getD j undef) (h : R (.returned (.agg vs.toArray)) w) : bodyPost Tryd.prog fn R .ret (fr N f) w := by
 have e : (fr N f).tmps.getD t undef = .pointer (some ⟨b, 0, none⟩) := by rw [← hv, ← fr_eval]; rfl
 have hl2 := lvar (b := b) hag hsz hl (fun j hj => by rw [Nat.zero_add, hB.cell hj, hg j hj])
 refine bodyPost_ret (v := .agg vs.toArray) ?_ rfl h
 have e' : (fr N f).tmps[t]?.getD undef = .pointer (some ⟨b, 0, none⟩) := by rw [← e]; simp
 simp [results, hr, e', asAddr, hl2]
theorem retc2 {fn : Func} {R : Ending → World → Prop} {t t' : Nat} {b' : Nat} (hr : fn.results = #[.cell t 56, .cell t' 56]) (hv : ev N f (.tmp t) = .pointer (some ⟨b, 0, none⟩)) (hv' : ev N f (.tmp t') = .pointer (some ⟨b', 0, none⟩))
  {u0 u1 u2 : Value} (hB : Bk w b 3 T (c56 v0 v1 v2)) (hB' : Bk w b' 3 T (c56 u0 u1 u2)) (h : R (.returned (.tuple #[.agg #[v0, v1, v2], .agg #[u0, u1, u2]])) w) : bodyPost Tryd.prog fn R .ret (fr N f) w := by
 have e : (fr N f).tmps.getD t undef = .pointer (some ⟨b, 0, none⟩) := by rw [← hv, ← fr_eval]; rfl
 have e2 : (fr N f).tmps.getD t' undef = .pointer (some ⟨b', 0, none⟩) := by rw [← hv', ← fr_eval]; rfl
 have hl2 := lvar (vs := [v0, v1, v2]) (b := b) (ag56 w) (sz56 w) rfl (fun j hj => by
  rw [Nat.zero_add, hB.cell hj]
  match j, hj with
  | 0, _ => rfl
  | 1, _ => rfl
  | 2, _ => rfl)
 have hl3 := lvar (vs := [u0, u1, u2]) (b := b') (ag56 w) (sz56 w) rfl (fun j hj => by
  rw [Nat.zero_add, hB'.cell hj]
  match j, hj with
  | 0, _ => rfl
  | 1, _ => rfl
  | 2, _ => rfl)
 refine bodyPost_ret (v := .tuple #[.agg #[v0, v1, v2], .agg #[u0, u1, u2]]) ?_ rfl h
 have e' : (fr N f).tmps[t]?.getD undef = .pointer (some ⟨b, 0, none⟩) := by rw [← e]; simp
 have e2' : (fr N f).tmps[t']?.getD undef = .pointer (some ⟨b', 0, none⟩) := by rw [← e2]; simp
 simp [results, hr, e', e2', asAddr, hl2, hl3]
end
attribute [local irreducible] wpList wpStill wpMix Code.wp Calls fr
section
variable {ops : Array Oper} {Q : Exit → Act → World → Prop} {N : Nat} {L : List (Nat × Value)} {B f : Nat → Value} {w : World} {rest : List Oper} {dd : Nat} {x y : Operand} {ty : TypeId} {pos : String} {af : Array Edge} {b k n : Nat} {T : TypeId} {g : Nat → Value} {v0 v1 v2 v3 v4 : Value}
theorem run_st56 (hx : ev N f x = .pointer (some ⟨b, 0, none⟩)) (hy : ev N f y = .agg #[v0, v1, v2]) (h1 : v0.oneCell' = true ∧ v1.oneCell' = true ∧ v2.oneCell' = true) (hB : Bk w b 3 T g) :
  ∃ w1, (execOp (ev N f) ⟨none, .store 56 x y, ty, pos, af, none⟩).run Tryd.prog w = .ok .skip w1 ∧ Bk w1 b 3 T (c56 v0 v1 v2) ∧ Kp [b] w w1 ∧ w1.heap.size = w.heap.size := by
 have hst := run_storeCells_cells (P := Tryd.prog) b 0 [v0, v1, v2] 0 w (fun j hj => by
   rw [Nat.add_zero, hB.cell (k := 0 + j) (by simp at hj; omega)]; rfl) (fun j _ => hB.frozen _) (fun v hv => by
   simp at hv; rcases hv with rfl | rfl | rfl
   ·exact h1.1
   ·exact h1.2.1
   ·exact h1.2.2)
 refine ⟨w.setCells b 0 [v0, v1, v2], ?_, (hB.setCells [v0, v1, v2] 0).congr fun j hj => ?_, Kp.setCells (by simp) _ _ (Kp.refl [b] w), by simp [World.setCells]⟩
 ·simp [execOp, hx, hy, Instr.storeAt, Instr.sureAddr, storeVar, sz56, Value.cells, hst]
 ·simp only [List.length_cons, List.length_nil]
  rw [if_pos (by omega)]
  unfold c56
  match j, hj with
  | 0, _ => rfl
  | 1, _ => rfl
  | 2, _ => rfl
theorem Lst56 (hx : ev N f x = .pointer (some ⟨b, 0, none⟩)) (hy : ev N f y = .agg #[v0, v1, v2]) (h1 : v0.oneCell' = true ∧ v1.oneCell' = true ∧ v2.oneCell' = true) (hB : Bk w b 3 T g)
  (K : ∀ w1, Bk w1 b 3 T (c56 v0 v1 v2) → Kp [b] w w1 → w1.heap.size = w.heap.size → wpList Tryd.prog ops Q rest (fr N f) w1) : wpList Tryd.prog ops Q (⟨none, .store 56 x y, ty, pos, af, none⟩ :: rest) (fr N f) w := by
 obtain ⟨w1, hr, h2, h3, h4⟩ := run_st56 (ty := ty) (pos := pos) (af := af) hx hy h1 hB
 exact L0 hr (K w1 h2 h3 h4)
theorem Est56 {C : World → Prop} {fs : List Bool} {Q : Act → World → Prop} (hx : ev N f x = .pointer (some ⟨b, 0, none⟩)) (hy : ev N f y = .agg #[v0, v1, v2]) (h1 : v0.oneCell' = true ∧ v1.oneCell' = true ∧ v2.oneCell' = true) (hB : Bk w b 3 T g)
  (K : ∀ w1, Bk w1 b 3 T (c56 v0 v1 v2) → Kp [b] w w1 → w1.heap.size = w.heap.size → C w1 ∧ wpMix Tryd.prog ops C Q rest fs (fr N f) w1) : wpMix Tryd.prog ops C Q (⟨none, .store 56 x y, ty, pos, af, none⟩ :: rest) (true :: fs) (fr N f) w := by
 obtain ⟨w1, hr, h2, h3, h4⟩ := run_st56 (ty := ty) (pos := pos) (af := af) hx hy h1 hB
 obtain ⟨h5, h6⟩ := K w1 h2 h3 h4
 exact E0 hr h5 h6
theorem Lal56 (K : ∀ X w1, w.heap.size = X → Bk w1 X 3 56 (fun _ => .slice none 0 0) → Kp [] w w1 → w1.heap.size = X + 1 → wpList Tryd.prog ops Q rest (fr N (fl ((dd, .pointer (some ⟨X, 0, none⟩)) :: L) B)) w1) :
  wpList Tryd.prog ops Q (⟨some dd, .alloc 56, ty, pos, af, none⟩ :: rest) (fr N (fl L B)) w := by
 obtain ⟨Z, hZ, hr⟩ : ∃ Z : Array Value, Z.toList = (List.range 3).map (fun _ => .slice none 0 0) ∧ ∀ (ρ : Operand → Value) (w : World), (execOp ρ ⟨some dd, .alloc 56, ty, pos, af, none⟩).run Tryd.prog w = .ok (.value (.pointer (some ⟨w.heap.size, 0, none⟩))) (w.alloc (.cells Z 56)) :=
  ⟨(((Tryd.prog.info? 56).bind (·.zero)).map (·.cells)).getD #[], by kernel_rfl, fun ρ w => by kernel_rfl⟩
 exact L1 (hr _ _) (K _ _ rfl (Bk.newOf w Z 56 3 _ hZ) ((Kp.refl [] w).alloc _) (by simp))
theorem Lal31 (K : ∀ X w1, w.heap.size = X → Bk w1 X 5 31 (fun k => if k = 0 then .slice none 0 0 else .int .i64 0) → Kp [] w w1 → w1.heap.size = X + 1 → wpList Tryd.prog ops Q rest (fr N (fl ((dd, .pointer (some ⟨X, 0, none⟩)) :: L) B)) w1) :
  wpList Tryd.prog ops Q (⟨some dd, .alloc 31, ty, pos, af, none⟩ :: rest) (fr N (fl L B)) w := by
 obtain ⟨Z, hZ, hr⟩ : ∃ Z : Array Value, Z.toList = (List.range 5).map (fun k => if k = 0 then .slice none 0 0 else .int .i64 0) ∧ ∀ (ρ : Operand → Value) (w : World), (execOp ρ ⟨some dd, .alloc 31, ty, pos, af, none⟩).run Tryd.prog w = .ok (.value (.pointer (some ⟨w.heap.size, 0, none⟩))) (w.alloc (.cells Z 31)) :=
  ⟨(((Tryd.prog.info? 31).bind (·.zero)).map (·.cells)).getD #[], by kernel_rfl, fun ρ w => by kernel_rfl⟩
 exact L1 (hr _ _) (K _ _ rfl (Bk.newOf w Z 31 5 _ hZ) ((Kp.refl [] w).alloc _) (by simp))
theorem Lmk24 {n : Nat} {i : Int} (hx : ev N (fl L B) x = .int .i64 i) (hi : i = (n : Int)) (hn : n ≤ 1000000)
  (K : ∀ X w1, w.heap.size = X → Bk w1 X n 3 (fun _ => .int .i64 0) → Kp [] w w1 → w1.heap.size = X + 1 → wpList Tryd.prog ops Q rest (fr N (fl ((dd, .slice (some ⟨X, 0, none⟩) n n) :: L) B)) w1) :
  wpList Tryd.prog ops Q (⟨some dd, .makeSlice 24 x x, ty, pos, af, none⟩ :: rest) (fr N (fl L B)) w := by
 subst hi
 have hr := run_make_row' (P := Tryd.prog) 24 3 (.int .i64 0) 8 und24 (by kernel_rfl) rfl .i64 .i64 n (by omega) (by omega) w
 refine L1 (v := .slice (some ⟨w.heap.size, 0, none⟩) n n) (w' := w.alloc (.cells (madeCells #[.int .i64 0] n) 3)) ?_ (K _ _ rfl ?_ ((Kp.refl [] w).alloc _) (by simp))
 ·simp [execOp, hx, hr]
 ·obtain ⟨C, h1, h2, h3⟩ := World.rowIs_made w (.int .i64 0) n 3
  exact ⟨C, h1, h2, h3⟩
end
end Go.Proofs.YtejeloeaklpinaaDoor
namespace Go.Proofs.YtejeloeaklpinaaDoor
structure RE (w0 : World) (dv : Value) (data : List Nat) (X : Nat) : Prop where
 dat : Ag w0 dv data
 by8 : ∀ x ∈ data, x < 256
 len : data.length ≤ 140737488355328
 hX : w0.heap.size ≤ X
def RW (w0 w : World) (X : Nat) (dv : Value) (bit : Nat) (ov : Value) (base st edge : Nat) : Prop := Bk w X 6 53 (rx dv bit ov base st edge) ∧ Kp [] w0 w
def px (X : Nat) : Value := .pointer (some ⟨X, 0, none⟩)
def sh (st : Nat) : Nat := if st = 0 then 2 else st
theorem or_one (x : Nat) {y : Nat} (hy : y < 2) : x * 2 ^ 1 ||| y = x * 2 + y := by
 rw [Nat.or_comm, or_high y x 1 (by omega)]; omega
theorem ck_get (L : List Nat) {n : Nat} (h : n < 16) : ((List.range 16).map (ck L)).getD n 0 = ck L n := by
 rw [List.getD_eq_getElem?_getD, List.getElem?_map, List.getElem?_range h]; rfl
def natv (xs : List Nat) : List Value := xs.map fun n : Nat => Value.int .i64 (n : Int)
theorem natv_len (xs : List Nat) : (natv xs).length = xs.length := by simp [natv]
theorem natv_app (xs ys : List Nat) : natv (xs ++ ys) = natv xs ++ natv ys := by simp [natv]
theorem natv_get (xs : List Nat) {j : Nat} (h : j < xs.length) : (natv xs).getD j undef = .int .i64 ((xs.getD j 0 : Nat) : Int) := by
 unfold natv
 rw [List.getD_eq_getElem?_getD, List.getElem?_map, List.getD_eq_getElem?_getD, List.getElem?_eq_getElem h]
 rfl
theorem Sv.agn {w : World} {v : Value} {xs : List Nat} {B : List Nat} (h : Sv w v (natv xs)) (hB : ∀ b, v.ownBlock = some b → b ∈ B) : AgN w B v xs := by
 obtain ⟨a, c, rfl, h2⟩ := h.at
 rw [natv_len] at h2 ⊢
 refine ⟨a, c, rfl, fun j hj => ?_⟩
 obtain ⟨b, rfl, h3⟩ := h2 j hj
 refine ⟨_, rfl, by rw [Addr.add_lit]; exact hB b rfl, ?_⟩
 rw [Addr.add_lit, Nat.zero_add, h3, natv_get xs hj]
theorem Bk.agn {w : World} {b n : Nat} {t : TypeId} {g : Nat → Value} (h : Bk w b n t g) {B : List Nat} (hb : b ∈ B) {L : List Nat} (hl : L.length = n) (hg : ∀ j, j < n → g j = .int .i64 ((L.getD j 0 : Nat) : Int)) : AgN w B (.slice (some ⟨b, 0, none⟩) n n) L := by
 refine ⟨some ⟨b, 0, none⟩, n, by rw [hl], fun j hj => ⟨_, rfl, by rw [Addr.add_lit]; exact hb, ?_⟩⟩
 rw [Addr.add_lit, Nat.zero_add, h.cell (by omega), hg j (by omega)]
/-- How much of all codes is taken, by lengths up to n. -/
def kf (L : List Nat) : Nat → Nat
 | 0 => 0
 | n + 1 => kf L n + cnt L (n + 1) * 2 ^ (15 - (n + 1))
theorem kf_eq (L : List Nat) : ∀ n, 1 ≤ n → n ≤ 15 → kf L n = (nc L n + cnt L n) * 2 ^ (15 - n)
 | 0, h, _ => by omega
 | 1, _, _ => by simp [kf, nc]
 | n + 2, _, h => by
  have ih := kf_eq L (n + 1) (by omega) (by omega)
  have hb := bs_succ (L := L) (n := n + 1) (by omega) (by omega)
  rw [kf, ih, ← hb, Nat.add_mul]
theorem kf_le (L : List Nat) : ∀ n, kf L n ≤ n * (L.length * 32768)
 | 0 => by simp [kf]
 | n + 1 => by
  have ih := kf_le L n
  have h1 := cnt_le L (n + 1)
  have h2 : 2 ^ (15 - (n + 1)) ≤ 2 ^ 15 := Nat.pow_le_pow_right (by decide) (by omega)
  have h3 : cnt L (n + 1) * 2 ^ (15 - (n + 1)) ≤ L.length * 32768 := Nat.mul_le_mul h1 h2
  rw [kf, Nat.succ_mul]
  omega
end Go.Proofs.YtejeloeaklpinaaDoor
namespace Go.Proofs.YtejeloeaklpinaaDoor
attribute [local irreducible] wpList wpStill wpMix Code.wp Calls fr
theorem bits_r {w0 w : World} {X : Nat} {dv ov : Value} {data : List Nat} {bit base st edge : Nat} (hE : RE w0 dv data X) (hW : RW w0 w X dv bit ov base st edge) (hb : bit ≤ 8 * data.length) (n : Nat) (hn : n ≤ 16) :
  Ret 19 [px X, .int .i64 (n : Int)] w fun v w' => Kp [X] w w' ∧ ((bit + n ≤ 8 * data.length ∧ v = .int .i64 ((bv (srcOf data).D bit n : Nat) : Int) ∧ RW w0 w' X dv (bit + n) ov base st edge) ∨ (8 * data.length < bit + n ∧ v = .int .i64 0 ∧ RW w0 w' X dv (8 * data.length) ov base (sh st) edge)) := by
 obtain ⟨hB, kp⟩ := hW
 obtain ⟨da, dc, rfl, hcells⟩ := hE.dat
 have hlen := hE.len
 have hXn := hE.hX
 have hby := hE.by8
 have kpX := Kp.refl [X] w
 have h216 : (2 : Nat) ^ 16 = 65536 := rfl
 refine calls_fr (N := 62) Tryd.func19 rfl rfl (by simp [px]) rfl ?_
 refine sqr ?_
 refine Ai rfl ?_
 refine nt ?_
 refine sqr ?_
 refine Ai rfl ?_
 refine nt ?_
 refine wp_seq ?_
 refine sqr ?_
 refine Mi rfl ?_
 refine Mi rfl ?_
 refine nt ?_
 refine wp_block ?_
 refine loop_fr (fun k f w' => f 0 = .pointer (some ⟨X, 0, none⟩) ∧ f 7 = .int .i64 ((n : Nat) : Int) ∧ ∃ i : Nat, f 8 = .int .i64 ((i : Nat) : Int) ∧ f 5 = .int .i64 ((bv (srcOf data).D bit i : Nat) : Int) ∧ i ≤ n ∧ k = n - i ∧ bit + i ≤ 8 * data.length ∧ Bk w' X 6 53 (rx (.slice da data.length dc) (bit + i) ov base st edge) ∧ Kp [] w0 w' ∧ Kp [X] w w') n ⟨rfl, rfl, 0, rfl, by rw [bv_zero]; rfl, Nat.zero_le _, rfl, hb, hB, kp, kpX⟩ ?_
 clear hB kp kpX
 intro k f w1 HJ
 obtain ⟨s0, s7, i, s8, s5, hi, rfl, hbi, hB, kp, kpX⟩ := HJ
 refine slots (fc s0 (fc s5 (fc s7 (fc s8 fnil)))) ?_
 refine sqr ?_
 refine L1 (bi rfl rfl (bn_lss (v := decide (i < n)) (decide_eq_decide.2 (by omega)))) ?_
 refine nt ?_
 refine wp_seq ?_
 refine cond_d (p := i < n) rfl (fun hlt => ?_) (fun hlt => ?_)
 ·skip
  refine skn ?_
  refine wp_seq ?_
  refine wp_block ?_
  refine sqr ?_
  refine Mi rfl ?_
  refine Ai rfl ?_
  refine nt ?_
  refine wp_seq ?_
  refine wp_seq ?_
  refine reg_still mixed (by kernel_rfl) ?_
  have hB := hB.drew
  have kp := kp.drew
  have kpX := kpX.drew
  refine S1 (mv (v := .pointer _) rfl) ?_
  refine S1 (nilP rfl) ?_
  refine S1 (fa53_1 rfl) ?_
  refine S1 (ld3 rfl (hB.cellv (v := .int _ _) (by decide) rfl)) ?_
  refine S1 (mv (v := .pointer _) rfl) ?_
  refine S1 (nilP rfl) ?_
  refine S1 (fa53_0 rfl) ?_
  refine S1 (ld22 rfl (hB.cellv (v := .slice _ _ _) (by decide) rfl)) ?_
  refine S1 (ln und22 rfl) ?_
  refine S1 (bi rfl rfl (bn_mul (c := ((8 * data.length : Nat) : Int)) (by omega) (by omega) (by omega))) ?_
  refine S1 (bi rfl rfl (bn_geq (v := decide (8 * data.length ≤ bit + i)) (decide_eq_decide.2 (by omega)))) ?_
  refine still_nil ?_
  refine then_n ?_
  refine cond_d (p := 8 * data.length ≤ bit + i) rfl (fun hfull => ?_) (fun hfull => ?_)
  ·skip
   have e8 : bit + i = 8 * data.length := by omega
   rw [e8] at hB
   refine wp_seq ?_
   refine sqr ?_
   refine Mp rfl ?_
   refine Np rfl ?_
   refine L1 (fa53_4 rfl) ?_
   refine L1 (ld3 rfl (hB.cellv (v := .int _ _) (by decide) rfl)) ?_
   refine L1 (bi rfl rfl (bn_eql (v := decide (st = 0)) (decide_eq_decide.2 (by omega)))) ?_
   refine nt ?_
   refine cond_d (p := st = 0) rfl (fun hs0 => ?_) (fun hs0 => ?_)
   ·skip
    refine reg_lit ?_
    refine Mp rfl ?_
    refine Np rfl ?_
    refine L1 (fa53_4 rfl) ?_
    refine Lst3 (v := .int .i64 ((2 : Nat) : Int)) rfl rfl rfl hB (by decide) ?_
    intro wx hB kpx
    have hB := hB.congr (fun k _ => rx_4 k)
    have kp := kp.transNew kpx (by simp; omega)
    have kpX := kpX.trans kpx
    clear kpx
    refine nt ?_
    refine sqr ?_
    refine Ai rfl ?_
    refine nt ?_
    refine wp_ret ?_
    refine then_r ?_
    refine inb_r ?_
    refine then_r ?_
    refine then_r ?_
    refine inb_r ?_
    refine then_r ?_
    refine ret1 rfl rfl ?_
    exact ⟨_, rfl, kpX, .inr ⟨by omega, rfl, by unfold sh; rw [if_pos hs0]; exact ⟨hB, kp⟩⟩⟩
   ·skip
    refine skn ?_
    refine sqr ?_
    refine Ai rfl ?_
    refine nt ?_
    refine wp_ret ?_
    refine then_r ?_
    refine inb_r ?_
    refine then_r ?_
    refine then_r ?_
    refine inb_r ?_
    refine then_r ?_
    refine ret1 rfl rfl ?_
    exact ⟨_, rfl, kpX, .inr ⟨by omega, rfl, by unfold sh; rw [if_neg hs0]; exact ⟨hB, kp⟩⟩⟩
  ·skip
   obtain ⟨ad, rfl, hcell⟩ := hcells ((bit + i) / 8) (by omega)
   have hd8 := getD_lt hby ((bit + i) / 8)
   have hbo := bit_of hby (p := bit + i) (by omega)
   have hbl := bv_lt (srcOf data).D bit i
   have hbl1 := bv_lt (srcOf data).D (bit + i) 1
   have h2i : 2 ^ i ≤ 2 ^ 16 := Nat.pow_le_pow_right (by decide) (by omega)
   have hsucc := bv_succ (srcOf data).D bit i
   obtain ⟨dd, hdd⟩ : ∃ dd, data.getD ((bit + i) / 8) 0 = dd := ⟨_, rfl⟩
   rw [hdd] at hcell hd8 hbo
   have hsh : dd / 2 ^ ((bit + i) % 8) < 256 := Nat.lt_of_le_of_lt (Nat.div_le_self _ _) hd8
   obtain ⟨b1, hb1⟩ : ∃ b1, dd / 2 ^ ((bit + i) % 8) % 2 ^ 1 = b1 := ⟨_, rfl⟩
   have hb1' : bv (srcOf data).D (bit + i) 1 = b1 := by rw [hbo, ← hb1]
   rw [hb1'] at hsucc hbl1
   have hb12 : b1 * 2 ^ i ≤ 1 * 2 ^ i := Nat.mul_le_mul_right _ (by omega)
   have hor := or_high _ b1 i hbl
   refine skn ?_
   refine wp_seq ?_
   refine reg_still mixed (by kernel_rfl) ?_
   have hB := hB.drew
   have kp := kp.drew
   have kpX := kpX.drew
   refine S1 (mv (v := .int _ _) rfl) ?_
   refine S1 (mv (v := .pointer _) rfl) ?_
   refine S1 (nilP rfl) ?_
   refine S1 (fa53_0 rfl) ?_
   refine S1 (ld22 rfl (hB.cellv (v := .slice _ _ _) (by decide) rfl)) ?_
   refine S1 (mv (v := .pointer _) rfl) ?_
   refine S1 (nilP rfl) ?_
   refine S1 (fa53_1 rfl) ?_
   refine S1 (ld3 rfl (hB.cellv (v := .int _ _) (by decide) rfl)) ?_
   refine S1 (bi rfl rfl (bn_quo (x := bit + i) (m := 8) rfl rfl (by decide) (by omega))) ?_
   refine S1 (ixg und22 sz5 rfl rfl rfl (by omega)) ?_
   refine S1 (ld5 (v := .int .u8 ((dd : Nat) : Int)) rfl (kp.cell hcell (by simp))) ?_
   refine S1 (mv (v := .pointer _) rfl) ?_
   refine S1 (nilP rfl) ?_
   refine S1 (fa53_1 rfl) ?_
   refine S1 (ld3 rfl (hB.cellv (v := .int _ _) (by decide) rfl)) ?_
   refine S1 (bi rfl rfl (bn_rem (x := bit + i) (m := 8) rfl rfl (by decide))) ?_
   refine S1 (bi rfl rfl (bn_shr (x := dd) (n := (bit + i) % 8) rfl rfl (by show (bit + i) % 8 ≤ 8; omega))) ?_
   refine S1 (bi rfl rfl ((bn_mask8 (x := dd / 2 ^ ((bit + i) % 8)) (k := 1) rfl rfl hsh (by decide)).trans (congrArg (fun x : Nat => pure (Value.int .u8 (x : Int))) hb1))) ?_
   refine S1 (cv5_3 rfl (wrap_s64 _ (by omega) (by omega))) ?_
   refine S1 (mv (v := .int _ _) rfl) ?_
   refine S1 (bi rfl rfl (bn_shl64 (x := b1) (n := i) rfl rfl (by omega) (by omega))) ?_
   refine S1 (bi rfl rfl (bn_orz (x := bv (srcOf data).D bit i) (y := b1 * 2 ^ i) (z := bv (srcOf data).D bit (i + 1)) rfl rfl (by omega) (by omega) (by rw [hor, hsucc]))) ?_
   refine S1 (asg (v := .int _ _) rfl) ?_
   refine still_nil ?_
   refine then_n ?_
   refine reg_lit ?_
   refine Mp rfl ?_
   refine Np rfl ?_
   refine L1 (fa53_1 rfl) ?_
   refine L1 (ld3 rfl (hB.cellv (v := .int _ _) (by decide) rfl)) ?_
   refine L1 (bi rfl rfl (bn_add (c := ((bit + (i + 1) : Nat) : Int)) (by omega) (by omega) (by omega))) ?_
   refine Np rfl ?_
   refine L1 (fa53_1 rfl) ?_
   refine Lst3 (v := .int .i64 ((bit + (i + 1) : Nat) : Int)) rfl rfl rfl hB (by decide) ?_
   intro wx hB kpx
   have hB := hB.congr (fun k _ => rx_1 k)
   have kp := kp.transNew kpx (by simp; omega)
   have kpX := kpX.trans kpx
   clear kpx
   refine wpList_nil ?_
   refine inb_n ?_
   refine then_n ?_
   refine reg_lit ?_
   refine L1 (bi rfl rfl (bn_add (c := ((i + 1 : Nat) : Int)) (by omega) (by omega) (by omega))) ?_
   refine Mi rfl ?_
   refine nt ?_
   exact ⟨n - (i + 1), _, by omega, rfl, rfl, rfl, i + 1, rfl, rfl, by omega, rfl, by omega, hB, kp, kpX⟩
 ·skip
  obtain rfl : i = n := by omega
  refine wp_exit ?_
  refine then_e ?_
  refine then_e ?_
  refine inb_same ?_
  refine then_n ?_
  refine sqr ?_
  refine Mi rfl ?_
  refine Ai rfl ?_
  refine nt ?_
  refine wp_ret ?_
  refine ret1 rfl rfl ?_
  exact ⟨_, rfl, kpX, .inl ⟨hbi, rfl, hB, kp⟩⟩
set_option maxHeartbeats 1000000 in
theorem sym_r {w0 w : World} {X : Nat} {dv ov : Value} {data : List Nat} {p base edge : Nat} (hE : RE w0 dv data X) (hW : RW w0 w X dv p ov base 0 edge) (hp : p ≤ 8 * data.length) {Bs : List Nat} {cvv : Value} {L : List Nat} (hC : CV w Bs cvv L) (hXB : X ∉ Bs) (hR : Rd1 L) (hll : L.length ≤ 500) :
  Ret 28 [px X, cvv] w fun v w' => Kp [X] w w' ∧ ((∃ s p', rsym (srcOf data) L p = .ok s p' 0 ∧ v = .int .i64 (s : Int) ∧ s < L.length ∧ p < p' ∧ p' ≤ 8 * data.length ∧ RW w0 w' X dv p' ov base 0 edge) ∨
   (rsym (srcOf data) L p = .short ∧ v = .int .i64 (-1) ∧ RW w0 w' X dv (8 * data.length) ov base 2 edge) ∨ (∃ p', rsym (srcOf data) L p = .bad p' 0 ∧ p' ≤ 8 * data.length ∧ v = .int .i64 (-1) ∧ RW w0 w' X dv p' ov base 1 edge)) := by
 obtain ⟨hB, kp⟩ := hW
 obtain ⟨lv, cv, sv, rfl, _, hCc, hCs, ho1, ho2, ho3⟩ := hC
 have hlen := hE.len
 have hXn := hE.hX
 have h15 := hR.m15
 obtain ⟨x, hx⟩ : ∃ x, (srcOf data).D / 2 ^ p = x := ⟨_, rfl⟩
 have hsl := syms_len (L := L)
 have kpX := Kp.refl [X] w
 have hBl := hB.lt
 refine calls_fr (N := 75) Tryd.func28 rfl rfl (by simp [px]) rfl ?_
 refine sqr ?_
 refine L1 (bx56 rfl) ?_
 have hkb := (Kp.refl [] w).alloc (.cells #[lv, cv, sv] 56)
 have hD : Bk (w.alloc (.cells #[lv, cv, sv] 56)) w.heap.size 3 56 (c56 lv cv sv) := Bk.newOf w _ 56 3 _ rfl
 have hB := hB.kp hkb (by simp)
 have hCc := hCc.kp hkb (by simp)
 have hCs := hCs.kp hkb (by simp)
 have kp := kp.trans hkb
 have kpX := kpX.trans (hkb.mono (by simp))
 obtain ⟨Db, hDb⟩ : ∃ Db, w.heap.size = Db := ⟨_, rfl⟩
 rw [hDb] at hD ⊢
 have hXD : X ≠ Db := by omega
 refine Ai rfl ?_
 refine nt ?_
 refine sqr ?_
 refine Ai rfl ?_
 refine Ai rfl ?_
 refine Ai rfl ?_
 refine nt ?_
 refine wp_seq ?_
 refine sqr ?_
 refine Ai rfl ?_
 refine nt ?_
 refine wp_block ?_
 refine loop_fr (fun k f w' => f 0 = .pointer (some ⟨X, 0, none⟩) ∧ f 3 = .pointer (some ⟨Db, 0, none⟩) ∧ ∃ n : Nat, f 8 = .int .i64 ((n : Nat) : Int) ∧ 1 ≤ n ∧ n ≤ 16 ∧ k = 17 - n ∧ Bk w' Db 3 56 (c56 lv cv sv) ∧ AgN w' Bs cv ((List.range 16).map (ck L)) ∧ AgN w' Bs sv (syms L) ∧ Kp [] w0 w' ∧ Kp [X] w w' ∧ ((f 5 = .int .i64 ((rev (n - 1) x : Nat) : Int) ∧ f 6 = .int .i64 ((ff L n : Nat) : Int) ∧ f 7 = .int .i64 (((symA L (n - 1)).length : Nat) : Int) ∧ Bk w' X 6 53 (rx dv (p + (n - 1)) ov base 0 edge) ∧ p + (n - 1) ≤ 8 * data.length ∧ n - 1 ≤ mx L ∧ (∀ m, 1 ≤ m → m < n → ¬ fnd L x m)) ∨ ((∃ z5 z6 z7 : Int, f 5 = .int .i64 z5 ∧ f 6 = .int .i64 z6 ∧ f 7 = .int .i64 z7) ∧ rsym (srcOf data) L p = .short ∧ Bk w' X 6 53 (rx dv (8 * data.length) ov base 2 edge)))) 16 ⟨rfl, rfl, 1, rfl, by omega, by omega, rfl, hD, hCc, hCs, kp, kpX, .inl ⟨rfl, rfl, rfl, hB, hp, by omega, fun m h1 h2 => by omega⟩⟩ ?_
 clear hB hD hCc hCs kp kpX hkb
 intro k f w1 HJ
 obtain ⟨s0, s3, n, s8, hn1, hn16, rfl, hD, hCc, hCs, kp, kpX, hcase⟩ := HJ
 rcases hcase with ⟨s5, s6, s7, hB, hpn, hnm, hno⟩ | ⟨⟨z5, z6, z7, s5, s6, s7⟩, hrs, hB⟩
 ·skip
  refine slots (fc s0 (fc s3 (fc s5 (fc s6 (fc s7 (fc s8 fnil)))))) ?_
  obtain ⟨sa, sc, rfl, hsc⟩ := id hCs
  have hml : (symA L (n - 1)).length ≤ (syms L).length := symA_mono (by omega)
  by_cases hn15 : n ≤ 15
  ·skip
   by_cases hat : (symA L (n - 1)).length < (syms L).length
   ·skip
    have hff2 : ff L n * 2 ^ 1 = nc L n := by have := ff_nc L hn1; omega
    have hnmx : n ≤ mx L := by
     rcases Nat.lt_or_ge (n - 1) (mx L) with h | h
     ·omega
     ·have := symA_all (L := L) h (by omega); omega
    have hrl := rvb (n - 1) x
    have h2n : 2 ^ (n - 1) ≤ 2 ^ 15 := Nat.pow_le_pow_right (by decide) (by omega)
    have h215 : (2 : Nat) ^ 15 = 32768 := rfl
    have hff := ff_nc L hn1
    have hfs := ff_succ L hn1
    have hge0 : ff L n ≤ rev (n - 1) x := by
     unfold ff
     by_cases h : n ≤ 1
     ·rw [if_pos h]; omega
     ·rw [if_neg h]; have := hno (n - 1) (by omega) (by omega); unfold fnd at this; omega
    have hAs : (symA L n).length = (symA L (n - 1)).length + cnt L n := by have := symA_succ (L := L) (n - 1); rwa [show n - 1 + 1 = n by omega] at this
    have hcl := cnt_le L n
    refine wp_seq ?_
    refine sqr ?_
    refine Mi rfl ?_
    refine L1 (bi rfl rfl (bn_leq (v := true) (decide_eq_true (by omega)))) ?_
    refine Mb rfl ?_
    refine L1g (t := 12) (b := true) rfl (by decide) rfl (mv (v := .int _ _) rfl) ?_
    refine L1g (t := 12) (b := true) rfl (by decide) rfl (fa56_2 rfl) ?_
    refine L1g (t := 12) (b := true) rfl (by decide) rfl (ld24 rfl (hD.cellv (v := .slice _ _ _) (by decide) rfl)) ?_
    refine L1g (t := 12) (b := true) rfl (by decide) rfl (ln und24 rfl) ?_
    refine L1g (t := 12) (b := true) rfl (by decide) rfl (bi rfl rfl (bn_lss (v := true) (decide_eq_true (by omega)))) ?_
    refine L1 (pk_t rfl rfl) ?_
    refine Mb rfl ?_
    refine L1g (t := 19) (b := true) rfl (by decide) rfl (mv (v := .pointer _) rfl) ?_
    refine L1g (t := 19) (b := true) rfl (by decide) rfl (nilP rfl) ?_
    refine L1g (t := 19) (b := true) rfl (by decide) rfl (fa53_4 rfl) ?_
    refine L1g (t := 19) (b := true) rfl (by decide) rfl (ld3 rfl (hB.cellv (v := .int _ _) (by decide) rfl)) ?_
    refine L1g (t := 19) (b := true) rfl (by decide) rfl (bi rfl rfl (bn_eql (v := true) (decide_eq_true rfl))) ?_
    refine L1 (pk_t rfl rfl) ?_
    refine nt ?_
    refine cond_t rfl ?_
    refine skn ?_
    refine wp_seq ?_
    refine wp_block ?_
    refine sqr ?_
    refine Mi rfl ?_
    refine L1 (bi rfl rfl (bn_shl64 (x := rev (n - 1) x) (n := 1) rfl rfl (by decide) (by omega))) ?_
    refine Mp rfl ?_
    refine LC (cl2 has19 rfl rfl rfl) (bits_r hE ⟨hB, kp⟩ hpn 1 (by decide)) ?_
    rintro v w2 ⟨kp1, hres⟩
    obtain ⟨bz, rfl, hbz, hres⟩ : ∃ bz : Nat, v = .int .i64 (bz : Int) ∧ bz < 2 ∧ ((p + n ≤ 8 * data.length ∧ rev (n - 1) x * 2 + bz = rev n x ∧ RW w0 w2 X dv (p + n) ov base 0 edge) ∨ (8 * data.length < p + n ∧ RW w0 w2 X dv (8 * data.length) ov base 2 edge)) := by
     rcases hres with ⟨h1, h2, h3⟩ | ⟨h1, h2, h3⟩
     ·refine ⟨_, h2, by have := bv_lt (srcOf data).D (p + (n - 1)) 1; omega, .inl ⟨by omega, ?_, by rwa [show p + (n - 1) + 1 = p + n by omega] at h3⟩⟩
      have := rev_next (srcOf data).D p (n - 1)
      rw [hx, show n - 1 + 1 = n by omega] at this
      exact this
     ·exact ⟨0, h2, by decide, .inr ⟨by omega, h3⟩⟩
    have hD := hD.kp kp1 (by simp; exact fun e => hXD e.symm)
    have hXk : ∀ b ∈ Bs, b ∉ [X] := fun b hb hm => hXB (by simp at hm; rw [← hm]; exact hb)
    have hCc := hCc.kp kp1 hXk
    have hCs2 : AgN w2 Bs (.slice sa (syms L).length sc) (syms L) := AgN.kp ⟨sa, sc, rfl, hsc⟩ kp1 hXk
    have kpX := kpX.trans kp1
    refine L1 (bi rfl rfl (bn_orz (x := rev (n - 1) x * 2 ^ 1) (y := bz) (z := rev (n - 1) x * 2 + bz) rfl rfl (by omega) (by omega) (or_one _ hbz))) ?_
    refine Ai rfl ?_
    refine wpList_nil ?_
    obtain ⟨ca, cc, hce, hcc⟩ := id hCc
    obtain ⟨cad, rfl, _, ccell⟩ := hcc n (by simp; omega)
    rcases hres with ⟨hpn2, hrv, hB, kp⟩ | ⟨hpn2, hB, kp⟩
    ·skip
     rw [hrv]
     have hrn := rvb n x
     have h2n' : 2 ^ n ≤ 2 ^ 15 := Nat.pow_le_pow_right (by decide) (by omega)
     by_cases hfd : rev n x - nc L n < cnt L n
     ·skip
      have hfnd : fnd L x n := by unfold fnd; omega
      obtain ⟨s, hs1, hs2, hs3, hs4⟩ := rsym_ok (S := srcOf data) (p := p) hR hn1 (by rw [hx]; omega) (by rw [hx]; exact hfnd) hpn2
      rw [hx] at hs3
      obtain ⟨hg1, hg2⟩ := syms_get hn1 hn15 hs1 hs2
      rw [hs3] at hg1 hg2
      obtain ⟨sa3, sc3, he3, hsc3⟩ := hCs2
      cases he3
      obtain ⟨sad, rfl, _, scell⟩ := hsc3 _ hg2
      refine then_n ?_
      refine sqr ?_
      refine Mi rfl ?_
      refine L1 (bi rfl rfl (bn_shl64 (x := ff L n) (n := 1) rfl rfl (by decide) (by omega))) ?_
      refine L1 (asg (v := .int .i64 ((nc L n : Nat) : Int)) (by show Value.int .i64 ((ff L n * 2 ^ 1 : Nat) : Int) = _; rw [hff2])) ?_
      refine nt ?_
      refine sqr ?_
      refine L1 (fa56_1 rfl) ?_
      refine L1 (ld24 (v := .slice (some cad) _ cc) rfl (hD.cellv (by decide) hce)) ?_
      refine Mi rfl ?_
      refine L1 (ixg und24 sz3 rfl rfl rfl (by simp; omega)) ?_
      refine L1 (ld3 (v := .int .i64 ((cnt L n : Nat) : Int)) rfl (by rw [ccell, ck_get L (by omega)]; unfold ck; rw [if_neg (by omega)])) ?_
      refine Ai rfl ?_
      refine nt ?_
      refine wp_seq ?_
      refine sqr ?_
      refine Mi rfl ?_
      refine Mi rfl ?_
      refine L1 (bi rfl rfl (bn_sub (c := ((rev n x - nc L n : Nat) : Int)) (by omega) (by omega) (by omega))) ?_
      refine Mi rfl ?_
      refine L1 (bi rfl rfl (bn_lss (v := true) (decide_eq_true (by omega)))) ?_
      refine Mb rfl ?_
      refine L1g (t := 45) (b := true) rfl (by decide) rfl (mv (v := .pointer _) rfl) ?_
      refine L1g (t := 45) (b := true) rfl (by decide) rfl (nilP rfl) ?_
      refine L1g (t := 45) (b := true) rfl (by decide) rfl (fa53_4 rfl) ?_
      refine L1g (t := 45) (b := true) rfl (by decide) rfl (ld3 rfl (hB.cellv (v := .int _ _) (by decide) rfl)) ?_
      refine L1g (t := 45) (b := true) rfl (by decide) rfl (bi rfl rfl (bn_eql (v := true) (decide_eq_true rfl))) ?_
      refine L1 (pk_t rfl rfl) ?_
      refine nt ?_
      refine cond_t rfl ?_
      refine sqr ?_
      refine L1 (fa56_2 rfl) ?_
      refine L1 (ld24 rfl (hD.cellv (v := .slice _ _ _) (by decide) rfl)) ?_
      refine Mi rfl ?_
      refine Mi rfl ?_
      refine L1 (bi rfl rfl (bn_add (c := (((symA L (n - 1)).length + rev n x : Nat) : Int)) (by omega) (by omega) (by omega))) ?_
      refine Mi rfl ?_
      refine L1 (bi rfl rfl (bn_sub (c := (((symA L (n - 1)).length + (rev n x - nc L n) : Nat) : Int)) (by omega) (by omega) (by omega))) ?_
      refine L1 (ixg und24 sz3 rfl rfl rfl hg2) ?_
      refine L1 (ld3 (v := .int .i64 ((s : Nat) : Int)) rfl (by rw [scell, hg1])) ?_
      refine Ai rfl ?_
      refine nt ?_
      refine wp_ret ?_
      refine then_r ?_
      refine inb_r ?_
      refine then_r ?_
      refine then_r ?_
      refine inb_r ?_
      refine then_r ?_
      refine ret1 rfl rfl ?_
      exact ⟨_, rfl, kpX, .inl ⟨s, p + n, hs4, rfl, hs1, by omega, hpn2, hB, kp⟩⟩
     ·skip
      refine then_n ?_
      refine sqr ?_
      refine Mi rfl ?_
      refine L1 (bi rfl rfl (bn_shl64 (x := ff L n) (n := 1) rfl rfl (by decide) (by omega))) ?_
      refine L1 (asg (v := .int .i64 ((nc L n : Nat) : Int)) (by show Value.int .i64 ((ff L n * 2 ^ 1 : Nat) : Int) = _; rw [hff2])) ?_
      refine nt ?_
      refine sqr ?_
      refine L1 (fa56_1 rfl) ?_
      refine L1 (ld24 (v := .slice (some cad) _ cc) rfl (hD.cellv (by decide) hce)) ?_
      refine Mi rfl ?_
      refine L1 (ixg und24 sz3 rfl rfl rfl (by simp; omega)) ?_
      refine L1 (ld3 (v := .int .i64 ((cnt L n : Nat) : Int)) rfl (by rw [ccell, ck_get L (by omega)]; unfold ck; rw [if_neg (by omega)])) ?_
      refine Ai rfl ?_
      refine nt ?_
      refine wp_seq ?_
      refine sqr ?_
      refine Mi rfl ?_
      refine Mi rfl ?_
      refine L1 (bi rfl rfl (bn_sub (c := ((rev n x - nc L n : Nat) : Int)) (by omega) (by omega) (by omega))) ?_
      refine Mi rfl ?_
      refine L1 (bi rfl rfl (bn_lss (v := false) (decide_eq_false (by omega)))) ?_
      refine Mb rfl ?_
      refine Lskip (t := 45) (b := true) rfl (by decide) rfl ?_
      refine Lskip (t := 45) (b := true) rfl (by decide) rfl ?_
      refine Lskip (t := 45) (b := true) rfl (by decide) rfl ?_
      refine Lskip (t := 45) (b := true) rfl (by decide) rfl ?_
      refine Lskip (t := 45) (b := true) rfl (by decide) rfl ?_
      refine L1 (pk_f rfl rfl) ?_
      refine nt ?_
      refine cond_f rfl ?_
      refine skn ?_
      refine sqr ?_
      refine Mi rfl ?_
      refine Mi rfl ?_
      refine L1 (bi rfl rfl (bn_add (c := ((ff L (n + 1) : Nat) : Int)) (by omega) (by omega) (by omega))) ?_
      refine Ai rfl ?_
      refine nt ?_
      refine reg_lit ?_
      refine Mi rfl ?_
      refine Mi rfl ?_
      refine L1 (bi rfl rfl (bn_add (c := (((symA L n).length : Nat) : Int)) (by omega) (by omega) (by omega))) ?_
      refine Ai rfl ?_
      refine wpList_nil ?_
      refine inb_n ?_
      refine then_n ?_
      refine reg_lit ?_
      refine Mi rfl ?_
      refine L1 (bi rfl rfl (bn_add (c := ((n + 1 : Nat) : Int)) (by omega) (by omega) (by omega))) ?_
      refine Ai rfl ?_
      refine nt ?_
      exact ⟨17 - (n + 1), _, by omega, rfl, rfl, rfl, n + 1, rfl, by omega, by omega, rfl, hD, hCc, hCs2, kp, kpX, .inl ⟨rfl, rfl, rfl, hB, hpn2, by omega, fun m h1 h2 => by
       rcases Nat.lt_or_ge m n with h | h
       ·exact hno m h1 h
       ·obtain rfl : m = n := by omega
        unfold fnd; omega⟩⟩
    ·skip
     have hrs := rsym_short (S := srcOf data) (p := p) hR (by rw [hx]; exact hno) hnmx hpn2
     by_cases hfd : (rev (n - 1) x * 2 + bz) - nc L n < cnt L n
     ·skip
      refine then_n ?_
      refine sqr ?_
      refine Mi rfl ?_
      refine L1 (bi rfl rfl (bn_shl64 (x := ff L n) (n := 1) rfl rfl (by decide) (by omega))) ?_
      refine L1 (asg (v := .int .i64 ((nc L n : Nat) : Int)) (by show Value.int .i64 ((ff L n * 2 ^ 1 : Nat) : Int) = _; rw [hff2])) ?_
      refine nt ?_
      refine sqr ?_
      refine L1 (fa56_1 rfl) ?_
      refine L1 (ld24 (v := .slice (some cad) _ cc) rfl (hD.cellv (by decide) hce)) ?_
      refine Mi rfl ?_
      refine L1 (ixg und24 sz3 rfl rfl rfl (by simp; omega)) ?_
      refine L1 (ld3 (v := .int .i64 ((cnt L n : Nat) : Int)) rfl (by rw [ccell, ck_get L (by omega)]; unfold ck; rw [if_neg (by omega)])) ?_
      refine Ai rfl ?_
      refine nt ?_
      refine wp_seq ?_
      refine sqr ?_
      refine Mi rfl ?_
      refine Mi rfl ?_
      refine L1 (bi rfl rfl (bn_sub (c := ((rev (n - 1) x * 2 + bz - nc L n : Nat) : Int)) (by omega) (by omega) (by omega))) ?_
      refine Mi rfl ?_
      refine L1 (bi rfl rfl (bn_lss (v := true) (decide_eq_true (by omega)))) ?_
      refine Mb rfl ?_
      refine L1g (t := 45) (b := true) rfl (by decide) rfl (mv (v := .pointer _) rfl) ?_
      refine L1g (t := 45) (b := true) rfl (by decide) rfl (nilP rfl) ?_
      refine L1g (t := 45) (b := true) rfl (by decide) rfl (fa53_4 rfl) ?_
      refine L1g (t := 45) (b := true) rfl (by decide) rfl (ld3 rfl (hB.cellv (v := .int _ _) (by decide) rfl)) ?_
      refine L1g (t := 45) (b := true) rfl (by decide) rfl (bi rfl rfl (bn_eql (v := false) (decide_eq_false (by decide)))) ?_
      refine L1 (pk_t rfl rfl) ?_
      refine nt ?_
      refine cond_f rfl ?_
      refine skn ?_
      refine sqr ?_
      refine Mi rfl ?_
      refine Mi rfl ?_
      refine L1 (bi rfl rfl (bn_add (c := ((ff L (n + 1) : Nat) : Int)) (by omega) (by omega) (by omega))) ?_
      refine Ai rfl ?_
      refine nt ?_
      refine reg_lit ?_
      refine Mi rfl ?_
      refine Mi rfl ?_
      refine L1 (bi rfl rfl (bn_add (c := (((symA L n).length : Nat) : Int)) (by omega) (by omega) (by omega))) ?_
      refine Ai rfl ?_
      refine wpList_nil ?_
      refine inb_n ?_
      refine then_n ?_
      refine reg_lit ?_
      refine Mi rfl ?_
      refine L1 (bi rfl rfl (bn_add (c := ((n + 1 : Nat) : Int)) (by omega) (by omega) (by omega))) ?_
      refine Ai rfl ?_
      refine nt ?_
      exact ⟨17 - (n + 1), _, by omega, rfl, rfl, rfl, n + 1, rfl, by omega, by omega, rfl, hD, hCc, hCs2, kp, kpX, .inr ⟨⟨_, _, _, rfl, rfl, rfl⟩, hrs, hB⟩⟩
     ·skip
      refine then_n ?_
      refine sqr ?_
      refine Mi rfl ?_
      refine L1 (bi rfl rfl (bn_shl64 (x := ff L n) (n := 1) rfl rfl (by decide) (by omega))) ?_
      refine L1 (asg (v := .int .i64 ((nc L n : Nat) : Int)) (by show Value.int .i64 ((ff L n * 2 ^ 1 : Nat) : Int) = _; rw [hff2])) ?_
      refine nt ?_
      refine sqr ?_
      refine L1 (fa56_1 rfl) ?_
      refine L1 (ld24 (v := .slice (some cad) _ cc) rfl (hD.cellv (by decide) hce)) ?_
      refine Mi rfl ?_
      refine L1 (ixg und24 sz3 rfl rfl rfl (by simp; omega)) ?_
      refine L1 (ld3 (v := .int .i64 ((cnt L n : Nat) : Int)) rfl (by rw [ccell, ck_get L (by omega)]; unfold ck; rw [if_neg (by omega)])) ?_
      refine Ai rfl ?_
      refine nt ?_
      refine wp_seq ?_
      refine sqr ?_
      refine Mi rfl ?_
      refine Mi rfl ?_
      refine L1 (bi rfl rfl (bn_sub (c := ((rev (n - 1) x * 2 + bz - nc L n : Nat) : Int)) (by omega) (by omega) (by omega))) ?_
      refine Mi rfl ?_
      refine L1 (bi rfl rfl (bn_lss (v := false) (decide_eq_false (by omega)))) ?_
      refine Mb rfl ?_
      refine Lskip (t := 45) (b := true) rfl (by decide) rfl ?_
      refine Lskip (t := 45) (b := true) rfl (by decide) rfl ?_
      refine Lskip (t := 45) (b := true) rfl (by decide) rfl ?_
      refine Lskip (t := 45) (b := true) rfl (by decide) rfl ?_
      refine Lskip (t := 45) (b := true) rfl (by decide) rfl ?_
      refine L1 (pk_f rfl rfl) ?_
      refine nt ?_
      refine cond_f rfl ?_
      refine skn ?_
      refine sqr ?_
      refine Mi rfl ?_
      refine Mi rfl ?_
      refine L1 (bi rfl rfl (bn_add (c := ((ff L (n + 1) : Nat) : Int)) (by omega) (by omega) (by omega))) ?_
      refine Ai rfl ?_
      refine nt ?_
      refine reg_lit ?_
      refine Mi rfl ?_
      refine Mi rfl ?_
      refine L1 (bi rfl rfl (bn_add (c := (((symA L n).length : Nat) : Int)) (by omega) (by omega) (by omega))) ?_
      refine Ai rfl ?_
      refine wpList_nil ?_
      refine inb_n ?_
      refine then_n ?_
      refine reg_lit ?_
      refine Mi rfl ?_
      refine L1 (bi rfl rfl (bn_add (c := ((n + 1 : Nat) : Int)) (by omega) (by omega) (by omega))) ?_
      refine Ai rfl ?_
      refine nt ?_
      exact ⟨17 - (n + 1), _, by omega, rfl, rfl, rfl, n + 1, rfl, by omega, by omega, rfl, hD, hCc, hCs2, kp, kpX, .inr ⟨⟨_, _, _, rfl, rfl, rfl⟩, hrs, hB⟩⟩
   ·skip
    have hnmx : n - 1 = mx L := by
     rcases Nat.lt_or_ge (n - 1) (mx L) with h | h
     ·exact absurd (symA_lt h h15) hat
     ·omega
    have hrb := rsym_bad (S := srcOf data) (p := p) hR (by rw [hx]; exact fun m h1 h2 => hno m h1 (by omega)) (by show p + mx L ≤ 8 * data.length; omega)
    rw [← hnmx] at hrb
    refine wp_seq ?_
    refine sqr ?_
    refine Mi rfl ?_
    refine L1 (bi rfl rfl (bn_leq (v := true) (decide_eq_true (by omega)))) ?_
    refine Mb rfl ?_
    refine L1g (t := 12) (b := true) rfl (by decide) rfl (mv (v := .int _ _) rfl) ?_
    refine L1g (t := 12) (b := true) rfl (by decide) rfl (fa56_2 rfl) ?_
    refine L1g (t := 12) (b := true) rfl (by decide) rfl (ld24 rfl (hD.cellv (v := .slice _ _ _) (by decide) rfl)) ?_
    refine L1g (t := 12) (b := true) rfl (by decide) rfl (ln und24 rfl) ?_
    refine L1g (t := 12) (b := true) rfl (by decide) rfl (bi rfl rfl (bn_lss (v := false) (decide_eq_false (by omega)))) ?_
    refine L1 (pk_t rfl rfl) ?_
    refine Mb rfl ?_
    refine Lskip (t := 19) (b := true) rfl (by decide) rfl ?_
    refine Lskip (t := 19) (b := true) rfl (by decide) rfl ?_
    refine Lskip (t := 19) (b := true) rfl (by decide) rfl ?_
    refine Lskip (t := 19) (b := true) rfl (by decide) rfl ?_
    refine Lskip (t := 19) (b := true) rfl (by decide) rfl ?_
    refine L1 (pk_f rfl rfl) ?_
    refine nt ?_
    refine cond_f rfl ?_
    refine wp_exit ?_
    refine then_e ?_
    refine then_e ?_
    refine inb_same ?_
    refine then_n ?_
    refine wp_seq ?_
    refine sqr ?_
    refine Mp rfl ?_
    refine Np rfl ?_
    refine L1 (fa53_4 rfl) ?_
    refine L1 (ld3 rfl (hB.cellv (v := .int _ _) (by decide) rfl)) ?_
    refine L1 (bi rfl rfl (bn_eql (v := true) (decide_eq_true rfl))) ?_
    refine nt ?_
    refine cond_t rfl ?_
    refine reg_lit ?_
    refine Mp rfl ?_
    refine Np rfl ?_
    refine L1 (fa53_4 rfl) ?_
    refine Lst3 (v := .int .i64 ((1 : Nat) : Int)) rfl rfl rfl hB (by decide) ?_
    intro wx hB kpx
    have hB := hB.congr (fun k _ => rx_4 k)
    have kp := kp.transNew kpx (by simp; omega)
    have kpX := kpX.trans kpx
    clear kpx
    refine nt ?_
    refine sqr ?_
    refine Ai rfl ?_
    refine nt ?_
    refine wp_ret ?_
    refine ret1 rfl rfl ?_
    exact ⟨_, rfl, kpX, .inr (.inr ⟨_, hrb, hpn, rfl, hB, kp⟩)⟩
  ·skip
   have hnmx : n - 1 = mx L := by omega
   have hrb := rsym_bad (S := srcOf data) (p := p) hR (by rw [hx]; exact fun m h1 h2 => hno m h1 (by omega)) (by show p + mx L ≤ 8 * data.length; omega)
   rw [← hnmx] at hrb
   refine wp_seq ?_
   refine sqr ?_
   refine Mi rfl ?_
   refine L1 (bi rfl rfl (bn_leq (v := false) (decide_eq_false (by omega)))) ?_
   refine Mb rfl ?_
   refine Lskip (t := 12) (b := true) rfl (by decide) rfl ?_
   refine Lskip (t := 12) (b := true) rfl (by decide) rfl ?_
   refine Lskip (t := 12) (b := true) rfl (by decide) rfl ?_
   refine Lskip (t := 12) (b := true) rfl (by decide) rfl ?_
   refine Lskip (t := 12) (b := true) rfl (by decide) rfl ?_
   refine L1 (pk_f rfl rfl) ?_
   refine Mb rfl ?_
   refine Lskip (t := 19) (b := true) rfl (by decide) rfl ?_
   refine Lskip (t := 19) (b := true) rfl (by decide) rfl ?_
   refine Lskip (t := 19) (b := true) rfl (by decide) rfl ?_
   refine Lskip (t := 19) (b := true) rfl (by decide) rfl ?_
   refine Lskip (t := 19) (b := true) rfl (by decide) rfl ?_
   refine L1 (pk_f rfl rfl) ?_
   refine nt ?_
   refine cond_f rfl ?_
   refine wp_exit ?_
   refine then_e ?_
   refine then_e ?_
   refine inb_same ?_
   refine then_n ?_
   refine wp_seq ?_
   refine sqr ?_
   refine Mp rfl ?_
   refine Np rfl ?_
   refine L1 (fa53_4 rfl) ?_
   refine L1 (ld3 rfl (hB.cellv (v := .int _ _) (by decide) rfl)) ?_
   refine L1 (bi rfl rfl (bn_eql (v := true) (decide_eq_true rfl))) ?_
   refine nt ?_
   refine cond_t rfl ?_
   refine reg_lit ?_
   refine Mp rfl ?_
   refine Np rfl ?_
   refine L1 (fa53_4 rfl) ?_
   refine Lst3 (v := .int .i64 ((1 : Nat) : Int)) rfl rfl rfl hB (by decide) ?_
   intro wx hB kpx
   have hB := hB.congr (fun k _ => rx_4 k)
   have kp := kp.transNew kpx (by simp; omega)
   have kpX := kpX.trans kpx
   clear kpx
   refine nt ?_
   refine sqr ?_
   refine Ai rfl ?_
   refine nt ?_
   refine wp_ret ?_
   refine ret1 rfl rfl ?_
   exact ⟨_, rfl, kpX, .inr (.inr ⟨_, hrb, hpn, rfl, hB, kp⟩)⟩
 ·skip
  refine slots (fc s0 (fc s3 (fc s5 (fc s6 (fc s7 (fc s8 fnil)))))) ?_
  obtain ⟨sa, sc, rfl, hsc⟩ := id hCs
  by_cases hn15 : n ≤ 15
  ·skip
   by_cases hat : z7 < (((syms L).length : Nat) : Int)
   ·skip
    refine wp_seq ?_
    refine sqr ?_
    refine Mi rfl ?_
    refine L1 (bi rfl rfl (bn_leq (v := true) (decide_eq_true (by omega)))) ?_
    refine Mb rfl ?_
    refine L1g (t := 12) (b := true) rfl (by decide) rfl (mv (v := .int _ _) rfl) ?_
    refine L1g (t := 12) (b := true) rfl (by decide) rfl (fa56_2 rfl) ?_
    refine L1g (t := 12) (b := true) rfl (by decide) rfl (ld24 rfl (hD.cellv (v := .slice _ _ _) (by decide) rfl)) ?_
    refine L1g (t := 12) (b := true) rfl (by decide) rfl (ln und24 rfl) ?_
    refine L1g (t := 12) (b := true) rfl (by decide) rfl (bi rfl rfl (bn_lss (v := true) (decide_eq_true hat))) ?_
    refine L1 (pk_t rfl rfl) ?_
    refine Mb rfl ?_
    refine L1g (t := 19) (b := true) rfl (by decide) rfl (mv (v := .pointer _) rfl) ?_
    refine L1g (t := 19) (b := true) rfl (by decide) rfl (nilP rfl) ?_
    refine L1g (t := 19) (b := true) rfl (by decide) rfl (fa53_4 rfl) ?_
    refine L1g (t := 19) (b := true) rfl (by decide) rfl (ld3 rfl (hB.cellv (v := .int _ _) (by decide) rfl)) ?_
    refine L1g (t := 19) (b := true) rfl (by decide) rfl (bi rfl rfl (bn_eql (v := false) (decide_eq_false (by decide)))) ?_
    refine L1 (pk_t rfl rfl) ?_
    refine nt ?_
    refine cond_f rfl ?_
    refine wp_exit ?_
    refine then_e ?_
    refine then_e ?_
    refine inb_same ?_
    refine then_n ?_
    refine wp_seq ?_
    refine sqr ?_
    refine Mp rfl ?_
    refine Np rfl ?_
    refine L1 (fa53_4 rfl) ?_
    refine L1 (ld3 rfl (hB.cellv (v := .int _ _) (by decide) rfl)) ?_
    refine L1 (bi rfl rfl (bn_eql (v := false) (decide_eq_false (by decide)))) ?_
    refine nt ?_
    refine cond_f rfl ?_
    refine skn ?_
    refine sqr ?_
    refine Ai rfl ?_
    refine nt ?_
    refine wp_ret ?_
    refine ret1 rfl rfl ?_
    exact ⟨_, rfl, kpX, .inr (.inl ⟨hrs, rfl, hB, kp⟩)⟩
   ·skip
    refine wp_seq ?_
    refine sqr ?_
    refine Mi rfl ?_
    refine L1 (bi rfl rfl (bn_leq (v := true) (decide_eq_true (by omega)))) ?_
    refine Mb rfl ?_
    refine L1g (t := 12) (b := true) rfl (by decide) rfl (mv (v := .int _ _) rfl) ?_
    refine L1g (t := 12) (b := true) rfl (by decide) rfl (fa56_2 rfl) ?_
    refine L1g (t := 12) (b := true) rfl (by decide) rfl (ld24 rfl (hD.cellv (v := .slice _ _ _) (by decide) rfl)) ?_
    refine L1g (t := 12) (b := true) rfl (by decide) rfl (ln und24 rfl) ?_
    refine L1g (t := 12) (b := true) rfl (by decide) rfl (bi rfl rfl (bn_lss (v := false) (decide_eq_false hat))) ?_
    refine L1 (pk_t rfl rfl) ?_
    refine Mb rfl ?_
    refine Lskip (t := 19) (b := true) rfl (by decide) rfl ?_
    refine Lskip (t := 19) (b := true) rfl (by decide) rfl ?_
    refine Lskip (t := 19) (b := true) rfl (by decide) rfl ?_
    refine Lskip (t := 19) (b := true) rfl (by decide) rfl ?_
    refine Lskip (t := 19) (b := true) rfl (by decide) rfl ?_
    refine L1 (pk_f rfl rfl) ?_
    refine nt ?_
    refine cond_f rfl ?_
    refine wp_exit ?_
    refine then_e ?_
    refine then_e ?_
    refine inb_same ?_
    refine then_n ?_
    refine wp_seq ?_
    refine sqr ?_
    refine Mp rfl ?_
    refine Np rfl ?_
    refine L1 (fa53_4 rfl) ?_
    refine L1 (ld3 rfl (hB.cellv (v := .int _ _) (by decide) rfl)) ?_
    refine L1 (bi rfl rfl (bn_eql (v := false) (decide_eq_false (by decide)))) ?_
    refine nt ?_
    refine cond_f rfl ?_
    refine skn ?_
    refine sqr ?_
    refine Ai rfl ?_
    refine nt ?_
    refine wp_ret ?_
    refine ret1 rfl rfl ?_
    exact ⟨_, rfl, kpX, .inr (.inl ⟨hrs, rfl, hB, kp⟩)⟩
  ·skip
   refine wp_seq ?_
   refine sqr ?_
   refine Mi rfl ?_
   refine L1 (bi rfl rfl (bn_leq (v := false) (decide_eq_false (by omega)))) ?_
   refine Mb rfl ?_
   refine Lskip (t := 12) (b := true) rfl (by decide) rfl ?_
   refine Lskip (t := 12) (b := true) rfl (by decide) rfl ?_
   refine Lskip (t := 12) (b := true) rfl (by decide) rfl ?_
   refine Lskip (t := 12) (b := true) rfl (by decide) rfl ?_
   refine Lskip (t := 12) (b := true) rfl (by decide) rfl ?_
   refine L1 (pk_f rfl rfl) ?_
   refine Mb rfl ?_
   refine Lskip (t := 19) (b := true) rfl (by decide) rfl ?_
   refine Lskip (t := 19) (b := true) rfl (by decide) rfl ?_
   refine Lskip (t := 19) (b := true) rfl (by decide) rfl ?_
   refine Lskip (t := 19) (b := true) rfl (by decide) rfl ?_
   refine Lskip (t := 19) (b := true) rfl (by decide) rfl ?_
   refine L1 (pk_f rfl rfl) ?_
   refine nt ?_
   refine cond_f rfl ?_
   refine wp_exit ?_
   refine then_e ?_
   refine then_e ?_
   refine inb_same ?_
   refine then_n ?_
   refine wp_seq ?_
   refine sqr ?_
   refine Mp rfl ?_
   refine Np rfl ?_
   refine L1 (fa53_4 rfl) ?_
   refine L1 (ld3 rfl (hB.cellv (v := .int _ _) (by decide) rfl)) ?_
   refine L1 (bi rfl rfl (bn_eql (v := false) (decide_eq_false (by decide)))) ?_
   refine nt ?_
   refine cond_f rfl ?_
   refine skn ?_
   refine sqr ?_
   refine Ai rfl ?_
   refine nt ?_
   refine wp_ret ?_
   refine ret1 rfl rfl ?_
   exact ⟨_, rfl, kpX, .inr (.inl ⟨hrs, rfl, hB, kp⟩)⟩
end Go.Proofs.YtejeloeaklpinaaDoor
namespace Go.Proofs.YtejeloeaklpinaaDoor
/-- The base of a row of symbols and the bits more, by rounds. -/
def exF (base none each : Nat) : Nat → Nat × Nat × Nat
 | 0 => (base, 0, none)
 | s + 1 => let (b, n, l) := exF base none each s; (b + 2 ^ n, if l - 1 = 0 then n + 1 else n, if l - 1 = 0 then each else l - 1)
theorem exF_len : ∀ s, s < 28 → ((exF 3 8 4 s).1, (exF 3 8 4 s).2.1) = lenOf (s + 257) := by decide +kernel
theorem exF_dist : ∀ d, d < 30 → ((exF 1 4 2 d).1, (exF 1 4 2 d).2.1) = (if d < 4 then (d + 1, 0) else (2 ^ ((d - 2) / 2 + 1) + 1 + d % 2 * 2 ^ ((d - 2) / 2), (d - 2) / 2)) := by decide +kernel
theorem exF_l : ∀ s, s < 30 → (exF 3 8 4 s).1 ≤ 40000 ∧ (exF 3 8 4 s).2.1 ≤ 14 ∧ 1 ≤ (exF 3 8 4 s).2.2 ∧ (exF 3 8 4 s).2.2 ≤ 8 := by decide +kernel
theorem exF_d : ∀ s, s < 30 → (exF 1 4 2 s).1 ≤ 40000 ∧ (exF 1 4 2 s).2.1 ≤ 14 ∧ 1 ≤ (exF 1 4 2 s).2.2 ∧ (exF 1 4 2 s).2.2 ≤ 8 := by decide +kernel
attribute [local irreducible] wpList wpStill wpMix Code.wp Calls fr
theorem extra_r (w : World) (s base none each : Nat) (hs : s ≤ 29) (hbd : ∀ i, i < 30 → (exF base none each i).1 ≤ 40000 ∧ (exF base none each i).2.1 ≤ 14 ∧ 1 ≤ (exF base none each i).2.2 ∧ (exF base none each i).2.2 ≤ 8) :
  Ret 37 [.int .i64 (s : Int), .int .i64 (base : Int), .int .i64 (none : Int), .int .i64 (each : Int)] w fun v w' => v = .tuple #[.int .i64 (((exF base none each s).1 : Nat) : Int), .int .i64 (((exF base none each s).2.1 : Nat) : Int)] ∧ Kp [] w w' := by
 have kp := Kp.refl [] w
 refine calls_fr (N := 30) Tryd.func37 rfl rfl (by simp) rfl ?_
 refine sqr ?_
 refine Ai rfl ?_
 refine Ai rfl ?_
 refine nt ?_
 refine sqr ?_
 refine Ai rfl ?_
 refine nt ?_
 refine sqr ?_
 refine Mi rfl ?_
 refine Ai rfl ?_
 refine nt ?_
 refine wp_seq ?_
 refine sqr ?_
 refine Mi rfl ?_
 refine Mi rfl ?_
 refine nt ?_
 refine wp_block ?_
 refine loop_fr (fun k f w' => f 3 = .int .i64 ((each : Nat) : Int) ∧ f 13 = .int .i64 ((s : Nat) : Int) ∧ ∃ i : Nat, f 14 = .int .i64 ((i : Nat) : Int) ∧ i ≤ s ∧ k = s - i ∧ f 1 = .int .i64 (((exF base none each i).1 : Nat) : Int) ∧ f 10 = .int .i64 (((exF base none each i).2.1 : Nat) : Int) ∧ f 11 = .int .i64 (((exF base none each i).2.2 : Nat) : Int) ∧ Kp [] w w') s ⟨rfl, rfl, 0, rfl, Nat.zero_le _, rfl, rfl, rfl, rfl, kp⟩ ?_
 clear kp
 intro k f w1 HJ
 obtain ⟨s3, s13, i, s14, hi, rfl, s1, s10, s11, kp⟩ := HJ
 refine slots (fc s1 (fc s3 (fc s10 (fc s11 (fc s13 (fc s14 fnil)))))) ?_
 refine sqr ?_
 refine L1 (bi rfl rfl (bn_lss (v := decide (i < s)) (decide_eq_decide.2 (by omega)))) ?_
 refine nt ?_
 refine wp_seq ?_
 refine cond_d (p := i < s) rfl (fun hlt => ?_) (fun hlt => ?_)
 ·skip
  obtain ⟨hb1, hb2, hb3, hb4⟩ := hbd i (by omega)
  have hes : exF base none each (i + 1) = ((exF base none each i).1 + 2 ^ (exF base none each i).2.1, if (exF base none each i).2.2 - 1 = 0 then (exF base none each i).2.1 + 1 else (exF base none each i).2.1, if (exF base none each i).2.2 - 1 = 0 then each else (exF base none each i).2.2 - 1) := rfl
  obtain ⟨eb, hebe⟩ : ∃ eb, (exF base none each i).1 = eb := ⟨_, rfl⟩
  obtain ⟨en, hene⟩ : ∃ en, (exF base none each i).2.1 = en := ⟨_, rfl⟩
  obtain ⟨el, hele⟩ : ∃ el, (exF base none each i).2.2 = el := ⟨_, rfl⟩
  rw [hebe, hene, hele] at hes
  rw [hebe] at hb1
  rw [hene] at hb2
  rw [hele] at hb3 hb4
  rw [hebe, hene, hele]
  have h2n : 2 ^ en ≤ 2 ^ 14 := Nat.pow_le_pow_right (by decide) hb2
  have h214 : (2 : Nat) ^ 14 = 16384 := rfl
  have h0n : (0 : Int) ≤ ((2 ^ en : Nat) : Int) := Int.natCast_nonneg _
  refine skn ?_
  refine wp_seq ?_
  refine wp_block ?_
  refine sqr ?_
  refine Mi rfl ?_
  refine Mi rfl ?_
  refine L1 (bi rfl rfl (bn_shl64 (x := 1) (n := en) rfl rfl (by omega) (by omega))) ?_
  refine L1 (bi rfl rfl (bn_add (c := ((eb + 2 ^ en : Nat) : Int)) (by omega) (by omega) (by omega))) ?_
  refine Ai rfl ?_
  refine nt ?_
  refine sqr ?_
  refine Mi rfl ?_
  refine L1 (bi rfl rfl (bn_sub (c := ((el - 1 : Nat) : Int)) (by omega) (by omega) (by omega))) ?_
  refine Ai rfl ?_
  refine nt ?_
  refine sqr ?_
  refine Mi rfl ?_
  refine L1 (bi rfl rfl (bn_eql (v := decide (el - 1 = 0)) (decide_eq_decide.2 (by omega)))) ?_
  refine nt ?_
  refine cond_d (p := el - 1 = 0) rfl (fun hl => ?_) (fun hl => ?_)
  ·skip
   refine sqr ?_
   refine Mi rfl ?_
   refine L1 (bi rfl rfl (bn_add (c := ((en + 1 : Nat) : Int)) (by omega) (by omega) (by omega))) ?_
   refine Ai rfl ?_
   refine nt ?_
   refine reg_lit ?_
   refine Mi rfl ?_
   refine Ai rfl ?_
   refine wpList_nil ?_
   refine inb_n ?_
   refine then_n ?_
   refine reg_lit ?_
   refine L1 (bi rfl rfl (bn_add (c := ((i + 1 : Nat) : Int)) (by omega) (by omega) (by omega))) ?_
   refine Mi rfl ?_
   refine nt ?_
   exact ⟨s - (i + 1), _, by omega, rfl, rfl, rfl, i + 1, rfl, by omega, rfl, by rw [hes]; rfl, by rw [hes]; show _ = Value.int .i64 ((if el - 1 = 0 then en + 1 else en : Nat) : Int); rw [if_pos hl]; rfl, by rw [hes]; show _ = Value.int .i64 ((if el - 1 = 0 then each else el - 1 : Nat) : Int); rw [if_pos hl]; rfl, kp⟩
  ·skip
   refine wp_skip ?_
   refine inb_n ?_
   refine then_n ?_
   refine reg_lit ?_
   refine L1 (bi rfl rfl (bn_add (c := ((i + 1 : Nat) : Int)) (by omega) (by omega) (by omega))) ?_
   refine Mi rfl ?_
   refine nt ?_
   exact ⟨s - (i + 1), _, by omega, rfl, rfl, rfl, i + 1, rfl, by omega, rfl, by rw [hes]; rfl, by rw [hes]; show _ = Value.int .i64 ((if el - 1 = 0 then en + 1 else en : Nat) : Int); rw [if_neg hl]; rfl, by rw [hes]; show _ = Value.int .i64 ((if el - 1 = 0 then each else el - 1 : Nat) : Int); rw [if_neg hl]; rfl, kp⟩
 ·skip
  obtain rfl : i = s := by omega
  refine wp_exit ?_
  refine then_e ?_
  refine then_e ?_
  refine inb_same ?_
  refine then_n ?_
  refine sqr ?_
  refine Mi rfl ?_
  refine Mi rfl ?_
  refine Ai rfl ?_
  refine Ai rfl ?_
  refine nt ?_
  refine wp_ret ?_
  refine ret2 rfl rfl rfl ?_
  exact ⟨_, rfl, rfl, kp⟩
theorem len_r {w0 w : World} {X : Nat} {dv ov : Value} {data : List Nat} {p base edge : Nat} (hE : RE w0 dv data X) (hW : RW w0 w X dv p ov base 0 edge) (hp : p ≤ 8 * data.length) (s : Nat) (h1 : 256 < s) (h2 : s ≤ 285) :
  Ret 29 [px X, .int .i64 (s : Int)] w fun v w' => Kp [X] w w' ∧ ((p + (lenOf s).2 ≤ 8 * data.length ∧ v = .int .i64 (((lenOf s).1 + bv (srcOf data).D p (lenOf s).2 : Nat) : Int) ∧ RW w0 w' X dv (p + (lenOf s).2) ov base 0 edge) ∨ (8 * data.length < p + (lenOf s).2 ∧ (∃ z : Nat, v = .int .i64 (z : Int)) ∧ RW w0 w' X dv (8 * data.length) ov base 2 edge)) := by
 obtain ⟨hB, kp⟩ := hW
 have hXn := hE.hX
 have kpX := Kp.refl [X] w
 refine calls_fr (N := 20) Tryd.func29 rfl rfl (by simp [px]) rfl ?_
 refine sqr ?_
 refine Ai rfl ?_
 refine nt ?_
 refine wp_seq ?_
 refine sqr ?_
 refine Mi rfl ?_
 refine L1 (bi rfl rfl (bn_eql (v := decide (s = 285)) (decide_eq_decide.2 (by omega)))) ?_
 refine nt ?_
 refine cond_d (p := s = 285) rfl (fun h285 => ?_) (fun h285 => ?_)
 ·skip
  refine sqr ?_
  refine Ai rfl ?_
  refine nt ?_
  refine wp_ret ?_
  refine then_r ?_
  refine ret1 rfl rfl ?_
  subst h285
  exact ⟨_, rfl, kpX, .inl ⟨by show p + 0 ≤ _; omega, by rw [show (lenOf 285).2 = 0 from rfl, bv_zero]; rfl, hB, kp⟩⟩
 ·skip
  obtain ⟨sb, hsb⟩ : ∃ sb, s = sb + 257 := ⟨s - 257, by omega⟩
  have hex := exF_len sb (by omega)
  rw [← hsb] at hex
  have hl1 := congrArg Prod.fst hex
  have hl2 := congrArg Prod.snd hex
  simp only at hl1 hl2
  obtain ⟨hn5, hl3, hl259⟩ := lenOf_le (v := s) (by omega) (by omega)
  refine skn ?_
  refine sqr ?_
  refine Mi rfl ?_
  refine L1 (bi rfl rfl (bn_sub (c := ((sb : Nat) : Int)) (by omega) (by omega) (by omega))) ?_
  refine LC (cl4 has37 rfl rfl rfl rfl rfl) (extra_r _ sb 3 8 4 (by omega) exF_l) ?_
  rintro v w2 ⟨rfl, kp2⟩
  rw [hl1, hl2]
  have hB := hB.kp kp2 (by simp)
  have kp := kp.trans kp2
  have kpX := kpX.trans (kp2.mono (by simp))
  refine L1 (mv (v := .tuple _) rfl) ?_
  refine L1 (ext2_0 rfl) ?_
  refine L1 (ext2_1 rfl) ?_
  refine Ai rfl ?_
  refine Ai rfl ?_
  refine nt ?_
  refine sqr ?_
  refine Mi rfl ?_
  refine Mp rfl ?_
  refine Mi rfl ?_
  refine LC (cl2 has19 rfl rfl rfl) (bits_r hE ⟨hB, kp⟩ hp (lenOf s).2 (by omega)) ?_
  rintro v w3 ⟨kp3, hres⟩
  have hbl := bv_lt (srcOf data).D p (lenOf s).2
  have h2n : 2 ^ (lenOf s).2 ≤ 2 ^ 5 := Nat.pow_le_pow_right (by decide) hn5
  have h25 : (2 : Nat) ^ 5 = 32 := rfl
  have kpX := kpX.trans kp3
  obtain ⟨bz, rfl, hbz⟩ : ∃ bz : Nat, v = .int .i64 (bz : Int) ∧ bz < 32 := by
   rcases hres with ⟨_, h2, _⟩ | ⟨_, h2, _⟩
   ·exact ⟨_, h2, by omega⟩
   ·exact ⟨0, h2, by decide⟩
  refine L1 (bi rfl rfl (bn_add (c := (((lenOf s).1 + bz : Nat) : Int)) (by omega) (by omega) (by omega))) ?_
  refine Ai rfl ?_
  refine nt ?_
  refine wp_ret ?_
  refine ret1 rfl rfl ?_
  refine ⟨_, rfl, kpX, ?_⟩
  rcases hres with ⟨h1, h2, h3⟩ | ⟨h1, h2, h3⟩
  ·have e : bz = bv (srcOf data).D p (lenOf s).2 := by injection h2 with _ h2; omega
   subst e
   exact .inl ⟨h1, rfl, h3⟩
  ·exact .inr ⟨h1, ⟨_, rfl⟩, h3⟩
/-- The base of a symbol of distances, and how many bits more. -/
def dBase (d : Nat) : Nat := (if d < 4 then (d + 1, 0) else (2 ^ ((d - 2) / 2 + 1) + 1 + d % 2 * 2 ^ ((d - 2) / 2), (d - 2) / 2)).1
def dBits (d : Nat) : Nat := (if d < 4 then (d + 1, 0) else (2 ^ ((d - 2) / 2 + 1) + 1 + d % 2 * 2 ^ ((d - 2) / 2), (d - 2) / 2)).2
theorem dist_r {w0 w : World} {X : Nat} {dv ov : Value} {data : List Nat} {p base edge : Nat} (hE : RE w0 dv data X) (hW : RW w0 w X dv p ov base 0 edge) (hp : p ≤ 8 * data.length) (d : Nat) (hd : d < 30) :
  Ret 30 [px X, .int .i64 (d : Int)] w fun v w' => Kp [X] w w' ∧ ((p + dBits d ≤ 8 * data.length ∧ v = .int .i64 ((dBase d + bv (srcOf data).D p (dBits d) : Nat) : Int) ∧ RW w0 w' X dv (p + dBits d) ov base 0 edge) ∨ (8 * data.length < p + dBits d ∧ (∃ z : Nat, v = .int .i64 (z : Int)) ∧ RW w0 w' X dv (8 * data.length) ov base 2 edge)) := by
 obtain ⟨hB, kp⟩ := hW
 have hXn := hE.hX
 have kpX := Kp.refl [X] w
 have hex := exF_dist d hd
 obtain ⟨hb1, hb2, _, _⟩ := exF_d d hd
 have hl1 : (exF 1 4 2 d).1 = dBase d := congrArg Prod.fst hex
 have hl2 : (exF 1 4 2 d).2.1 = dBits d := congrArg Prod.snd hex
 rw [hl1] at hb1
 rw [hl2] at hb2
 refine calls_fr (N := 17) Tryd.func30 rfl rfl (by simp [px]) rfl ?_
 refine sqr ?_
 refine Ai rfl ?_
 refine nt ?_
 refine sqr ?_
 refine Mi rfl ?_
 refine LC (cl4 has37 rfl rfl rfl rfl rfl) (extra_r _ d 1 4 2 (by omega) exF_d) ?_
 rintro v w2 ⟨rfl, kp2⟩
 rw [hl1, hl2]
 have hB := hB.kp kp2 (by simp)
 have kp := kp.trans kp2
 have kpX := kpX.trans (kp2.mono (by simp))
 refine L1 (mv (v := .tuple _) rfl) ?_
 refine L1 (ext2_0 rfl) ?_
 refine L1 (ext2_1 rfl) ?_
 refine Ai rfl ?_
 refine Ai rfl ?_
 refine nt ?_
 refine sqr ?_
 refine Mi rfl ?_
 refine Mp rfl ?_
 refine Mi rfl ?_
 refine LC (cl2 has19 rfl rfl rfl) (bits_r hE ⟨hB, kp⟩ hp (dBits d) (by omega)) ?_
 rintro v w3 ⟨kp3, hres⟩
 have hbl := bv_lt (srcOf data).D p (dBits d)
 have h2n : 2 ^ (dBits d) ≤ 2 ^ 14 := Nat.pow_le_pow_right (by decide) hb2
 have h25 : (2 : Nat) ^ 14 = 16384 := rfl
 have kpX := kpX.trans kp3
 obtain ⟨bz, rfl, hbz⟩ : ∃ bz : Nat, v = .int .i64 (bz : Int) ∧ bz < 16384 := by
  rcases hres with ⟨_, h2, _⟩ | ⟨_, h2, _⟩
  ·exact ⟨_, h2, by omega⟩
  ·exact ⟨0, h2, by decide⟩
 refine L1 (bi rfl rfl (bn_add (c := ((dBase d + bz : Nat) : Int)) (by omega) (by omega) (by omega))) ?_
 refine Ai rfl ?_
 refine nt ?_
 refine wp_ret ?_
 refine ret1 rfl rfl ?_
 refine ⟨_, rfl, kpX, ?_⟩
 rcases hres with ⟨h1, h2, h3⟩ | ⟨h1, h2, h3⟩
 ·have e : bz = bv (srcOf data).D p (dBits d) := by injection h2 with _ h2; omega
  subst e
  exact .inl ⟨h1, rfl, h3⟩
 ·exact .inr ⟨h1, ⟨_, rfl⟩, h3⟩
end Go.Proofs.YtejeloeaklpinaaDoor
namespace Go.Proofs.YtejeloeaklpinaaDoor
/-- The counts while length n is counted, behind i symbols. -/
def cgt (L : List Nat) (n i k : Nat) : Nat := if k = 0 then 0 else if k < n then cnt L k else if k = n then cnt (L.take i) n else 0
def cgtv (L : List Nat) (n i k : Nat) : Value := .int .i64 ((cgt L n i k : Nat) : Int)
theorem cgt_at (L : List Nat) {n : Nat} (i : Nat) (h : 1 ≤ n) : cgt L n i n = cnt (L.take i) n := by unfold cgt; rw [if_neg (by omega), if_neg (by omega), if_pos rfl]
theorem cgt_inc {L : List Nat} {n i : Nat} (h : 1 ≤ n) (hi : i < L.length) (hl : L.getD i 0 = n) (k : Nat) : upd (cgtv L n i) (0 + n) (.int .i64 ((cnt (L.take i) n + 1 : Nat) : Int)) k = cgtv L n (i + 1) k := by
 unfold upd
 rw [Nat.zero_add]
 by_cases hk : k = n
 ·subst hk
  rw [if_pos rfl]
  unfold cgtv
  rw [cgt_at L _ h, cnt_take_succ L i k hi, if_pos hl]
 ·rw [if_neg hk]
  unfold cgtv cgt
  rw [if_neg hk, if_neg hk]
theorem cgt_same {L : List Nat} {n i : Nat} (hi : i < L.length) (hl : L.getD i 0 ≠ n) (k : Nat) : cgtv L n i k = cgtv L n (i + 1) k := by
 unfold cgtv cgt
 by_cases h0 : k = 0
 ·rw [if_pos h0, if_pos h0]
 ·rw [if_neg h0, if_neg h0]
  by_cases h1 : k < n
  ·rw [if_pos h1, if_pos h1]
  ·rw [if_neg h1, if_neg h1]
   by_cases h2 : k = n
   ·rw [if_pos h2, if_pos h2, cnt_take_succ L i n hi, if_neg hl]; rfl
   ·rw [if_neg h2, if_neg h2]
theorem cgt_next (L : List Nat) {n : Nat} (h : 1 ≤ n) (k : Nat) : cgtv L n L.length k = cgtv L (n + 1) 0 k := by
 unfold cgtv cgt
 by_cases h0 : k = 0
 ·rw [if_pos h0, if_pos h0]
 ·rw [if_neg h0, if_neg h0]
  by_cases h1 : k < n
  ·rw [if_pos h1, if_pos (by omega)]
  ·rw [if_neg h1]
   by_cases h2 : k = n
   ·rw [if_pos h2, if_pos (by omega), List.take_length, h2]
   ·rw [if_neg h2, if_neg (by omega)]
    by_cases h3 : k = n + 1
    ·rw [if_pos h3]; rfl
    ·rw [if_neg h3]
theorem cgt_end {L : List Nat} {j : Nat} (h : j < 16) : cgtv L 16 0 j = .int .i64 ((((List.range 16).map (ck L)).getD j 0 : Nat) : Int) := by
 rw [ck_get L h]
 unfold cgtv cgt ck
 by_cases h0 : j = 0
 ·rw [if_pos h0, if_pos h0]
 ·rw [if_neg h0, if_neg h0, if_pos h]
theorem cgt_start (L : List Nat) (k : Nat) : (Value.int .i64 0) = cgtv L 1 0 k := by
 unfold cgtv cgt
 by_cases h0 : k = 0
 ·rw [if_pos h0]; rfl
 ·rw [if_neg h0, if_neg (by omega)]
  by_cases h1 : k = 1
  ·rw [if_pos h1]; rfl
  ·rw [if_neg h1]; rfl
theorem symN_le (L : List Nat) (n i : Nat) : (symN L n i).length ≤ i := by
 unfold symN
 exact Nat.le_trans (List.length_filter_le _ _) (by simp)
theorem c56_2 {v0 v1 v2 v3 : Value} (k : Nat) (h : k < 3) : upd (c56 v0 v1 v2) 2 v3 k = c56 v0 v1 v3 k := by
 unfold upd c56
 match k, h with
 | 0, _ => rfl
 | 1, _ => rfl
 | 2, _ => rfl
theorem c56_j {v0 v1 v2 : Value} {j : Nat} (h : j < 3) : c56 v0 v1 v2 j = [v0, v1, v2].getD j undef := by
 match j, h with
 | 0, _ => rfl
 | 1, _ => rfl
 | 2, _ => rfl
theorem Sv.one {w : World} {v : Value} {xs : List Value} (h : Sv w v xs) : v.oneCell' = true := by obtain ⟨a, c, rfl⟩ := h.val; rfl
theorem One.natv1 (x : Nat) : natv [x] = [.int .i64 (x : Int)] := rfl
/-- What a set of codes is judged to be. -/
def jd (L : List Nat) (ds : Bool) (st : Nat) : Nat := if st ≠ 0 then st else if kf L 15 = 32768 then 0 else if 32768 < kf L 15 then 1 else if ds = false ∨ 1 < (syms L).length ∨ ((syms L).length = 1 ∧ cnt L 1 ≠ 1) then 3 else 0
theorem jd_st {L : List Nat} {ds : Bool} {st : Nat} (h : st ≠ 0) : jd L ds st = st := by unfold jd; rw [if_pos h]
theorem kf_lt {L : List Nat} (h : L.length ≤ 500) : kf L 15 ≤ 1000000000 := by
 have := kf_le L 15
 omega
theorem ixgb {ρ : Operand → Value} {d : Option Nat} {x y : Operand} {ty : TypeId} {pos : String} {af : Array Edge} {gd : Option (Nat × Bool)} {w : World} {t e : TypeId} {b n c j : Nat} {k : IntKind} {i : Int} (ht : Tryd.prog.underlying t = some (.slice e)) (he : ∀ w, (sizeOf e).run Tryd.prog w = .ok 1 w) (hx : ρ x = .slice (some ⟨b, 0, none⟩) n c) (hy : ρ y = .int k i) (hi : i = (j : Int)) (hj : j < n) :
  (execOp ρ ⟨d, .indexAddr t x y, ty, pos, af, gd⟩).run Tryd.prog w = .ok (.value (.pointer (some ⟨b, 0 + j, none⟩))) w := by
 have := ixg (ρ := ρ) (d := d) (ty := ty) (pos := pos) (af := af) (gd := gd) (w := w) ht he hx hy hi hj
 rwa [Addr.add_lit] at this
attribute [local irreducible] wpList wpStill wpMix Code.wp Calls fr
theorem made_r {w : World} {Bs : List Nat} {lv : Value} {L : List Nat} (hL : AgN w Bs lv L) (hll : L.length ≤ 500) :
  Ret 27 [lv] w fun v w' => ∃ B', CV w' B' v L ∧ (∀ b ∈ B', b ∈ Bs ∨ w.heap.size ≤ b ∧ b < w'.heap.size) ∧ Kp [] w w' := by
 obtain ⟨la, lc, rfl, hL⟩ := hL
 have kp := Kp.refl [] w
 refine calls_fr (N := 39) Tryd.func27 rfl rfl (by simp) rfl ?_
 refine sqr ?_
 refine Lal56 ?_
 intro D2 w1 hD2e hD2 kp1 hs1
 have hd2 : w.heap.size ≤ D2 := by omega
 have kp := kp.trans kp1
 refine nt ?_
 refine sqr ?_
 refine L1 (mv (v := (.slice la L.length lc)) rfl) ?_
 refine Lmk24 (n := 16) rfl rfl (by omega) ?_
 intro M w2 hMe hM kp2 hs2
 have hdM : D2 < M := by omega
 have hD2 := hD2.kp kp2 (by simp)
 have kp := kp.trans kp2
 refine L1 (bd56 rfl rfl) ?_
 refine Lal56 ?_
 intro D3 w3 hD3e hD3 kp3 hs3
 have hd3 : M < D3 := by omega
 have hD2 := hD2.kp kp3 (by simp)
 have hM := hM.kp kp3 (by simp)
 have kp := kp.trans kp3
 refine Lst56 rfl rfl ⟨rfl, rfl, rfl⟩ hD3 ?_
 intro w4 hD3 kpx _
 have hD2 := hD2.kp kpx (by simp; omega)
 have hM := hM.kp kpx (by simp; omega)
 have kp := kp.transNew kpx (by simp; omega)
 have hM := hM.congr (fun k _ => cgt_start L k)
 have hS : Sv w4 (.slice none 0 0) (natv (symA L 0)) := Sv.nil _
 refine nt ?_
 refine wp_seq ?_
 refine sqr ?_
 refine Ai rfl ?_
 refine nt ?_
 refine wp_block ?_
 refine loop_fr (fun k f w' => f 0 = .slice la L.length lc ∧ f 2 = .pointer (some ⟨D2, 0, none⟩) ∧ f 3 = .pointer (some ⟨D3, 0, none⟩) ∧ ∃ (n : Nat) (sv : Value), f 4 = .int .i64 ((n : Nat) : Int) ∧ 1 ≤ n ∧ n ≤ 16 ∧ k = 16 - n ∧ Bk w' D2 3 56 (fun _ => .slice none 0 0) ∧ Bk w' M 16 3 (cgtv L n 0) ∧ Bk w' D3 3 56 (c56 (.slice la L.length lc) (.slice (some ⟨M, 0, none⟩) 16 16) sv) ∧ Sv w' sv (natv (symA L (n - 1) ++ symN L n 0)) ∧ (∀ k, sv.ownBlock = some k → w.heap.size ≤ k ∧ k ≠ D2 ∧ k ≠ M ∧ k ≠ D3) ∧ Kp [] w w') 15 ⟨rfl, rfl, rfl, 1, _, rfl, by omega, by omega, rfl, hD2, hM, hD3, by simpa [symA, symN] using hS, by intro k hk; simp [Value.ownBlock] at hk, kp⟩ ?_
 clear hD2 hM hD3 hS kp kp1 kp2 kp3 kpx
 intro k f w1 HJ
 obtain ⟨s0, s2, s3, n, sv, s4, hn1, hn16, rfl, hD2, hM, hD3, hS, hso, kp⟩ := HJ
 refine slots (fc s0 (fc s2 (fc s3 (fc s4 fnil)))) ?_
 refine wp_seq ?_
 refine sqr ?_
 refine Mi rfl ?_
 refine L1 (bi rfl rfl (bn_leq (v := decide (n ≤ 15)) (decide_eq_decide.2 (by omega)))) ?_
 refine nt ?_
 refine cond_d (p := n ≤ 15) rfl (fun hlt => ?_) (fun hlt => ?_)
 ·skip
  refine skn ?_
  refine wp_seq ?_
  refine wp_block ?_
  refine sqr ?_
  refine L1 (mv (v := (.slice la L.length lc)) rfl) ?_
  refine L1 (ln und24 rfl) ?_
  refine Mi rfl ?_
  refine nt ?_
  refine wp_block ?_
  refine loop_fr (fun k f w' => f 0 = .slice la L.length lc ∧ f 2 = .pointer (some ⟨D2, 0, none⟩) ∧ f 3 = .pointer (some ⟨D3, 0, none⟩) ∧ f 4 = .int .i64 ((n : Nat) : Int) ∧ f 14 = .slice la L.length lc ∧ f 15 = .int .i64 (L.length : Int) ∧ ∃ (i : Nat) (sv : Value), f 16 = .int .i64 ((i : Nat) : Int) ∧ i ≤ L.length ∧ k = L.length - i ∧ Bk w' D2 3 56 (fun _ => .slice none 0 0) ∧ Bk w' M 16 3 (cgtv L n i) ∧ Bk w' D3 3 56 (c56 (.slice la L.length lc) (.slice (some ⟨M, 0, none⟩) 16 16) sv) ∧ Sv w' sv (natv (symA L (n - 1) ++ symN L n i)) ∧ (∀ k, sv.ownBlock = some k → w.heap.size ≤ k ∧ k ≠ D2 ∧ k ≠ M ∧ k ≠ D3) ∧ Kp [] w w') L.length ⟨rfl, rfl, rfl, rfl, rfl, rfl, 0, _, rfl, Nat.zero_le _, rfl, hD2, hM, hD3, hS, hso, kp⟩ ?_
  clear hD2 hM hD3 hS hso kp s0 s2 s3 s4
  intro k f w2 HJ
  obtain ⟨s0, s2, s3, s4, s14, s15, i, sv, s16, hi, rfl, hD2, hM, hD3, hS, hso, kp⟩ := HJ
  refine slots (fc s0 (fc s2 (fc s3 (fc s4 (fc s14 (fc s15 (fc s16 fnil))))))) ?_
  refine sqr ?_
  refine L1 (bi rfl rfl (bn_lss (v := decide (i < L.length)) (decide_eq_decide.2 (by omega)))) ?_
  refine nt ?_
  refine wp_seq ?_
  refine cond_d (p := i < L.length) rfl (fun hlt => ?_) (fun hlt => ?_)
  ·skip
   obtain ⟨ad, rfl, _, hcell⟩ := hL i hlt
   have hsn := symN_le L n i
   have hsa := Nat.le_trans (symA_mono (L := L) (n := n - 1) (m := 15) (by omega)) (syms_len (L := L))
   have hcn := cnt_le (L.take i) n
   rw [List.length_take] at hcn
   refine skn ?_
   refine wp_seq ?_
   refine wp_block ?_
   refine sqr ?_
   refine Mi rfl ?_
   refine L1 (ixg und24 sz3 rfl rfl rfl hlt) ?_
   refine L1 (ld3 (v := .int .i64 ((L.getD i 0 : Nat) : Int)) rfl (kp.cell hcell (by simp))) ?_
   refine Ai rfl ?_
   refine Ai rfl ?_
   refine nt ?_
   refine sqr ?_
   refine Mi rfl ?_
   refine Mi rfl ?_
   refine L1 (bi rfl rfl (bn_eql (v := decide (L.getD i 0 = n)) (decide_eq_decide.2 (by omega)))) ?_
   refine nt ?_
   refine cond_d (p := L.getD i 0 = n) rfl (fun heq => ?_) (fun heq => ?_)
   ·skip
    refine sqr ?_
    refine L1 (fa56_1 rfl) ?_
    refine L1 (ld24 rfl (hD3.cellv (v := (.slice (some ⟨M, 0, none⟩) 16 16)) (by decide) rfl)) ?_
    refine Mi rfl ?_
    refine L1 (ixgb und24 sz3 rfl rfl rfl (by omega)) ?_
    refine L1 (ld3 (v := .int .i64 ((cnt (L.take i) n : Nat) : Int)) rfl (hM.cellv (k := 0 + n) (by omega) (by rw [Nat.zero_add]; unfold cgtv; rw [cgt_at L i hn1]))) ?_
    refine L1 (bi rfl rfl (bn_add (c := ((cnt (L.take i) n + 1 : Nat) : Int)) (by omega) (by omega) (by omega))) ?_
    refine L1 (ixgb und24 sz3 rfl rfl rfl (by omega)) ?_
    refine Lst3 (v := .int .i64 ((cnt (L.take i) n + 1 : Nat) : Int)) (k := 0 + n) rfl rfl rfl hM (by omega) ?_
    intro w3 hM kpx
    have hM := hM.congr (fun k _ => cgt_inc hn1 hlt heq k)
    have hD2 := hD2.kp kpx (by simp; omega)
    have hD3 := hD3.kp kpx (by simp; omega)
    have hS := hS.kp kpx (fun k hk => by have := hso k hk; simp; omega)
    have kp := kp.transNew kpx (by simp; omega)
    clear kpx
    refine nt ?_
    refine reg_lit ?_
    refine L1 (fa56_2 rfl) ?_
    refine L1 (ld24 rfl (hD3.cellv (v := sv) (by decide) rfl)) ?_
    refine Mi rfl ?_
    have hDlt := hD3.lt
    have hwsz := kp.size
    refine Lapv1 (v := sv) rfl rfl (by intro t h; cases h; decide) hS (by rw [natv_len, List.length_append]; omega) (by decide) ?_
    intro sv2 u2 w4 hS kp2 hown2
    have e2 : natv (symA L (n - 1) ++ symN L n i) ++ [.int .i64 ((i : Nat) : Int)] = natv (symA L (n - 1) ++ symN L n (i + 1)) := by rw [symN_succ, if_pos heq, ← One.natv1, ← natv_app, List.append_assoc]
    rw [e2] at hS
    have hob : ∀ b, (b = D2 ∨ b = M ∨ b = D3) → b ∉ obk sv := fun b hb hm => by
     unfold obk at hm
     split at hm
     ·rename_i k hk; simp only [List.mem_singleton] at hm; subst hm; have := hso _ hk; omega
     ·simp at hm
    have hD2 := hD2.kp kp2 (hob _ (by simp))
    have hM := hM.kp kp2 (hob _ (by simp))
    have hD3 := hD3.kp kp2 (hob _ (by simp))
    have kp := kp.transNew kp2 (obk_ge (fun k hk => (hso k hk).1))
    have hso : ∀ k, sv2.ownBlock = some k → w.heap.size ≤ k ∧ k ≠ D2 ∧ k ≠ M ∧ k ≠ D3 := fun k hk => by
     rcases hown2 k hk with h | h
     ·exact hso k h
     ·omega
    refine L1 (fa56_2 rfl) ?_
    refine Lst24 (v := sv2) rfl rfl hS.one hD3 (by decide) ?_
    intro w5 hD3 kpx
    have hD3 := hD3.congr (fun k hk => c56_2 k hk)
    have hD2 := hD2.kp kpx (by simp; omega)
    have hM := hM.kp kpx (by simp; omega)
    have hS := hS.kp kpx (fun k hk => by have := hso k hk; simp; omega)
    have kp := kp.transNew kpx (by simp; omega)
    clear kpx
    refine wpList_nil ?_
    refine inb_n ?_
    refine then_n ?_
    refine reg_lit ?_
    refine L1 (bi rfl rfl (bn_add (c := ((i + 1 : Nat) : Int)) (by omega) (by omega) (by omega))) ?_
    refine Mi rfl ?_
    refine nt ?_
    exact ⟨L.length - (i + 1), _, by omega, rfl, rfl, rfl, rfl, rfl, rfl, rfl, i + 1, sv2, rfl, by omega, rfl, hD2, hM, hD3, hS, hso, kp⟩
   ·skip
    have e2 : symN L n (i + 1) = symN L n i := by rw [symN_succ, if_neg heq, List.append_nil]
    refine wp_skip ?_
    refine inb_n ?_
    refine then_n ?_
    refine reg_lit ?_
    refine L1 (bi rfl rfl (bn_add (c := ((i + 1 : Nat) : Int)) (by omega) (by omega) (by omega))) ?_
    refine Mi rfl ?_
    refine nt ?_
    exact ⟨L.length - (i + 1), _, by omega, rfl, rfl, rfl, rfl, rfl, rfl, rfl, i + 1, sv, rfl, by omega, rfl, hD2, hM.congr (fun k _ => cgt_same hlt heq k), hD3, by rw [e2]; exact hS, hso, kp⟩
  ·skip
   obtain rfl : i = L.length := by omega
   refine wp_exit ?_
   refine then_e ?_
   refine then_e ?_
   refine inb_same ?_
   refine inb_n ?_
   refine then_n ?_
   refine reg_lit ?_
   refine Mi rfl ?_
   refine L1 (bi rfl rfl (bn_add (c := ((n + 1 : Nat) : Int)) (by omega) (by omega) (by omega))) ?_
   refine Ai rfl ?_
   refine nt ?_
   exact ⟨16 - (n + 1), _, by omega, rfl, rfl, rfl, rfl, n + 1, sv, rfl, by omega, by omega, rfl, hD2, hM.congr (fun k _ => cgt_next L hn1 k), hD3, by rw [Nat.add_sub_cancel, show symN L (n + 1) 0 = [] from rfl, List.append_nil, show symA L n = symA L (n - 1) ++ symN L n L.length by obtain ⟨m, rfl⟩ : ∃ m, n = m + 1 := ⟨n - 1, by omega⟩; rfl]; exact hS, hso, kp⟩
 ·skip
  obtain rfl : n = 16 := by omega
  have hS : Sv w1 sv (natv (syms L)) := by simpa [symN, syms] using hS
  have h1 := hS.one
  refine wp_exit ?_
  refine then_e ?_
  refine then_e ?_
  refine inb_same ?_
  refine then_n ?_
  refine sqr ?_
  refine L1 (ld56 rfl hD3 (by decide) rfl rfl rfl) ?_
  refine Lst56 rfl rfl ⟨rfl, rfl, h1⟩ hD2 ?_
  intro w2 hD2 kpx _
  have hM := hM.kp kpx (by simp; omega)
  have hS := hS.kp kpx (fun k hk => by have := hso k hk; simp; omega)
  have kp := kp.transNew kpx (by simp; omega)
  refine nt ?_
  refine wp_ret ?_
  refine retc (b := D2) (vs := [.slice la L.length lc, .slice (some ⟨M, 0, none⟩) 16 16, sv]) rfl rfl (ag56 _) (sz56 _) rfl hD2 (fun j hj => c56_j hj) ?_
  refine ⟨_, rfl, M :: (Bs ++ obk sv), ⟨_, _, _, rfl, ?_, ?_, ?_, rfl, rfl, h1⟩, ?_, kp⟩
  ·exact (AgN.kp (B := Bs) ⟨la, lc, rfl, hL⟩ kp (by simp)).mono (by intro b hb; simp [hb])
  ·exact Bk.agn hM (by simp) (by simp) (fun j hj => cgt_end hj)
  ·exact hS.agn (fun b hb => by simp [obk, hb])
  ·intro b hb
   simp only [List.mem_cons, List.mem_append] at hb
   rcases hb with rfl | hb | hb
   ·right; have := hM.lt; omega
   ·exact .inl hb
   ·right
    unfold obk at hb
    split at hb
    ·rename_i k hk; simp only [List.mem_singleton] at hb; subst hb; exact ⟨(hso _ hk).1, hS.lt hk⟩
    ·simp at hb
theorem kraft_r {w : World} {Bs : List Nat} {cvv : Value} {L : List Nat} (hC : CV w Bs cvv L) (hll : L.length ≤ 500) :
  Ret 38 [cvv] w fun v w' => v = .int .i64 ((kf L 15 : Nat) : Int) ∧ Kp [] w w' := by
 obtain ⟨lv, cv, sv, rfl, _, hCc, hCs, ho1, ho2, ho3⟩ := hC
 have kp := Kp.refl [] w
 refine calls_fr (N := 20) Tryd.func38 rfl rfl (by simp) rfl ?_
 refine sqr ?_
 refine L1 (bx56 rfl) ?_
 have hkb := (Kp.refl [] w).alloc (.cells #[lv, cv, sv] 56)
 have hD : Bk (w.alloc (.cells #[lv, cv, sv] 56)) w.heap.size 3 56 (c56 lv cv sv) := Bk.newOf w _ 56 3 _ rfl
 have kp := kp.trans hkb
 obtain ⟨Db, hDb⟩ : ∃ Db, w.heap.size = Db := ⟨_, rfl⟩
 rw [hDb] at hD ⊢
 refine Ai rfl ?_
 refine nt ?_
 refine sqr ?_
 refine Ai rfl ?_
 refine nt ?_
 refine wp_seq ?_
 refine sqr ?_
 refine Ai rfl ?_
 refine nt ?_
 refine wp_block ?_
 refine loop_fr (fun k f w' => f 1 = .pointer (some ⟨Db, 0, none⟩) ∧ ∃ n : Nat, f 4 = .int .i64 ((n : Nat) : Int) ∧ 1 ≤ n ∧ n ≤ 16 ∧ k = 16 - n ∧ f 3 = .int .i64 ((kf L (n - 1) : Nat) : Int) ∧ Bk w' Db 3 56 (c56 lv cv sv) ∧ Kp [] w w') 15 ⟨rfl, 1, rfl, by omega, by omega, rfl, rfl, hD, kp⟩ ?_
 clear hD kp hkb
 intro k f w1 HJ
 obtain ⟨s1, n, s4, hn1, hn16, rfl, s3, hD, kp⟩ := HJ
 refine slots (fc s1 (fc s3 (fc s4 fnil))) ?_
 refine wp_seq ?_
 refine sqr ?_
 refine Mi rfl ?_
 refine L1 (bi rfl rfl (bn_leq (v := decide (n ≤ 15)) (decide_eq_decide.2 (by omega)))) ?_
 refine nt ?_
 refine cond_d (p := n ≤ 15) rfl (fun hlt => ?_) (fun hlt => ?_)
 ·skip
  obtain ⟨ca, cc, rfl, hcc⟩ := id hCc
  obtain ⟨cad, rfl, _, ccell⟩ := hcc n (by simp; omega)
  have hkl := kf_le L (n - 1)
  have hk2 : (n - 1) * (L.length * 32768) ≤ 15 * (L.length * 32768) := Nat.mul_le_mul_right _ (by omega)
  have hcn := cnt_le L n
  have hp15 : 2 ^ (15 - n) ≤ 2 ^ 15 := Nat.pow_le_pow_right (by decide) (by omega)
  have h215 : (2 : Nat) ^ 15 = 32768 := rfl
  have hm15 : cnt L n * 2 ^ (15 - n) ≤ L.length * 32768 := Nat.mul_le_mul hcn (by omega)
  have hks : kf L n = kf L (n - 1) + cnt L n * 2 ^ (15 - n) := by obtain ⟨m, rfl⟩ : ∃ m, n = m + 1 := ⟨n - 1, by omega⟩; rfl
  obtain ⟨pw, hpw⟩ : ∃ pw, cnt L n * 2 ^ (15 - n) = pw := ⟨_, rfl⟩
  rw [hpw] at hks hm15
  refine skn ?_
  refine wp_seq ?_
  refine wp_block ?_
  refine reg_lit ?_
  refine Mi rfl ?_
  refine L1 (fa56_1 rfl) ?_
  refine L1 (ld24 rfl (hD.cellv (v := (.slice (some cad) ((List.range 16).map (ck L)).length cc)) (by decide) rfl)) ?_
  refine Mi rfl ?_
  refine L1 (ixg und24 sz3 rfl rfl rfl (by simp; omega)) ?_
  refine L1 (ld3 (v := .int .i64 ((cnt L n : Nat) : Int)) rfl (kp.cell (by rw [ccell, ck_get L (by omega)]; unfold ck; rw [if_neg (by omega)]) (by simp))) ?_
  refine Mi rfl ?_
  refine L1 (bi rfl rfl (bn_sub (c := ((15 - n : Nat) : Int)) (by omega) (by omega) (by omega))) ?_
  refine L1 (bi rfl rfl ((bn_shl64 (x := cnt L n) (n := 15 - n) rfl rfl (by omega) (by omega)).trans (congrArg (fun x : Nat => pure (Value.int .i64 (x : Int))) hpw))) ?_
  refine L1 (bi rfl rfl (bn_add (c := ((kf L n : Nat) : Int)) (by omega) (by omega) (by omega))) ?_
  refine Ai rfl ?_
  refine wpList_nil ?_
  refine inb_n ?_
  refine then_n ?_
  refine reg_lit ?_
  refine Mi rfl ?_
  refine L1 (bi rfl rfl (bn_add (c := ((n + 1 : Nat) : Int)) (by omega) (by omega) (by omega))) ?_
  refine Ai rfl ?_
  refine nt ?_
  exact ⟨16 - (n + 1), _, by omega, rfl, rfl, n + 1, rfl, by omega, by omega, rfl, rfl, hD, kp⟩
 ·skip
  obtain rfl : n = 16 := by omega
  refine wp_exit ?_
  refine then_e ?_
  refine then_e ?_
  refine inb_same ?_
  refine then_n ?_
  refine sqr ?_
  refine Mi rfl ?_
  refine Ai rfl ?_
  refine nt ?_
  refine wp_ret ?_
  refine ret1 rfl rfl ?_
  exact ⟨_, rfl, rfl, kp⟩
def ordV : List Value := (List.range 19).map fun k => .int .i64 ((ordN k : Nat) : Int)
theorem ord19 {N : Nat} {f : Nat → Value} {d : Option Nat} {ty : TypeId} {pos : String} {af : Array Edge} {w : World} : (execOp (ev N f) ⟨d, .buildSlice 24 19 #[(0, .const (.int .i64 16)), (1, .const (.int .i64 17)), (2, .const (.int .i64 18)), (3, .const (.int .i64 0)), (4, .const (.int .i64 8)), (5, .const (.int .i64 7)), (6, .const (.int .i64 9)), (7, .const (.int .i64 6)), (8, .const (.int .i64 10)), (9, .const (.int .i64 5)), (10, .const (.int .i64 11)), (11, .const (.int .i64 4)), (12, .const (.int .i64 12)), (13, .const (.int .i64 3)), (14, .const (.int .i64 13)), (15, .const (.int .i64 2)), (16, .const (.int .i64 14)), (17, .const (.int .i64 1)), (18, .const (.int .i64 15))], ty, pos, af, none⟩).run Tryd.prog w = .ok (.value (.slice (some ⟨w.heap.size, 0, none⟩) 19 19)) (w.alloc (.cells ordV.toArray 3)) := by
 kernel_rfl
theorem ord19b (w : World) : Bk (w.alloc (.cells ordV.toArray 3)) w.heap.size 19 3 (fun k => .int .i64 ((ordN k : Nat) : Int)) := Bk.newOf w _ 3 19 _ rfl
theorem order_r (w : World) : Ret 31 [] w fun v w' => ∃ b, w.heap.size ≤ b ∧ v = .slice (some ⟨b, 0, none⟩) 19 19 ∧ Bk w' b 19 3 (fun k => .int .i64 ((ordN k : Nat) : Int)) ∧ Kp [] w w' := by
 have kp := Kp.refl [] w
 refine calls_fr (N := 2) Tryd.func31 rfl rfl (by simp) rfl ?_
 refine sqr ?_
 refine L1 (asg (v := .slice _ _ _) rfl) ?_
 refine nt ?_
 refine sqr ?_
 refine L1 ord19 ?_
 have hb := ord19b w
 have kp := kp.alloc (.cells (ordV.toArray) 3)
 refine L1 (asg (v := .slice _ _ _) rfl) ?_
 refine nt ?_
 refine wp_ret ?_
 refine ret1 rfl rfl ?_
 exact ⟨_, rfl, _, Nat.le_refl _, rfl, hb, kp⟩
theorem judge_r {w0 w : World} {X : Nat} {dv ov : Value} {data : List Nat} {p base st edge : Nat} (hE : RE w0 dv data X) (hW : RW w0 w X dv p ov base st edge) {Bs : List Nat} {cvv : Value} {L : List Nat} (hC : CV w Bs cvv L) (hll : L.length ≤ 500) (ds : Bool) :
  Ret 32 [px X, cvv, .bool ds] w fun v w' => Kp [X] w w' ∧ RW w0 w' X dv p ov base (jd L ds st) edge := by
 have hC0 := hC
 obtain ⟨lv, cv, sv, rfl, _, hCc, hCs, ho1, ho2, ho3⟩ := hC
 obtain ⟨hB, kp⟩ := hW
 have hXn := hE.hX
 have kpX := Kp.refl [X] w
 have hkb := kf_lt hll
 have hsl := syms_len (L := L)
 have hBl := hB.lt
 refine calls_fr (N := 52) Tryd.func32 rfl rfl (by simp [px]) rfl ?_
 refine sqr ?_
 refine L1 (bx56 rfl) ?_
 have hkb2 := (Kp.refl [] w).alloc (.cells #[lv, cv, sv] 56)
 have hD : Bk (w.alloc (.cells #[lv, cv, sv] 56)) w.heap.size 3 56 (c56 lv cv sv) := Bk.newOf w _ 56 3 _ rfl
 have hC0 := hC0.kp hkb2 (by simp)
 have hB := hB.kp hkb2 (by simp)
 have hCc := hCc.kp hkb2 (by simp)
 have hCs := hCs.kp hkb2 (by simp)
 have kp := kp.trans hkb2
 have kpX := kpX.trans (hkb2.mono (by simp))
 obtain ⟨Db, hDb⟩ : ∃ Db, w.heap.size = Db := ⟨_, rfl⟩
 rw [hDb] at hD ⊢
 obtain ⟨sa, sc, rfl, hsc⟩ := hCs
 obtain ⟨ca, cc, rfl, hcc⟩ := hCc
 obtain ⟨cad, rfl, _, ccell⟩ := hcc 1 (by simp)
 refine nt ?_
 refine sqr ?_
 refine L1 (fa56_2 rfl) ?_
 refine L1 (ld24 rfl (hD.cellv (v := (.slice sa (syms L).length sc)) (by decide) rfl)) ?_
 refine L1 (ln und24 rfl) ?_
 refine Ai rfl ?_
 refine nt ?_
 refine sqr ?_
 refine Ai rfl ?_
 refine wpList_nil ?_
 by_cases hst : st = 0
 ·skip
  subst hst
  refine then_n ?_
  refine wp_block ?_
  refine sqr ?_
  refine Mp rfl ?_
  refine Np rfl ?_
  refine L1 (fa53_4 rfl) ?_
  refine L1 (ld3 rfl (hB.cellv (v := .int _ _) (by decide) rfl)) ?_
  refine L1 (bi rfl rfl (bn_neq (v := false) (decide_eq_true (by omega)))) ?_
  refine Mb rfl ?_
  refine L1g (t := 17) (b := false) rfl (by decide) rfl (ld56 rfl hD (by decide) rfl rfl rfl) ?_
  refine LCg (t := 17) (b := false) rfl (by decide) rfl (cl1 has38 rfl rfl) (kraft_r hC0 hll) ?_
  rintro v w2 ⟨rfl, kp2⟩
  have hD := hD.kp kp2 (by simp)
  have hB := hB.kp kp2 (by simp)
  have hC0 := hC0.kp kp2 (by simp)
  have ccell := kp2.cell ccell (by simp)
  have kp := kp.trans kp2
  have kpX := kpX.trans (kp2.mono (by simp))
  refine L1g (t := 17) (b := false) rfl (by decide) rfl (mv (v := .int _ _) rfl) ?_
  refine L1g (t := 17) (b := false) rfl (by decide) rfl (bi rfl rfl (bn_eql (v := decide (kf L 15 = 32768)) (decide_eq_decide.2 (by omega)))) ?_
  refine L1 (pk_f rfl rfl) ?_
  refine Ab rfl ?_
  refine nt ?_
  refine cond_d (p := kf L 15 = 32768) rfl (fun hfull => ?_) (fun hfull => ?_)
  ·skip
   refine wp_skip ?_
   refine inb_n ?_
   refine end0 rfl ?_
   exact ⟨_, rfl, kpX, by unfold jd; rw [if_neg (by omega), if_pos hfull]; exact hB, kp⟩
  ·skip
   refine sqr ?_
   refine L1 (ld56 rfl hD (by decide) rfl rfl rfl) ?_
   refine LC (cl1 has38 rfl rfl) (kraft_r hC0 hll) ?_
   rintro v w2 ⟨rfl, kp2⟩
   have hD := hD.kp kp2 (by simp)
   have hB := hB.kp kp2 (by simp)
   have hC0 := hC0.kp kp2 (by simp)
   have ccell := kp2.cell ccell (by simp)
   have kp := kp.trans kp2
   have kpX := kpX.trans (kp2.mono (by simp))
   refine Mi rfl ?_
   refine L1 (bi rfl rfl (bn_gtr (v := decide (32768 < kf L 15)) (decide_eq_decide.2 (by omega)))) ?_
   refine Ab rfl ?_
   refine nt ?_
   refine cond_d (p := 32768 < kf L 15) rfl (fun hov => ?_) (fun hov => ?_)
   ·skip
    refine reg_lit ?_
    refine Mp rfl ?_
    refine Np rfl ?_
    refine L1 (fa53_4 rfl) ?_
    refine Lst3 (v := .int .i64 ((1 : Nat) : Int)) rfl rfl rfl hB (by decide) ?_
    intro wx hB kpx
    have hB := hB.congr (fun k _ => rx_4 k)
    have kp := kp.transNew kpx (by simp; omega)
    have kpX := kpX.trans kpx
    clear kpx
    refine wpList_nil ?_
    refine inb_n ?_
    refine end0 rfl ?_
    exact ⟨_, rfl, kpX, by unfold jd; rw [if_neg (by omega), if_neg hfull, if_pos hov]; exact hB, kp⟩
   ·skip
    cases ds
    ·skip
     refine sqr ?_
     refine L1 (mv (v := (.bool false)) rfl) ?_
     refine L1 (un_not rfl) ?_
     refine Mb rfl ?_
     refine Lskip (t := 34) (b := false) rfl (by decide) rfl ?_
     refine Lskip (t := 34) (b := false) rfl (by decide) rfl ?_
     refine L1 (pk_t rfl rfl) ?_
     refine Mb rfl ?_
     refine Lskip (t := 38) (b := false) rfl (by decide) rfl ?_
     refine Lskip (t := 38) (b := false) rfl (by decide) rfl ?_
     refine Lskip (t := 38) (b := false) rfl (by decide) rfl ?_
     refine LskipU (t := 41) rfl (by decide) rfl ?_
     refine LskipU (t := 41) rfl (by decide) rfl ?_
     refine LskipU (t := 41) rfl (by decide) rfl ?_
     refine LskipU (t := 41) rfl (by decide) rfl ?_
     refine LskipU (t := 41) rfl (by decide) rfl ?_
     refine Lskip (t := 38) (b := false) rfl (by decide) rfl ?_
     refine L1 (pk_t rfl rfl) ?_
     refine Ab rfl ?_
     refine nt ?_
     refine cond_t rfl ?_
     refine reg_lit ?_
     refine Mp rfl ?_
     refine Np rfl ?_
     refine L1 (fa53_4 rfl) ?_
     refine Lst3 (v := .int .i64 ((3 : Nat) : Int)) rfl rfl rfl hB (by decide) ?_
     intro wx hB kpx
     have hB := hB.congr (fun k _ => rx_4 k)
     have kp := kp.transNew kpx (by simp; omega)
     have kpX := kpX.trans kpx
     clear kpx
     refine wpList_nil ?_
     refine inb_n ?_
     refine end0 rfl ?_
     exact ⟨_, rfl, kpX, by unfold jd; rw [if_neg (by omega), if_neg hfull, if_neg hov, if_pos (by simp; try omega)]; exact hB, kp⟩
    ·skip
     by_cases hs1 : 1 < (syms L).length
     ·skip
      refine sqr ?_
      refine L1 (mv (v := (.bool true)) rfl) ?_
      refine L1 (un_not rfl) ?_
      refine Mb rfl ?_
      refine L1g (t := 34) (b := false) rfl (by decide) rfl (mv (v := .int _ _) rfl) ?_
      refine L1g (t := 34) (b := false) rfl (by decide) rfl (bi rfl rfl (bn_gtr (v := true) (decide_eq_true (by omega)))) ?_
      refine L1 (pk_f rfl rfl) ?_
      refine Mb rfl ?_
      refine Lskip (t := 38) (b := false) rfl (by decide) rfl ?_
      refine Lskip (t := 38) (b := false) rfl (by decide) rfl ?_
      refine Lskip (t := 38) (b := false) rfl (by decide) rfl ?_
      refine LskipU (t := 41) rfl (by decide) rfl ?_
      refine LskipU (t := 41) rfl (by decide) rfl ?_
      refine LskipU (t := 41) rfl (by decide) rfl ?_
      refine LskipU (t := 41) rfl (by decide) rfl ?_
      refine LskipU (t := 41) rfl (by decide) rfl ?_
      refine Lskip (t := 38) (b := false) rfl (by decide) rfl ?_
      refine L1 (pk_t rfl rfl) ?_
      refine Ab rfl ?_
      refine nt ?_
      refine cond_t rfl ?_
      refine reg_lit ?_
      refine Mp rfl ?_
      refine Np rfl ?_
      refine L1 (fa53_4 rfl) ?_
      refine Lst3 (v := .int .i64 ((3 : Nat) : Int)) rfl rfl rfl hB (by decide) ?_
      intro wx hB kpx
      have hB := hB.congr (fun k _ => rx_4 k)
      have kp := kp.transNew kpx (by simp; omega)
      have kpX := kpX.trans kpx
      clear kpx
      refine wpList_nil ?_
      refine inb_n ?_
      refine end0 rfl ?_
      exact ⟨_, rfl, kpX, by unfold jd; rw [if_neg (by omega), if_neg hfull, if_neg hov, if_pos (by simp; try omega)]; exact hB, kp⟩
     ·skip
      by_cases hs2 : (syms L).length = 1
      ·skip
       refine sqr ?_
       refine L1 (mv (v := (.bool true)) rfl) ?_
       refine L1 (un_not rfl) ?_
       refine Mb rfl ?_
       refine L1g (t := 34) (b := false) rfl (by decide) rfl (mv (v := .int _ _) rfl) ?_
       refine L1g (t := 34) (b := false) rfl (by decide) rfl (bi rfl rfl (bn_gtr (v := false) (decide_eq_false (by omega)))) ?_
       refine L1 (pk_f rfl rfl) ?_
       refine Mb rfl ?_
       refine L1g (t := 38) (b := false) rfl (by decide) rfl (mv (v := .int _ _) rfl) ?_
       refine L1g (t := 38) (b := false) rfl (by decide) rfl (bi rfl rfl (bn_eql (v := true) (decide_eq_true (by omega)))) ?_
       refine L1g (t := 38) (b := false) rfl (by decide) rfl (mv (v := .bool _) rfl) ?_
       refine L1g (t := 41) (b := true) rfl (by decide) rfl (fa56_1 rfl) ?_
       refine L1g (t := 41) (b := true) rfl (by decide) rfl (ld24 rfl (hD.cellv (v := (.slice (some cad) ((List.range 16).map (ck L)).length cc)) (by decide) rfl)) ?_
       refine L1g (t := 41) (b := true) rfl (by decide) rfl (ixg und24 sz3 rfl rfl rfl (by simp)) ?_
       refine L1g (t := 41) (b := true) rfl (by decide) rfl (ld3 (v := .int .i64 ((cnt L 1 : Nat) : Int)) rfl (by rw [ccell, ck_get L (by omega)]; rfl)) ?_
       refine L1g (t := 41) (b := true) rfl (by decide) rfl (bi rfl rfl (bn_neq (v := decide (cnt L 1 ≠ 1)) (by by_cases h : cnt L 1 = 1 <;> simp [h] <;> omega))) ?_
       refine L1g (t := 38) (b := false) rfl (by decide) rfl (pk_t rfl rfl) ?_
       refine L1 (pk_f rfl rfl) ?_
       refine Ab rfl ?_
       refine nt ?_
       refine cond_d (p := cnt L 1 ≠ 1) rfl (fun hc1 => ?_) (fun hc1 => ?_)
       ·skip
        refine reg_lit ?_
        refine Mp rfl ?_
        refine Np rfl ?_
        refine L1 (fa53_4 rfl) ?_
        refine Lst3 (v := .int .i64 ((3 : Nat) : Int)) rfl rfl rfl hB (by decide) ?_
        intro wx hB kpx
        have hB := hB.congr (fun k _ => rx_4 k)
        have kp := kp.transNew kpx (by simp; omega)
        have kpX := kpX.trans kpx
        clear kpx
        refine wpList_nil ?_
        refine inb_n ?_
        refine end0 rfl ?_
        exact ⟨_, rfl, kpX, by unfold jd; rw [if_neg (by omega), if_neg hfull, if_neg hov, if_pos (by omega)]; exact hB, kp⟩
       ·skip
        refine wp_skip ?_
        refine inb_n ?_
        refine end0 rfl ?_
        exact ⟨_, rfl, kpX, by unfold jd; rw [if_neg (by omega), if_neg hfull, if_neg hov, if_neg (by simp; omega)]; exact hB, kp⟩
      ·skip
       refine sqr ?_
       refine L1 (mv (v := (.bool true)) rfl) ?_
       refine L1 (un_not rfl) ?_
       refine Mb rfl ?_
       refine L1g (t := 34) (b := false) rfl (by decide) rfl (mv (v := .int _ _) rfl) ?_
       refine L1g (t := 34) (b := false) rfl (by decide) rfl (bi rfl rfl (bn_gtr (v := false) (decide_eq_false (by omega)))) ?_
       refine L1 (pk_f rfl rfl) ?_
       refine Mb rfl ?_
       refine L1g (t := 38) (b := false) rfl (by decide) rfl (mv (v := .int _ _) rfl) ?_
       refine L1g (t := 38) (b := false) rfl (by decide) rfl (bi rfl rfl (bn_eql (v := false) (decide_eq_false (by omega)))) ?_
       refine L1g (t := 38) (b := false) rfl (by decide) rfl (mv (v := .bool _) rfl) ?_
       refine Lskip (t := 41) (b := true) rfl (by decide) rfl ?_
       refine Lskip (t := 41) (b := true) rfl (by decide) rfl ?_
       refine Lskip (t := 41) (b := true) rfl (by decide) rfl ?_
       refine Lskip (t := 41) (b := true) rfl (by decide) rfl ?_
       refine Lskip (t := 41) (b := true) rfl (by decide) rfl ?_
       refine L1g (t := 38) (b := false) rfl (by decide) rfl (pk_f rfl rfl) ?_
       refine L1 (pk_f rfl rfl) ?_
       refine Ab rfl ?_
       refine nt ?_
       refine cond_f rfl ?_
       refine wp_skip ?_
       refine inb_n ?_
       refine end0 rfl ?_
       exact ⟨_, rfl, kpX, by unfold jd; rw [if_neg (by omega), if_neg hfull, if_neg hov, if_neg (by simp; omega)]; exact hB, kp⟩
 ·skip
  refine then_n ?_
  refine wp_block ?_
  refine sqr ?_
  refine Mp rfl ?_
  refine Np rfl ?_
  refine L1 (fa53_4 rfl) ?_
  refine L1 (ld3 rfl (hB.cellv (v := .int _ _) (by decide) rfl)) ?_
  refine L1 (bi rfl rfl (bn_neq (v := true) (decide_eq_false (by omega)))) ?_
  refine Mb rfl ?_
  refine Lskip (t := 17) (b := false) rfl (by decide) rfl ?_
  refine Lskip (t := 17) (b := false) rfl (by decide) rfl ?_
  refine Lskip (t := 17) (b := false) rfl (by decide) rfl ?_
  refine Lskip (t := 17) (b := false) rfl (by decide) rfl ?_
  refine L1 (pk_t rfl rfl) ?_
  refine Ab rfl ?_
  refine nt ?_
  refine cond_t rfl ?_
  refine wp_skip ?_
  refine inb_n ?_
  refine end0 rfl ?_
  exact ⟨_, rfl, kpX, by rw [jd_st hst]; exact hB, kp⟩
end Go.Proofs.YtejeloeaklpinaaDoor
namespace Go.Proofs.YtejeloeaklpinaaDoor
/-- What a symbol's call leaves behind. -/
def SymR (w0 w' : World) (X : Nat) (dv ov : Value) (base edge : Nat) (data L : List Nat) (p : Nat) (z : Int) : Prop :=
 (∃ s p', rsym (srcOf data) L p = .ok s p' 0 ∧ z = (s : Int) ∧ s < L.length ∧ p < p' ∧ p' ≤ 8 * data.length ∧ RW w0 w' X dv p' ov base 0 edge) ∨
 (rsym (srcOf data) L p = .short ∧ z = -1 ∧ RW w0 w' X dv (8 * data.length) ov base 2 edge) ∨ (∃ p', rsym (srcOf data) L p = .bad p' 0 ∧ p' ≤ 8 * data.length ∧ z = -1 ∧ RW w0 w' X dv p' ov base 1 edge)
theorem sym_r2 {w0 w : World} {X : Nat} {dv ov : Value} {data : List Nat} {p base edge : Nat} (hE : RE w0 dv data X) (hW : RW w0 w X dv p ov base 0 edge) (hp : p ≤ 8 * data.length) {Bs : List Nat} {cvv : Value} {L : List Nat} (hC : CV w Bs cvv L) (hXB : X ∉ Bs) (hR : Rd1 L) (hll : L.length ≤ 500) :
  Ret 28 [px X, cvv] w fun v w' => ∃ z : Int, v = .int .i64 z ∧ Kp [X] w w' ∧ SymR w0 w' X dv ov base edge data L p z := by
 intro cs
 obtain ⟨e, w', fr, ⟨v, he, hk, h⟩, c⟩ := sym_r hE hW hp hC hXB hR hll cs
 refine ⟨e, w', fr, ⟨v, he, ?_⟩, c⟩
 rcases h with ⟨s, p', h1, h2, h3⟩ | ⟨h1, h2, h3⟩ | ⟨p', h1, h2, h3, h4⟩
 ·exact ⟨_, h2, hk, .inl ⟨s, p', h1, rfl, h3⟩⟩
 ·exact ⟨_, h2, hk, .inr (.inl ⟨h1, rfl, h3⟩)⟩
 ·exact ⟨_, h3, hk, .inr (.inr ⟨p', h1, h2, rfl, h4⟩)⟩
section
variable {L : List Nat}
theorem kf_from {n : Nat} (h : mx L ≤ n) : ∀ d, kf L (n + d) = kf L n
 | 0 => rfl
 | d + 1 => by rw [← Nat.add_assoc, kf, kf_from h d, cnt_gt (by omega)]; simp
theorem kf_mx (h0 : mx L ≠ 0) (h15 : mx L ≤ 15) : kf L 15 = (nc L (mx L) + cnt L (mx L)) * 2 ^ (15 - mx L) := by
 have := kf_from (L := L) (n := mx L) (Nat.le_refl _) (15 - mx L)
 rw [show mx L + (15 - mx L) = 15 by omega] at this
 rw [this, kf_eq L _ (by omega) h15]
theorem kf_zero (h : mx L = 0) : kf L 15 = 0 := by
 have := kf_from (L := L) (n := 0) (by omega) 15
 simpa [kf] using this
theorem pow_split (h15 : mx L ≤ 15) : 2 ^ mx L * 2 ^ (15 - mx L) = 32768 := by
 rw [← Nat.pow_add, show mx L + (15 - mx L) = 15 by omega]
theorem kf_full (h15 : mx L ≤ 15) (h : kf L 15 = 32768) : mx L ≠ 0 ∧ nc L (mx L) + cnt L (mx L) = 2 ^ mx L := by
 have h0 : mx L ≠ 0 := by intro e; rw [kf_zero e] at h; omega
 refine ⟨h0, ?_⟩
 rw [kf_mx h0 h15, ← pow_split h15] at h
 exact Nat.eq_of_mul_eq_mul_right (Nat.two_pow_pos _) h
theorem full_ok (h15 : mx L ≤ 15) (h : kf L 15 = 32768) : okL L = true := by
 have := (kf_full h15 h).2
 unfold okL
 simp [this]
theorem full_kraft (h15 : mx L ≤ 15) (h : kf L 15 = 32768) : Kraft L := okL_fit (full_ok h15 h) h15 (kf_full h15 h).1
theorem full_lk (h15 : mx L ≤ 15) (h : kf L 15 = 32768) (x : Nat) : lkL L x % 16 ≠ 0 := by
 have hK := full_kraft h15 h
 obtain ⟨s, hs⟩ := hK.full (kf_full h15 h).2 x
 have h0 := ((hK.cov x s).1 hs).1
 have h1 := hK.n15 s
 rw [lkL_eq, hK.vk (lt_of_len h0) hs]
 omega
theorem over_bad (h15 : mx L ≤ 15) (h : 32768 < kf L 15) : okL L = false := by
 have h0 : mx L ≠ 0 := by intro e; rw [kf_zero e] at h; omega
 have h2 := kf_mx h0 h15
 rw [h2, ← pow_split h15] at h
 have h3 := Nat.lt_of_mul_lt_mul_right h
 unfold okL
 have e1 : (mx L == 0) = false := by simp [h0]
 have e2 : (nc L (mx L) + cnt L (mx L) == 2 ^ mx L) = false := by simp; omega
 have e3 : (mx L == 1 && cnt L 1 == 1) = false := by
  by_cases hm : mx L = 1
  ·rw [hm] at h3
   have : nc L 1 = 0 := rfl
   simp
   intro _
   rw [this] at h3
   omega
  ·simp [hm]
 rw [e1, e2, e3]; rfl
theorem syms_pos (h0 : mx L ≠ 0) (h15 : mx L ≤ 15) : 1 ≤ (syms L).length := by
 have := symA_lt (L := L) (n := 0) (by omega) h15
 omega
theorem jd_dist (h15 : mx L ≤ 15) (h : jd L true 0 = 0) : Rd1 L ∧ okL L = true := by
 unfold jd at h
 rw [if_neg (by omega)] at h
 split at h
 ·rename_i hf
  exact ⟨.inr (full_kraft h15 hf), full_ok h15 hf⟩
 ·split at h
  ·omega
  ·split at h
   ·omega
   ·rename_i hn
    simp only [Bool.true_eq_false, false_or, not_or, not_and] at hn
    by_cases h0 : mx L = 0
    ·exact ⟨.inl h0, by unfold okL; simp [h0]⟩
    ·have h1 := syms_pos h0 h15
     have hc : cnt L 1 = 1 := by
      have := hn.2 (by omega)
      omega
     have hm : mx L = 1 := by
      have h2 := cnt_mx (L := L) h0
      have h3 := symA_succ (L := L) (mx L - 1)
      rw [show mx L - 1 + 1 = mx L by omega] at h3
      have h4 := symA_mono (L := L) h15
      have h5 := symA_mono (L := L) (n := 1) (m := mx L - 1)
      have h6 := symA_succ (L := L) 0
      have h7 : (symA L 0).length = 0 := rfl
      unfold syms at hn
      rcases Nat.lt_or_ge 1 (mx L) with h | h
      ·have := h5 (by omega)
       simp only [Nat.zero_add] at h6
       omega
      ·omega
     have hk : okL L = true := by unfold okL; simp [hm, hc]
     exact ⟨.inr (okL_fit hk h15 h0), hk⟩
theorem jd_lit (h15 : mx L ≤ 15) (h : jd L false 0 = 0) : kf L 15 = 32768 := by
 unfold jd at h
 rw [if_neg (by omega)] at h
 split at h
 ·assumption
 ·split at h
  ·omega
  ·rw [if_pos (.inl rfl)] at h; omega
theorem jd_one {ds : Bool} (h15 : mx L ≤ 15) (h : jd L ds 0 = 1) : okL L = false := by
 unfold jd at h
 rw [if_neg (by omega)] at h
 split at h
 ·omega
 ·split at h
  ·rename_i ho; exact over_bad h15 ho
  ·split at h <;> omega
theorem jd_three {ds : Bool} {st : Nat} : jd L ds st = st ∨ jd L ds st = 1 ∨ jd L ds st = 3 := by
 unfold jd
 split
 ·exact .inl rfl
 ·rename_i h
  have : st = 0 := by omega
  subst this
  split
  ·exact .inl rfl
  ·split
   ·exact .inr (.inl rfl)
   ·split
    ·exact .inr (.inr rfl)
    ·exact .inl rfl
end
section
variable {S : Src} {L : List Nat} {p : Nat}
/-- The machine's symbol, where all codes are taken. -/
theorem gs_ok {s p' : Nat} (hR : Rd1 L) (h : rsym S L p = .ok s p' 0) {m : Nat} (hm : m ≤ mn L) (pos : Nat) : ∃ pos', getSym S ⟨m, lkL L⟩ p pos = .ok s p' pos' := by
 unfold rsym at h
 split at h
 ·split at h <;> cases h
 ·rename_i h0
  split at h
  ·rename_i hle
   cases h
   have hlen : mn L ≤ lkL L (S.D / 2 ^ p) % 16 := by
    rcases hR with h | hK
    ·rw [lk_zero h] at h0; exact absurd rfl h0
    ·have hne : Vk L L.length (S.D / 2 ^ p) ≠ 0 := by intro e; rw [lkL_eq, e] at h0; exact h0 rfl
     obtain ⟨t, h2, h3, h4⟩ := vk_some hne
     obtain ⟨_, h6, h7⟩ := sym_fnd hK h3
     have h15 := hK.n15 t
     have := (mn_le L t (by omega)).1
     rw [lkL_eq, h4]
     omega
   refine ⟨rdTo p pos (max m (lkL L (S.D / 2 ^ p) % 16)), ?_⟩
   unfold getSym
   simp only
   rw [if_neg h0, if_pos (by rw [Nat.max_eq_right (by omega)]; exact hle)]
  ·cases h
theorem gs_short (hfull : ∀ x, lkL L x % 16 ≠ 0) (h : rsym S L p = .short) (m pos : Nat) : getSym S ⟨m, lkL L⟩ p pos = .short := by
 unfold rsym at h
 rw [if_neg (hfull _)] at h
 split at h
 ·cases h
 ·rename_i hle
  unfold getSym
  simp only
  rw [if_neg (hfull _), if_neg (by omega)]
theorem gs_nobad (hfull : ∀ x, lkL L x % 16 ≠ 0) {p' : Nat} (h : rsym S L p = .bad p' 0) : False := by
 unfold rsym at h
 rw [if_neg (hfull _)] at h
 split at h <;> cases h
end
theorem mem_rep {x : Nat} {l : List Nat} {t v : Nat} (hl : ∀ y ∈ l, y ≤ 15) (hv : v ≤ 15) (h : x ∈ l ++ List.replicate t v) : x ≤ 15 := by
 rcases List.mem_append.1 h with h | h
 ·exact hl x h
 ·rw [(List.mem_replicate.1 h).2]; exact hv
theorem getD_15 {l : List Nat} (hl : ∀ y ∈ l, y ≤ 15) (j : Nat) : l.getD j 0 ≤ 15 := by
 rw [List.getD_eq_getElem?_getD]
 by_cases h : j < l.length
 ·rw [List.getElem?_eq_getElem h]; exact hl _ (List.getElem_mem h)
 ·rw [List.getElem?_eq_none (by omega)]; exact Nat.zero_le _
attribute [local irreducible] wpList wpStill wpMix Code.wp Calls fr
set_option maxHeartbeats 1000000 in
theorem lengths_r {w0 w : World} {X : Nat} {dv ov : Value} {data : List Nat} {p base edge : Nat} (hE : RE w0 dv data X) (hW : RW w0 w X dv p ov base 0 edge) (hp : p ≤ 8 * data.length) {Bs : List Nat} {cvv : Value} {L : List Nat} (hC : CV w Bs cvv L) (hXB : X ∉ Bs) (hl19 : L.length = 19) (hl7 : ∀ x ∈ L, x ≤ 15) (hful : kf L 15 = 32768) (pos n : Nat) (hn : n ≤ 320) :
  Ret 33 [px X, cvv, .int .i64 (n : Int)] w fun v w' => Kp [X] w w' ∧ ∃ l sv, v = sv ∧ Sv w' sv (natv l) ∧ (∀ k, sv.ownBlock = some k → w.heap.size ≤ k) ∧
   ((∃ p' pos', rdLens (srcOf data) (cdL L) n n [] p pos = .ok l p' pos' ∧ l.length = n ∧ (∀ x ∈ l, x ≤ 15) ∧ p' ≤ 8 * data.length ∧ RW w0 w' X dv p' ov base 0 edge) ∨ (rdLens (srcOf data) (cdL L) n n [] p pos = .short ∧ RW w0 w' X dv (8 * data.length) ov base 2 edge) ∨ (∃ p' pos', rdLens (srcOf data) (cdL L) n n [] p pos = .bad p' pos' ∧ p' ≤ 8 * data.length ∧ RW w0 w' X dv p' ov base 1 edge)) := by
 have hC0 := hC
 obtain ⟨lv, cv, sv0, rfl, _, _, _, ho1, ho2, ho3⟩ := hC
 obtain ⟨hB, kp⟩ := hW
 have hXn := hE.hX
 have kpX := Kp.refl [X] w
 have hBl := hB.lt
 have hXk : ∀ b ∈ Bs, b ∉ [X] := fun b hb hm => hXB (by simp at hm; rw [← hm]; exact hb)
 have h15 := mx_le15 (L := L) (fun s => Nat.le_trans (getD_15 hl7 s) (by decide))
 have hR : Rd1 L := .inr (full_kraft h15 hful)
 have hlk := full_lk h15 hful
 refine calls_fr (N := 93) Tryd.func33 rfl rfl (by simp [px]) rfl ?_
 refine sqr ?_
 refine L1 (bx56 rfl) ?_
 have hkb := (Kp.refl [] w).alloc (.cells #[lv, cv, sv0] 56)
 have hD : Bk (w.alloc (.cells #[lv, cv, sv0] 56)) w.heap.size 3 56 (c56 lv cv sv0) := Bk.newOf w _ 56 3 _ rfl
 have hB := hB.kp hkb (by simp)
 have kp := kp.trans hkb
 have kpX := kpX.trans (hkb.mono (by simp))
 obtain ⟨Db, hDb⟩ : ∃ Db, w.heap.size = Db := ⟨_, rfl⟩
 rw [hDb] at hD ⊢
 have hXD : X ≠ Db := by omega
 refine L1 (asg (v := .slice _ _ _) rfl) ?_
 refine nt ?_
 refine sqr ?_
 refine L1 bsi0 ?_
 have hDl := hD.lt
 have hS := Go.Proofs.YtejeloeaklpinaaDoor.sv0 (w.alloc (.cells #[lv, cv, sv0] 56))
 have hsz := hkb.size
 have hso : ∀ k, (Value.slice (some ⟨(w.alloc (.cells #[lv, cv, sv0] 56)).heap.size, 0, none⟩) 0 0).ownBlock = some k → Db < k := by intro k hk; simp only [Value.ownBlock, Option.some.injEq] at hk; omega
 have hk0 := (Kp.refl [] (w.alloc (.cells #[lv, cv, sv0] 56))).alloc (.cells #[] 3)
 have hD := hD.kp hk0 (by simp)
 have hB := hB.kp hk0 (by simp)
 have kp := kp.trans hk0
 have kpX := kpX.trans (hk0.mono (by simp))
 refine L1 (asg (v := .slice _ _ _) rfl) ?_
 refine nt ?_
 refine wp_seq ?_
 refine wp_block ?_
 refine loop_fr (fun k f w' => f 0 = .pointer (some ⟨X, 0, none⟩) ∧ f 2 = .int .i64 ((n : Nat) : Int) ∧ f 4 = .pointer (some ⟨Db, 0, none⟩) ∧ ∃ (l : List Nat) (sv : Value), f 7 = sv ∧ Sv w' sv (natv (l)) ∧ (∀ k, sv.ownBlock = some k → Db < k) ∧ Bk w' Db 3 56 (c56 lv cv sv0) ∧ Kp [] w0 w' ∧ Kp [X] w w' ∧ ((k = n - l.length + 1 ∧ l.length ≤ n ∧ (∀ x ∈ l, x ≤ 15) ∧ ∃ kk p' pos', p' ≤ 8 * data.length ∧ n ≤ l.length + kk ∧ rdLens (srcOf data) (cdL L) n n [] p pos = rdLens (srcOf data) (cdL L) n kk l p' pos' ∧ Bk w' X 6 53 (rx dv p' ov base 0 edge)) ∨ (k = 0 ∧ n < l.length ∧ l.length ≤ n + 140 ∧ ∃ p' pos', p' ≤ 8 * data.length ∧ rdLens (srcOf data) (cdL L) n n [] p pos = .bad p' pos' ∧ Bk w' X 6 53 (rx dv p' ov base 0 edge)) ∨ (k = 0 ∧ l.length ≤ n + 140 ∧ rdLens (srcOf data) (cdL L) n n [] p pos = .short ∧ Bk w' X 6 53 (rx dv (8 * data.length) ov base 2 edge)))) (n + 1) ⟨rfl, rfl, rfl, [], _, rfl, hS, hso, hD, kp, kpX, .inl ⟨by simp, by simp, by simp, n, p, pos, hp, by simp, rfl, hB⟩⟩ ?_
 clear hS hso hD hB kp kpX hkb hk0
 intro k f w1 HJ
 obtain ⟨s0, s2, s4, l, sv, s7, hS, hso, hD, kp, kpX, hcase⟩ := HJ
 obtain ⟨sa, sc, hse⟩ := hS.val
 rw [natv_len] at hse
 refine slots (fc s0 (fc s2 (fc s4 (fc s7 fnil)))) ?_
 rcases hcase with ⟨rfl, hln, hl15, kk, p1, pos1, hp1, hkk, hrd, hB⟩ | ⟨rfl, hln, hln2, p1, pos1, hp1, hrd, hB⟩ | ⟨rfl, hln2, hrd, hB⟩
 ·skip
  subst hse
  by_cases hlt : l.length < n
  ·skip
   refine wp_seq ?_
   refine sqr ?_
   refine L1 (mv (v := (.slice sa l.length sc)) rfl) ?_
   refine L1 (ln und24 rfl) ?_
   refine Mi rfl ?_
   refine L1 (bi rfl rfl (bn_lss (v := true) (decide_eq_true (by omega)))) ?_
   refine Mb rfl ?_
   refine L1g (t := 16) (b := true) rfl (by decide) rfl (mv (v := .pointer _) rfl) ?_
   refine L1g (t := 16) (b := true) rfl (by decide) rfl (nilP rfl) ?_
   refine L1g (t := 16) (b := true) rfl (by decide) rfl (fa53_4 rfl) ?_
   refine L1g (t := 16) (b := true) rfl (by decide) rfl (ld3 rfl (hB.cellv (v := .int _ _) (by decide) rfl)) ?_
   refine L1g (t := 16) (b := true) rfl (by decide) rfl (bi rfl rfl (bn_eql (v := true) (decide_eq_true rfl))) ?_
   refine L1 (pk_t rfl rfl) ?_
   refine nt ?_
   refine cond_t rfl ?_
   refine skn ?_
   refine wp_block ?_
   refine sqr ?_
   refine Mp rfl ?_
   refine L1 (ld56 rfl hD (by decide) rfl rfl rfl) ?_
   have hCn := hC0.kp kpX hXk
   refine LC (cl2 has28 rfl rfl rfl) (sym_r2 hE ⟨hB, kp⟩ hp1 hCn hXB hR (by omega)) ?_
   rintro v w2 ⟨z, rfl, kp1, hres⟩
   have hD := hD.kp kp1 (by simp; exact fun e => hXD e.symm)
   have hS := hS.kp kp1 (fun k hk => by have := hso k hk; simp; omega)
   have kpX := kpX.trans kp1
   obtain ⟨kk, rfl⟩ : ∃ k', kk = k' + 1 := ⟨kk - 1, by omega⟩
   refine Ai rfl ?_
   refine wpList_nil ?_
   rcases hres with ⟨s, p2, hr, rfl, hsl, hpp, hp2, hB, kp⟩ | ⟨hr, rfl, hB, kp⟩ | ⟨p2, hr, hp2, rfl, hB, kp⟩
   ·skip
    obtain ⟨pos2, hsy⟩ := gs_ok hR hr (m := mn L) (Nat.le_refl _) pos1
    refine then_n ?_
    refine sqr ?_
    refine Mi rfl ?_
    refine Ai rfl ?_
    refine Ai rfl ?_
    refine nt ?_
    refine seq_cut (N := 93) (fun f w' => f 0 = .pointer (some ⟨X, 0, none⟩) ∧ f 2 = .int .i64 ((n : Nat) : Int) ∧ f 4 = .pointer (some ⟨Db, 0, none⟩) ∧ f 7 = .slice sa l.length sc ∧ ∃ t x q s' : Nat, f 9 = .int .i64 ((t : Nat) : Int) ∧ f 10 = .int .i64 ((x : Nat) : Int) ∧ 1 ≤ t ∧ t ≤ 138 ∧ Sv w' (.slice sa l.length sc) (natv (l)) ∧ (∀ k, (Value.slice sa l.length sc).ownBlock = some k → Db < k) ∧ Bk w' Db 3 56 (c56 lv cv sv0) ∧ Kp [] w0 w' ∧ Kp [X] w w' ∧ Bk w' X 6 53 (rx dv q ov base s' edge) ∧ ((s' = 0 ∧ q ≤ 8 * data.length ∧ x ≤ 15 ∧ ((n < l.length + t ∧ ∃ pos', rdLens (srcOf data) (cdL L) n n [] p pos = .bad q pos') ∨ (l.length + t ≤ n ∧ ∃ kk' pos', n ≤ l.length + t + kk' ∧ rdLens (srcOf data) (cdL L) n n [] p pos = rdLens (srcOf data) (cdL L) n kk' (l ++ List.replicate t x) q pos'))) ∨ (s' = 2 ∧ q = 8 * data.length ∧ rdLens (srcOf data) (cdL L) n n [] p pos = .short))) ?_ ?_
    ·skip
     rw [show L.length = 19 from hl19] at hsl
     by_cases h16 : s = 16
     ·skip
      by_cases hl0 : l.length = 0
      ·skip
       subst h16
       refine wp_block ?_
       refine sqr ?_
       refine Mp rfl ?_
       refine Np rfl ?_
       refine L1 (fa53_4 rfl) ?_
       refine L1 (ld3 rfl (hB.cellv (v := .int _ _) (by decide) rfl)) ?_
       refine L1 (bi rfl rfl (bn_neq (v := false) (decide_eq_true rfl))) ?_
       refine Ab rfl ?_
       refine nt ?_
       refine cond_f rfl ?_
       refine sqr ?_
       refine Mi rfl ?_
       refine L1 (bi rfl rfl (bn_eql (v := true) (decide_eq_true (by omega)))) ?_
       refine Mb rfl ?_
       refine L1g (t := 37) (b := true) rfl (by decide) rfl (mv (v := (.slice sa l.length sc)) rfl) ?_
       refine L1g (t := 37) (b := true) rfl (by decide) rfl (ln und24 rfl) ?_
       refine L1g (t := 37) (b := true) rfl (by decide) rfl (bi rfl rfl (bn_eql (v := true) (decide_eq_true (by omega)))) ?_
       refine L1 (pk_t rfl rfl) ?_
       refine Ab rfl ?_
       refine nt ?_
       refine cond_t rfl ?_
       refine sqr ?_
       refine Mp rfl ?_
       refine Np rfl ?_
       refine L1 (fa53_4 rfl) ?_
       refine Lst3 (v := .int .i64 ((1 : Nat) : Int)) rfl rfl rfl hB (by decide) ?_
       intro wx hB kpx
       have hB := hB.congr (fun k _ => rx_4 k)
       have kp := kp.transNew kpx (by simp; omega)
       have kpX := kpX.trans kpx
       have hS := hS.kp kpx (fun k hk => by have := hso k hk; simp; omega)
       clear kpx
       refine nt ?_
       refine sqr ?_
       refine L1 (mv (v := (.slice sa l.length sc)) rfl) ?_
       refine L1 (asg (v := (.slice sa l.length sc)) rfl) ?_
       refine nt ?_
       refine wp_ret ?_
       refine inb_r ?_
       refine then_r ?_
       refine inb_r ?_
       refine then_r ?_
       refine inb_r ?_
       refine then_r ?_
       refine ret1 rfl rfl ?_
       exact ⟨_, rfl, kpX, l, _, rfl, hS, fun k hk => by have := hso k hk; omega, .inr (.inr ⟨p2, pos2, hrd.trans (rl_first (n := n) (by omega) hsy hl0), hp2, hB, kp⟩)⟩
      ·skip
       obtain ⟨sa', sc', he, hat⟩ := id hS.at
       rw [natv_len] at he hat
       cases he
       obtain ⟨sb, rfl, hcell⟩ := hat (l.length - 1) (by omega)
       rw [natv_get l (by omega)] at hcell
       have hnx : ¬ s < 16 := by omega
       refine wp_block ?_
       refine sqr ?_
       refine Mp rfl ?_
       refine Np rfl ?_
       refine L1 (fa53_4 rfl) ?_
       refine L1 (ld3 rfl (hB.cellv (v := .int _ _) (by decide) rfl)) ?_
       refine L1 (bi rfl rfl (bn_neq (v := false) (decide_eq_true rfl))) ?_
       refine Ab rfl ?_
       refine nt ?_
       refine cond_f rfl ?_
       refine sqr ?_
       refine Mi rfl ?_
       refine L1 (bi rfl rfl (bn_eql (v := true) (decide_eq_true (by omega)))) ?_
       refine Mb rfl ?_
       refine L1g (t := 37) (b := true) rfl (by decide) rfl (mv (v := (.slice (some ⟨sb, 0, none⟩) l.length sc)) rfl) ?_
       refine L1g (t := 37) (b := true) rfl (by decide) rfl (ln und24 rfl) ?_
       refine L1g (t := 37) (b := true) rfl (by decide) rfl (bi rfl rfl (bn_eql (v := false) (decide_eq_false (by omega)))) ?_
       refine L1 (pk_t rfl rfl) ?_
       refine Ab rfl ?_
       refine nt ?_
       refine cond_f rfl ?_
       refine sqr ?_
       refine Mi rfl ?_
       refine L1 (bi rfl rfl (bn_eql (v := true) (decide_eq_true (by omega)))) ?_
       refine Ab rfl ?_
       refine nt ?_
       refine cond_t rfl ?_
       refine sqr ?_
       refine L1 (mv (v := (.slice (some ⟨sb, 0, none⟩) l.length sc)) rfl) ?_
       refine L1 (mv (v := (.slice (some ⟨sb, 0, none⟩) l.length sc)) rfl) ?_
       refine L1 (ln und24 rfl) ?_
       refine L1 (bi rfl rfl (bn_sub (c := ((l.length - 1 : Nat) : Int)) (by omega) (by omega) (by omega))) ?_
       refine L1 (ixgb und24 sz3 rfl rfl rfl (by omega)) ?_
       refine L1 (ld3 (v := .int .i64 ((l.getD (l.length - 1) 0 : Nat) : Int)) rfl (by rw [Nat.zero_add]; exact hcell)) ?_
       refine Ai rfl ?_
       refine nt ?_
       refine reg_lit ?_
       refine Mp rfl ?_
       refine LC (cl2 has19 rfl rfl rfl) (bits_r hE ⟨hB, kp⟩ hp2 2 (by decide)) ?_
       rintro v w3 ⟨kp3, hb3⟩
       have hD := hD.kp kp3 (by simp; exact fun e => hXD e.symm)
       have hS := hS.kp kp3 (fun k hk => by have := hso k hk; simp; omega)
       have kpX := kpX.trans kp3
       have hbl := bv_lt (srcOf data).D p2 2
       obtain ⟨bz, rfl, hbz, hb3⟩ : ∃ bz : Nat, v = .int .i64 (bz : Int) ∧ bz < 2 ^ 2 ∧ ((p2 + 2 ≤ 8 * data.length ∧ bz = bv (srcOf data).D p2 2 ∧ RW w0 w3 X dv (p2 + 2) ov base 0 edge) ∨ (8 * data.length < p2 + 2 ∧ RW w0 w3 X dv (8 * data.length) ov base 2 edge)) := by
        rcases hb3 with ⟨h1, h2, h3⟩ | ⟨h1, h2, h3⟩
        ·exact ⟨_, h2, hbl, .inl ⟨h1, rfl, h3⟩⟩
        ·exact ⟨0, h2, by decide, .inr ⟨h1, h3⟩⟩
       have hpw : 2 ^ 2 ≤ 128 := by decide
       refine L1 (bi rfl rfl (bn_add (c := ((3 + bz : Nat) : Int)) (by omega) (by omega) (by omega))) ?_
       refine Ai rfl ?_
       refine wpList_nil ?_
       refine inb_n ?_
       refine then_n ?_
       rcases hb3 with ⟨hle, hbe, hB, kp⟩ | ⟨hgt, hB, kp⟩
       ·refine ⟨_, rfl, rfl, rfl, rfl, rfl, 3 + bz, l.getD (l.length - 1) 0, p2 + 2, 0, rfl, rfl, by omega, by omega, hS, hso, hD, kp, kpX, hB, .inl ⟨rfl, hle, getD_15 hl15 _, ?_⟩⟩
        subst hbe
        have hrB : rlB s = 2 := by rw [h16]; rfl
        have hrR : rlR s = 3 := by rw [h16]; rfl
        have hrV : rlV s l = l.getD (l.length - 1) 0 := by rw [h16]; rfl
        have hg := rl_big (n := n) (k := kk) (l := l) (by omega) hsy hnx (fun e => hl0 e.2) (by rw [hrB]; exact hle)
        have hm := rl_more (n := n) (k := kk) (l := l) (by omega) hsy hnx (fun e => hl0 e.2) (by rw [hrB]; exact hle)
        rw [hrB, hrR] at hg
        rw [hrB, hrR, hrV] at hm
        by_cases hbig : n < l.length + (3 + bv (srcOf data).D p2 2)
        ·exact .inl ⟨hbig, _, hrd.trans (hg hbig)⟩
        ·exact .inr ⟨by omega, kk, _, by omega, hrd.trans (hm hbig)⟩
       ·exact ⟨_, rfl, rfl, rfl, rfl, rfl, 3 + bz, l.getD (l.length - 1) 0, 8 * data.length, 2, rfl, rfl, by omega, by omega, hS, hso, hD, kp, kpX, hB, .inr ⟨rfl, rfl, hrd.trans (rl_bshort (n := n) (k := kk) (l := l) (by omega) hsy hnx (fun e => hl0 e.2) (by rw [h16]; exact hgt))⟩⟩
     ·skip
      by_cases h17 : s = 17
      ·skip
       have hnx : ¬ s < 16 := by omega
       refine wp_block ?_
       refine sqr ?_
       refine Mp rfl ?_
       refine Np rfl ?_
       refine L1 (fa53_4 rfl) ?_
       refine L1 (ld3 rfl (hB.cellv (v := .int _ _) (by decide) rfl)) ?_
       refine L1 (bi rfl rfl (bn_neq (v := false) (decide_eq_true rfl))) ?_
       refine Ab rfl ?_
       refine nt ?_
       refine cond_f rfl ?_
       refine sqr ?_
       refine Mi rfl ?_
       refine L1 (bi rfl rfl (bn_eql (v := false) (decide_eq_false (by omega)))) ?_
       refine Mb rfl ?_
       refine Lskip (t := 37) (b := true) rfl (by decide) rfl ?_
       refine Lskip (t := 37) (b := true) rfl (by decide) rfl ?_
       refine Lskip (t := 37) (b := true) rfl (by decide) rfl ?_
       refine L1 (pk_f rfl rfl) ?_
       refine Ab rfl ?_
       refine nt ?_
       refine cond_f rfl ?_
       refine sqr ?_
       refine Mi rfl ?_
       refine L1 (bi rfl rfl (bn_eql (v := false) (decide_eq_false (by omega)))) ?_
       refine Ab rfl ?_
       refine nt ?_
       refine cond_f rfl ?_
       refine sqr ?_
       refine Mi rfl ?_
       refine L1 (bi rfl rfl (bn_eql (v := true) (decide_eq_true (by omega)))) ?_
       refine Ab rfl ?_
       refine nt ?_
       refine cond_t rfl ?_
       refine sqr ?_
       refine Ai rfl ?_
       refine nt ?_
       refine reg_lit ?_
       refine Mp rfl ?_
       refine LC (cl2 has19 rfl rfl rfl) (bits_r hE ⟨hB, kp⟩ hp2 3 (by decide)) ?_
       rintro v w3 ⟨kp3, hb3⟩
       have hD := hD.kp kp3 (by simp; exact fun e => hXD e.symm)
       have hS := hS.kp kp3 (fun k hk => by have := hso k hk; simp; omega)
       have kpX := kpX.trans kp3
       have hbl := bv_lt (srcOf data).D p2 3
       obtain ⟨bz, rfl, hbz, hb3⟩ : ∃ bz : Nat, v = .int .i64 (bz : Int) ∧ bz < 2 ^ 3 ∧ ((p2 + 3 ≤ 8 * data.length ∧ bz = bv (srcOf data).D p2 3 ∧ RW w0 w3 X dv (p2 + 3) ov base 0 edge) ∨ (8 * data.length < p2 + 3 ∧ RW w0 w3 X dv (8 * data.length) ov base 2 edge)) := by
        rcases hb3 with ⟨h1, h2, h3⟩ | ⟨h1, h2, h3⟩
        ·exact ⟨_, h2, hbl, .inl ⟨h1, rfl, h3⟩⟩
        ·exact ⟨0, h2, by decide, .inr ⟨h1, h3⟩⟩
       have hpw : 2 ^ 3 ≤ 128 := by decide
       refine L1 (bi rfl rfl (bn_add (c := ((3 + bz : Nat) : Int)) (by omega) (by omega) (by omega))) ?_
       refine Ai rfl ?_
       refine wpList_nil ?_
       refine inb_n ?_
       refine then_n ?_
       rcases hb3 with ⟨hle, hbe, hB, kp⟩ | ⟨hgt, hB, kp⟩
       ·refine ⟨_, rfl, rfl, rfl, rfl, rfl, 3 + bz, 0, p2 + 3, 0, rfl, rfl, by omega, by omega, hS, hso, hD, kp, kpX, hB, .inl ⟨rfl, hle, Nat.zero_le _, ?_⟩⟩
        subst hbe
        have hrB : rlB s = 3 := by rw [h17]; rfl
        have hrR : rlR s = 3 := by rw [h17]; rfl
        have hrV : rlV s l = 0 := by rw [h17]; rfl
        have hg := rl_big (n := n) (k := kk) (l := l) (by omega) hsy hnx (fun e => absurd e.1 (by omega)) (by rw [hrB]; exact hle)
        have hm := rl_more (n := n) (k := kk) (l := l) (by omega) hsy hnx (fun e => absurd e.1 (by omega)) (by rw [hrB]; exact hle)
        rw [hrB, hrR] at hg
        rw [hrB, hrR, hrV] at hm
        by_cases hbig : n < l.length + (3 + bv (srcOf data).D p2 3)
        ·exact .inl ⟨hbig, _, hrd.trans (hg hbig)⟩
        ·exact .inr ⟨by omega, kk, _, by omega, hrd.trans (hm hbig)⟩
       ·exact ⟨_, rfl, rfl, rfl, rfl, rfl, 3 + bz, 0, 8 * data.length, 2, rfl, rfl, by omega, by omega, hS, hso, hD, kp, kpX, hB, .inr ⟨rfl, rfl, hrd.trans (rl_bshort (n := n) (k := kk) (l := l) (by omega) hsy hnx (fun e => absurd e.1 (by omega)) (by rw [h17]; exact hgt))⟩⟩
      ·skip
       by_cases h18 : s = 18
       ·skip
        have hnx : ¬ s < 16 := by omega
        refine wp_block ?_
        refine sqr ?_
        refine Mp rfl ?_
        refine Np rfl ?_
        refine L1 (fa53_4 rfl) ?_
        refine L1 (ld3 rfl (hB.cellv (v := .int _ _) (by decide) rfl)) ?_
        refine L1 (bi rfl rfl (bn_neq (v := false) (decide_eq_true rfl))) ?_
        refine Ab rfl ?_
        refine nt ?_
        refine cond_f rfl ?_
        refine sqr ?_
        refine Mi rfl ?_
        refine L1 (bi rfl rfl (bn_eql (v := false) (decide_eq_false (by omega)))) ?_
        refine Mb rfl ?_
        refine Lskip (t := 37) (b := true) rfl (by decide) rfl ?_
        refine Lskip (t := 37) (b := true) rfl (by decide) rfl ?_
        refine Lskip (t := 37) (b := true) rfl (by decide) rfl ?_
        refine L1 (pk_f rfl rfl) ?_
        refine Ab rfl ?_
        refine nt ?_
        refine cond_f rfl ?_
        refine sqr ?_
        refine Mi rfl ?_
        refine L1 (bi rfl rfl (bn_eql (v := false) (decide_eq_false (by omega)))) ?_
        refine Ab rfl ?_
        refine nt ?_
        refine cond_f rfl ?_
        refine sqr ?_
        refine Mi rfl ?_
        refine L1 (bi rfl rfl (bn_eql (v := false) (decide_eq_false (by omega)))) ?_
        refine Ab rfl ?_
        refine nt ?_
        refine cond_f rfl ?_
        refine sqr ?_
        refine Mi rfl ?_
        refine L1 (bi rfl rfl (bn_eql (v := true) (decide_eq_true (by omega)))) ?_
        refine Ab rfl ?_
        refine nt ?_
        refine cond_t rfl ?_
        refine sqr ?_
        refine Ai rfl ?_
        refine nt ?_
        refine reg_lit ?_
        refine Mp rfl ?_
        refine LC (cl2 has19 rfl rfl rfl) (bits_r hE ⟨hB, kp⟩ hp2 7 (by decide)) ?_
        rintro v w3 ⟨kp3, hb3⟩
        have hD := hD.kp kp3 (by simp; exact fun e => hXD e.symm)
        have hS := hS.kp kp3 (fun k hk => by have := hso k hk; simp; omega)
        have kpX := kpX.trans kp3
        have hbl := bv_lt (srcOf data).D p2 7
        obtain ⟨bz, rfl, hbz, hb3⟩ : ∃ bz : Nat, v = .int .i64 (bz : Int) ∧ bz < 2 ^ 7 ∧ ((p2 + 7 ≤ 8 * data.length ∧ bz = bv (srcOf data).D p2 7 ∧ RW w0 w3 X dv (p2 + 7) ov base 0 edge) ∨ (8 * data.length < p2 + 7 ∧ RW w0 w3 X dv (8 * data.length) ov base 2 edge)) := by
         rcases hb3 with ⟨h1, h2, h3⟩ | ⟨h1, h2, h3⟩
         ·exact ⟨_, h2, hbl, .inl ⟨h1, rfl, h3⟩⟩
         ·exact ⟨0, h2, by decide, .inr ⟨h1, h3⟩⟩
        have hpw : 2 ^ 7 ≤ 128 := by decide
        refine L1 (bi rfl rfl (bn_add (c := ((11 + bz : Nat) : Int)) (by omega) (by omega) (by omega))) ?_
        refine Ai rfl ?_
        refine wpList_nil ?_
        refine inb_n ?_
        refine then_n ?_
        rcases hb3 with ⟨hle, hbe, hB, kp⟩ | ⟨hgt, hB, kp⟩
        ·refine ⟨_, rfl, rfl, rfl, rfl, rfl, 11 + bz, 0, p2 + 7, 0, rfl, rfl, by omega, by omega, hS, hso, hD, kp, kpX, hB, .inl ⟨rfl, hle, Nat.zero_le _, ?_⟩⟩
         subst hbe
         have hrB : rlB s = 7 := by rw [h18]; rfl
         have hrR : rlR s = 11 := by rw [h18]; rfl
         have hrV : rlV s l = 0 := by rw [h18]; rfl
         have hg := rl_big (n := n) (k := kk) (l := l) (by omega) hsy hnx (fun e => absurd e.1 (by omega)) (by rw [hrB]; exact hle)
         have hm := rl_more (n := n) (k := kk) (l := l) (by omega) hsy hnx (fun e => absurd e.1 (by omega)) (by rw [hrB]; exact hle)
         rw [hrB, hrR] at hg
         rw [hrB, hrR, hrV] at hm
         by_cases hbig : n < l.length + (11 + bv (srcOf data).D p2 7)
         ·exact .inl ⟨hbig, _, hrd.trans (hg hbig)⟩
         ·exact .inr ⟨by omega, kk, _, by omega, hrd.trans (hm hbig)⟩
        ·exact ⟨_, rfl, rfl, rfl, rfl, rfl, 11 + bz, 0, 8 * data.length, 2, rfl, rfl, by omega, by omega, hS, hso, hD, kp, kpX, hB, .inr ⟨rfl, rfl, hrd.trans (rl_bshort (n := n) (k := kk) (l := l) (by omega) hsy hnx (fun e => absurd e.1 (by omega)) (by rw [h18]; exact hgt))⟩⟩
       ·skip
        refine wp_block ?_
        refine sqr ?_
        refine Mp rfl ?_
        refine Np rfl ?_
        refine L1 (fa53_4 rfl) ?_
        refine L1 (ld3 rfl (hB.cellv (v := .int _ _) (by decide) rfl)) ?_
        refine L1 (bi rfl rfl (bn_neq (v := false) (decide_eq_true rfl))) ?_
        refine Ab rfl ?_
        refine nt ?_
        refine cond_f rfl ?_
        refine sqr ?_
        refine Mi rfl ?_
        refine L1 (bi rfl rfl (bn_eql (v := false) (decide_eq_false (by omega)))) ?_
        refine Mb rfl ?_
        refine Lskip (t := 37) (b := true) rfl (by decide) rfl ?_
        refine Lskip (t := 37) (b := true) rfl (by decide) rfl ?_
        refine Lskip (t := 37) (b := true) rfl (by decide) rfl ?_
        refine L1 (pk_f rfl rfl) ?_
        refine Ab rfl ?_
        refine nt ?_
        refine cond_f rfl ?_
        refine sqr ?_
        refine Mi rfl ?_
        refine L1 (bi rfl rfl (bn_eql (v := false) (decide_eq_false (by omega)))) ?_
        refine Ab rfl ?_
        refine nt ?_
        refine cond_f rfl ?_
        refine sqr ?_
        refine Mi rfl ?_
        refine L1 (bi rfl rfl (bn_eql (v := false) (decide_eq_false (by omega)))) ?_
        refine Ab rfl ?_
        refine nt ?_
        refine cond_f rfl ?_
        refine sqr ?_
        refine Mi rfl ?_
        refine L1 (bi rfl rfl (bn_eql (v := false) (decide_eq_false (by omega)))) ?_
        refine Ab rfl ?_
        refine nt ?_
        refine cond_f rfl ?_
        refine wp_skip ?_
        refine inb_n ?_
        refine then_n ?_
        have hrd := hrd.trans (rl_one (n := n) (k := kk) (by omega) hsy (by omega))
        exact ⟨_, rfl, rfl, rfl, rfl, rfl, 1, s, p2, 0, rfl, rfl, by omega, by omega, hS, hso, hD, kp, kpX, hB, .inl ⟨rfl, hp2, by omega, .inr ⟨by omega, kk, pos2, by omega, hrd⟩⟩⟩
    ·skip
     clear hS hD kp kpX hB hrd
     rintro f w5 ⟨s0, s2, s4, s7, t, x, q, s', s9, s10, ht1, ht2, hS, hso, hD, kp, kpX, hB, hcase⟩
     refine slots (fc s0 (fc s2 (fc s4 (fc s7 (fc s9 (fc s10 fnil)))))) ?_
     refine sqr ?_
     refine Mi rfl ?_
     refine Mi rfl ?_
     refine nt ?_
     refine wp_block ?_
     refine loop_fr (fun k f w' => f 0 = .pointer (some ⟨X, 0, none⟩) ∧ f 2 = .int .i64 ((n : Nat) : Int) ∧ f 4 = .pointer (some ⟨Db, 0, none⟩) ∧ f 10 = .int .i64 ((x : Nat) : Int) ∧ f 70 = .int .i64 ((t : Nat) : Int) ∧ ∃ (i : Nat) (sv : Value), f 71 = .int .i64 ((i : Nat) : Int) ∧ f 7 = sv ∧ i ≤ t ∧ k = t - i ∧ Sv w' sv (natv (l ++ List.replicate i x)) ∧ (∀ k, sv.ownBlock = some k → Db < k) ∧ Bk w' Db 3 56 (c56 lv cv sv0) ∧ Kp [] w0 w' ∧ Kp [X] w w' ∧ Bk w' X 6 53 (rx dv q ov base s' edge)) t ⟨rfl, rfl, rfl, rfl, rfl, 0, .slice sa l.length sc, rfl, rfl, Nat.zero_le _, rfl, by simpa using hS, hso, hD, kp, kpX, hB⟩ ?_
     clear hS hso hD kp kpX hB s0 s2 s4 s7 s9 s10
     intro k2 f w6 HJ
     obtain ⟨s0, s2, s4, s10, s70, i, sv, s71, s7, hi, rfl, hS, hso, hD, kp, kpX, hB⟩ := HJ
     refine slots (fc s0 (fc s2 (fc s4 (fc s7 (fc s10 (fc s70 (fc s71 fnil))))))) ?_
     refine sqr ?_
     refine L1 (bi rfl rfl (bn_lss (v := decide (i < t)) (decide_eq_decide.2 (by omega)))) ?_
     refine nt ?_
     refine wp_seq ?_
     refine cond_d (p := i < t) rfl (fun hlt2 => ?_) (fun hlt2 => ?_)
     ·skip
      refine skn ?_
      refine wp_seq ?_
      refine wp_block ?_
      refine reg_lit ?_
      refine L1 (mv (v := sv) rfl) ?_
      refine Mi rfl ?_
      have hDlt := hD.lt
      have hXlt := hB.lt
      have hwsz := kpX.size
      refine Lapv1 (v := sv) rfl rfl (by intro t h; cases h; decide) hS (by rw [natv_len, List.length_append, List.length_replicate]; omega) (by decide) ?_
      intro sv2 u2 w7 hS kp2 hown2
      have e2 : natv (l ++ List.replicate i x) ++ [.int .i64 ((x : Nat) : Int)] = natv (l ++ List.replicate (i + 1) x) := by rw [← One.natv1, ← natv_app, List.append_assoc, ← List.replicate_succ']
      rw [e2] at hS
      have hob : ∀ b, b ≤ Db → b ∉ obk sv := fun b hb hm => by
       unfold obk at hm
       split at hm
       ·rename_i k hk; simp only [List.mem_singleton] at hm; subst hm; have := hso _ hk; omega
       ·simp at hm
      have hD := hD.kp kp2 (hob _ (Nat.le_refl _))
      have hB := hB.kp kp2 (hob _ (by omega))
      have kp := kp.transNew kp2 (obk_ge (fun k hk => by have := hso k hk; omega))
      have kpX := kpX.transNew kp2 (fun i hi hlt => absurd hi (hob _ (by omega)))
      have hso : ∀ k, sv2.ownBlock = some k → Db < k := fun k hk => by
       rcases hown2 k hk with h | h
       ·exact hso k h
       ·omega
      refine L1 (asg (v := sv2) rfl) ?_
      refine wpList_nil ?_
      refine inb_n ?_
      refine then_n ?_
      refine reg_lit ?_
      refine L1 (bi rfl rfl (bn_add (c := ((i + 1 : Nat) : Int)) (by omega) (by omega) (by omega))) ?_
      refine Mi rfl ?_
      refine nt ?_
      exact ⟨t - (i + 1), _, by omega, rfl, rfl, rfl, rfl, rfl, rfl, i + 1, sv2, rfl, rfl, by omega, rfl, hS, hso, hD, kp, kpX, hB⟩
     ·skip
      obtain rfl : t = i := by omega
      refine wp_exit ?_
      refine then_e ?_
      refine then_e ?_
      refine inb_same ?_
      refine inb_n ?_
      refine then_n ?_
      rcases hcase with ⟨rfl, hq, hx15, hcase⟩ | ⟨rfl, rfl, hrd⟩
      ·rcases hcase with ⟨hbig, pos', hrd⟩ | ⟨hfit, kk', pos', hkk', hrd⟩
       ·exact ⟨0, _, by omega, rfl, rfl, rfl, rfl, l ++ List.replicate t x, sv, rfl, hS, hso, hD, kp, kpX, .inr (.inl ⟨rfl, by simp; omega, by simp; omega, q, pos', hq, hrd, hB⟩)⟩
       ·exact ⟨_, _, by simp; omega, rfl, rfl, rfl, rfl, l ++ List.replicate t x, sv, rfl, hS, hso, hD, kp, kpX, .inl ⟨rfl, by simp; omega, fun y hy => mem_rep hl15 hx15 hy, kk', q, pos', hq, by simp; omega, hrd, hB⟩⟩
      ·exact ⟨0, _, by omega, rfl, rfl, rfl, rfl, l ++ List.replicate t x, sv, rfl, hS, hso, hD, kp, kpX, .inr (.inr ⟨rfl, by simp; omega, hrd, hB⟩)⟩
   ·skip
    have hrd := hrd.trans (rl_short (n := n) (by omega) (gs_short hlk hr _ _))
    refine then_n ?_
    refine sqr ?_
    refine Mi rfl ?_
    refine Ai rfl ?_
    refine Ai rfl ?_
    refine nt ?_
    refine wp_seq ?_
    refine wp_block ?_
    refine sqr ?_
    refine Mp rfl ?_
    refine Np rfl ?_
    refine L1 (fa53_4 rfl) ?_
    refine L1 (ld3 rfl (hB.cellv (v := .int _ _) (by decide) rfl)) ?_
    refine L1 (bi rfl rfl (bn_neq (v := true) (decide_eq_false (by decide)))) ?_
    refine Ab rfl ?_
    refine nt ?_
    refine cond_t rfl ?_
    refine sqr ?_
    refine L1 (mv (v := (.slice sa l.length sc)) rfl) ?_
    refine L1 (asg (v := (.slice sa l.length sc)) rfl) ?_
    refine nt ?_
    refine wp_ret ?_
    refine inb_r ?_
    refine then_r ?_
    refine inb_r ?_
    refine then_r ?_
    refine inb_r ?_
    refine then_r ?_
    refine ret1 rfl rfl ?_
    exact ⟨_, rfl, kpX, l, _, rfl, hS, fun k hk => by have := hso k hk; omega, .inr (.inl ⟨hrd, hB, kp⟩)⟩
   ·skip
    exact (gs_nobad hlk hr).elim
  ·skip
   obtain rfl : l.length = n := by omega
   refine wp_seq ?_
   refine sqr ?_
   refine L1 (mv (v := (.slice sa l.length sc)) rfl) ?_
   refine L1 (ln und24 rfl) ?_
   refine Mi rfl ?_
   refine L1 (bi rfl rfl (bn_lss (v := false) (decide_eq_false (by omega)))) ?_
   refine Mb rfl ?_
   refine Lskip (t := 16) (b := true) rfl (by decide) rfl ?_
   refine Lskip (t := 16) (b := true) rfl (by decide) rfl ?_
   refine Lskip (t := 16) (b := true) rfl (by decide) rfl ?_
   refine Lskip (t := 16) (b := true) rfl (by decide) rfl ?_
   refine Lskip (t := 16) (b := true) rfl (by decide) rfl ?_
   refine L1 (pk_f rfl rfl) ?_
   refine nt ?_
   refine cond_f rfl ?_
   refine wp_exit ?_
   refine then_e ?_
   refine then_e ?_
   refine inb_same ?_
   refine then_n ?_
   refine wp_seq ?_
   refine sqr ?_
   refine L1 (mv (v := (.slice sa l.length sc)) rfl) ?_
   refine L1 (ln und24 rfl) ?_
   refine Mi rfl ?_
   refine L1 (bi rfl rfl (bn_gtr (v := false) (decide_eq_false (by omega)))) ?_
   refine Mb rfl ?_
   refine Lskip (t := 82) (b := true) rfl (by decide) rfl ?_
   refine Lskip (t := 82) (b := true) rfl (by decide) rfl ?_
   refine Lskip (t := 82) (b := true) rfl (by decide) rfl ?_
   refine Lskip (t := 82) (b := true) rfl (by decide) rfl ?_
   refine Lskip (t := 82) (b := true) rfl (by decide) rfl ?_
   refine L1 (pk_f rfl rfl) ?_
   refine nt ?_
   refine cond_f rfl ?_
   refine skn ?_
   refine sqr ?_
   refine L1 (mv (v := (.slice sa l.length sc)) rfl) ?_
   refine L1 (asg (v := (.slice sa l.length sc)) rfl) ?_
   refine nt ?_
   refine wp_ret ?_
   refine ret1 rfl rfl ?_
   exact ⟨_, rfl, kpX, l, _, rfl, hS, fun k hk => by have := hso k hk; omega, .inl ⟨p1, pos1, hrd.trans (rl_done (Nat.le_refl _)), rfl, hl15, hp1, hB, kp⟩⟩
 ·skip
  subst hse
  refine wp_seq ?_
  refine sqr ?_
  refine L1 (mv (v := (.slice sa l.length sc)) rfl) ?_
  refine L1 (ln und24 rfl) ?_
  refine Mi rfl ?_
  refine L1 (bi rfl rfl (bn_lss (v := false) (decide_eq_false (by omega)))) ?_
  refine Mb rfl ?_
  refine Lskip (t := 16) (b := true) rfl (by decide) rfl ?_
  refine Lskip (t := 16) (b := true) rfl (by decide) rfl ?_
  refine Lskip (t := 16) (b := true) rfl (by decide) rfl ?_
  refine Lskip (t := 16) (b := true) rfl (by decide) rfl ?_
  refine Lskip (t := 16) (b := true) rfl (by decide) rfl ?_
  refine L1 (pk_f rfl rfl) ?_
  refine nt ?_
  refine cond_f rfl ?_
  refine wp_exit ?_
  refine then_e ?_
  refine then_e ?_
  refine inb_same ?_
  refine then_n ?_
  refine wp_seq ?_
  refine sqr ?_
  refine L1 (mv (v := (.slice sa l.length sc)) rfl) ?_
  refine L1 (ln und24 rfl) ?_
  refine Mi rfl ?_
  refine L1 (bi rfl rfl (bn_gtr (v := true) (decide_eq_true (by omega)))) ?_
  refine Mb rfl ?_
  refine L1g (t := 82) (b := true) rfl (by decide) rfl (mv (v := .pointer _) rfl) ?_
  refine L1g (t := 82) (b := true) rfl (by decide) rfl (nilP rfl) ?_
  refine L1g (t := 82) (b := true) rfl (by decide) rfl (fa53_4 rfl) ?_
  refine L1g (t := 82) (b := true) rfl (by decide) rfl (ld3 rfl (hB.cellv (v := .int _ _) (by decide) rfl)) ?_
  refine L1g (t := 82) (b := true) rfl (by decide) rfl (bi rfl rfl (bn_eql (v := true) (decide_eq_true rfl))) ?_
  refine L1 (pk_t rfl rfl) ?_
  refine nt ?_
  refine cond_t rfl ?_
  refine reg_lit ?_
  refine Mp rfl ?_
  refine Np rfl ?_
  refine L1 (fa53_4 rfl) ?_
  refine Lst3 (v := .int .i64 ((1 : Nat) : Int)) rfl rfl rfl hB (by decide) ?_
  intro wx hB kpx
  have hB := hB.congr (fun k _ => rx_4 k)
  have kp := kp.transNew kpx (by simp; omega)
  have kpX := kpX.trans kpx
  have hS := hS.kp kpx (fun k hk => by have := hso k hk; simp; omega)
  clear kpx
  refine nt ?_
  refine sqr ?_
  refine L1 (mv (v := (.slice sa l.length sc)) rfl) ?_
  refine L1 (asg (v := (.slice sa l.length sc)) rfl) ?_
  refine nt ?_
  refine wp_ret ?_
  refine ret1 rfl rfl ?_
  exact ⟨_, rfl, kpX, l, _, rfl, hS, fun k hk => by have := hso k hk; omega, .inr (.inr ⟨p1, pos1, hrd, hp1, hB, kp⟩)⟩
 ·skip
  subst hse
  by_cases hlt : l.length < n
  ·skip
   refine wp_seq ?_
   refine sqr ?_
   refine L1 (mv (v := (.slice sa l.length sc)) rfl) ?_
   refine L1 (ln und24 rfl) ?_
   refine Mi rfl ?_
   refine L1 (bi rfl rfl (bn_lss (v := true) (decide_eq_true (by omega)))) ?_
   refine Mb rfl ?_
   refine L1g (t := 16) (b := true) rfl (by decide) rfl (mv (v := .pointer _) rfl) ?_
   refine L1g (t := 16) (b := true) rfl (by decide) rfl (nilP rfl) ?_
   refine L1g (t := 16) (b := true) rfl (by decide) rfl (fa53_4 rfl) ?_
   refine L1g (t := 16) (b := true) rfl (by decide) rfl (ld3 rfl (hB.cellv (v := .int _ _) (by decide) rfl)) ?_
   refine L1g (t := 16) (b := true) rfl (by decide) rfl (bi rfl rfl (bn_eql (v := false) (decide_eq_false (by decide)))) ?_
   refine L1 (pk_t rfl rfl) ?_
   refine nt ?_
   refine cond_f rfl ?_
   refine wp_exit ?_
   refine then_e ?_
   refine then_e ?_
   refine inb_same ?_
   refine then_n ?_
   refine wp_seq ?_
   refine sqr ?_
   refine L1 (mv (v := (.slice sa l.length sc)) rfl) ?_
   refine L1 (ln und24 rfl) ?_
   refine Mi rfl ?_
   refine L1 (bi rfl rfl (bn_gtr (v := false) (decide_eq_false (by omega)))) ?_
   refine Mb rfl ?_
   refine Lskip (t := 82) (b := true) rfl (by decide) rfl ?_
   refine Lskip (t := 82) (b := true) rfl (by decide) rfl ?_
   refine Lskip (t := 82) (b := true) rfl (by decide) rfl ?_
   refine Lskip (t := 82) (b := true) rfl (by decide) rfl ?_
   refine Lskip (t := 82) (b := true) rfl (by decide) rfl ?_
   refine L1 (pk_f rfl rfl) ?_
   refine nt ?_
   refine cond_f rfl ?_
   refine skn ?_
   refine sqr ?_
   refine L1 (mv (v := (.slice sa l.length sc)) rfl) ?_
   refine L1 (asg (v := (.slice sa l.length sc)) rfl) ?_
   refine nt ?_
   refine wp_ret ?_
   refine ret1 rfl rfl ?_
   exact ⟨_, rfl, kpX, l, _, rfl, hS, fun k hk => by have := hso k hk; omega, .inr (.inl ⟨hrd, hB, kp⟩)⟩
  ·skip
   by_cases hlt2 : n < l.length
   ·skip
    refine wp_seq ?_
    refine sqr ?_
    refine L1 (mv (v := (.slice sa l.length sc)) rfl) ?_
    refine L1 (ln und24 rfl) ?_
    refine Mi rfl ?_
    refine L1 (bi rfl rfl (bn_lss (v := false) (decide_eq_false (by omega)))) ?_
    refine Mb rfl ?_
    refine Lskip (t := 16) (b := true) rfl (by decide) rfl ?_
    refine Lskip (t := 16) (b := true) rfl (by decide) rfl ?_
    refine Lskip (t := 16) (b := true) rfl (by decide) rfl ?_
    refine Lskip (t := 16) (b := true) rfl (by decide) rfl ?_
    refine Lskip (t := 16) (b := true) rfl (by decide) rfl ?_
    refine L1 (pk_f rfl rfl) ?_
    refine nt ?_
    refine cond_f rfl ?_
    refine wp_exit ?_
    refine then_e ?_
    refine then_e ?_
    refine inb_same ?_
    refine then_n ?_
    refine wp_seq ?_
    refine sqr ?_
    refine L1 (mv (v := (.slice sa l.length sc)) rfl) ?_
    refine L1 (ln und24 rfl) ?_
    refine Mi rfl ?_
    refine L1 (bi rfl rfl (bn_gtr (v := true) (decide_eq_true (by omega)))) ?_
    refine Mb rfl ?_
    refine L1g (t := 82) (b := true) rfl (by decide) rfl (mv (v := .pointer _) rfl) ?_
    refine L1g (t := 82) (b := true) rfl (by decide) rfl (nilP rfl) ?_
    refine L1g (t := 82) (b := true) rfl (by decide) rfl (fa53_4 rfl) ?_
    refine L1g (t := 82) (b := true) rfl (by decide) rfl (ld3 rfl (hB.cellv (v := .int _ _) (by decide) rfl)) ?_
    refine L1g (t := 82) (b := true) rfl (by decide) rfl (bi rfl rfl (bn_eql (v := false) (decide_eq_false (by decide)))) ?_
    refine L1 (pk_t rfl rfl) ?_
    refine nt ?_
    refine cond_f rfl ?_
    refine skn ?_
    refine sqr ?_
    refine L1 (mv (v := (.slice sa l.length sc)) rfl) ?_
    refine L1 (asg (v := (.slice sa l.length sc)) rfl) ?_
    refine nt ?_
    refine wp_ret ?_
    refine ret1 rfl rfl ?_
    exact ⟨_, rfl, kpX, l, _, rfl, hS, fun k hk => by have := hso k hk; omega, .inr (.inl ⟨hrd, hB, kp⟩)⟩
   ·skip
    refine wp_seq ?_
    refine sqr ?_
    refine L1 (mv (v := (.slice sa l.length sc)) rfl) ?_
    refine L1 (ln und24 rfl) ?_
    refine Mi rfl ?_
    refine L1 (bi rfl rfl (bn_lss (v := false) (decide_eq_false (by omega)))) ?_
    refine Mb rfl ?_
    refine Lskip (t := 16) (b := true) rfl (by decide) rfl ?_
    refine Lskip (t := 16) (b := true) rfl (by decide) rfl ?_
    refine Lskip (t := 16) (b := true) rfl (by decide) rfl ?_
    refine Lskip (t := 16) (b := true) rfl (by decide) rfl ?_
    refine Lskip (t := 16) (b := true) rfl (by decide) rfl ?_
    refine L1 (pk_f rfl rfl) ?_
    refine nt ?_
    refine cond_f rfl ?_
    refine wp_exit ?_
    refine then_e ?_
    refine then_e ?_
    refine inb_same ?_
    refine then_n ?_
    refine wp_seq ?_
    refine sqr ?_
    refine L1 (mv (v := (.slice sa l.length sc)) rfl) ?_
    refine L1 (ln und24 rfl) ?_
    refine Mi rfl ?_
    refine L1 (bi rfl rfl (bn_gtr (v := false) (decide_eq_false (by omega)))) ?_
    refine Mb rfl ?_
    refine Lskip (t := 82) (b := true) rfl (by decide) rfl ?_
    refine Lskip (t := 82) (b := true) rfl (by decide) rfl ?_
    refine Lskip (t := 82) (b := true) rfl (by decide) rfl ?_
    refine Lskip (t := 82) (b := true) rfl (by decide) rfl ?_
    refine Lskip (t := 82) (b := true) rfl (by decide) rfl ?_
    refine L1 (pk_f rfl rfl) ?_
    refine nt ?_
    refine cond_f rfl ?_
    refine skn ?_
    refine sqr ?_
    refine L1 (mv (v := (.slice sa l.length sc)) rfl) ?_
    refine L1 (asg (v := (.slice sa l.length sc)) rfl) ?_
    refine nt ?_
    refine wp_ret ?_
    refine ret1 rfl rfl ?_
    exact ⟨_, rfl, kpX, l, _, rfl, hS, fun k hk => by have := hso k hk; omega, .inr (.inl ⟨hrd, hB, kp⟩)⟩
theorem lengths_s {w0 w : World} {X : Nat} {dv ov : Value} {data : List Nat} {p base st edge : Nat} (hE : RE w0 dv data X) (hW : RW w0 w X dv p ov base st edge) (hst : st ≠ 0) (lv cv sv0 : Value) (n : Nat) (hn : 1 ≤ n) :
  Ret 33 [px X, .agg #[lv, cv, sv0], .int .i64 (n : Int)] w fun v w' => Kp [X] w w' ∧ (∃ a c, v = .slice a 0 c) ∧ RW w0 w' X dv p ov base st edge := by
 obtain ⟨hB, kp⟩ := hW
 have hXn := hE.hX
 have kpX := Kp.refl [X] w
 have hBl := hB.lt
 refine calls_fr (N := 93) Tryd.func33 rfl rfl (by simp [px]) rfl ?_
 refine sqr ?_
 refine L1 (bx56 rfl) ?_
 have hkb := (Kp.refl [] w).alloc (.cells #[lv, cv, sv0] 56)
 have hD : Bk (w.alloc (.cells #[lv, cv, sv0] 56)) w.heap.size 3 56 (c56 lv cv sv0) := Bk.newOf w _ 56 3 _ rfl
 have hB := hB.kp hkb (by simp)
 have kp := kp.trans hkb
 have kpX := kpX.trans (hkb.mono (by simp))
 obtain ⟨Db, hDb⟩ : ∃ Db, w.heap.size = Db := ⟨_, rfl⟩
 rw [hDb] at hD ⊢
 have hXD : X ≠ Db := by omega
 refine L1 (asg (v := .slice _ _ _) rfl) ?_
 refine nt ?_
 refine sqr ?_
 refine L1 bsi0 ?_
 have hDl := hD.lt
 have hS := Go.Proofs.YtejeloeaklpinaaDoor.sv0 (w.alloc (.cells #[lv, cv, sv0] 56))
 have hsz := hkb.size
 have hso : ∀ k, (Value.slice (some ⟨(w.alloc (.cells #[lv, cv, sv0] 56)).heap.size, 0, none⟩) 0 0).ownBlock = some k → Db < k := by intro k hk; simp only [Value.ownBlock, Option.some.injEq] at hk; omega
 have hk0 := (Kp.refl [] (w.alloc (.cells #[lv, cv, sv0] 56))).alloc (.cells #[] 3)
 have hD := hD.kp hk0 (by simp)
 have hB := hB.kp hk0 (by simp)
 have kp := kp.trans hk0
 have kpX := kpX.trans (hk0.mono (by simp))
 refine L1 (asg (v := .slice _ _ _) rfl) ?_
 refine nt ?_
 refine wp_seq ?_
 refine wp_block ?_
 refine loop_fr (fun k f w' => f 0 = .pointer (some ⟨X, 0, none⟩) ∧ f 2 = .int .i64 ((n : Nat) : Int) ∧ f 4 = .pointer (some ⟨Db, 0, none⟩) ∧ ∃ (sv : Value), f 7 = sv ∧ Sv w' sv (natv ([])) ∧ (∀ k, sv.ownBlock = some k → Db < k) ∧ Bk w' Db 3 56 (c56 lv cv sv0) ∧ Kp [] w0 w' ∧ Kp [X] w w' ∧ Bk w' X 6 53 (rx dv p ov base st edge)) 0 ⟨rfl, rfl, rfl, _, rfl, hS, hso, hD, kp, kpX, hB⟩ ?_
 clear hS hso hD hB kp kpX hkb hk0
 intro k f w1 HJ
 obtain ⟨s0, s2, s4, sv, s7, hS, hso, hD, kp, kpX, hB⟩ := HJ
 obtain ⟨sa, sc, rfl⟩ := hS.val
 refine slots (fc s0 (fc s2 (fc s4 (fc s7 fnil)))) ?_
 refine wp_seq ?_
 refine sqr ?_
 refine L1 (mv (v := (.slice sa (natv []).length sc)) rfl) ?_
 refine L1 (ln und24 rfl) ?_
 refine Mi rfl ?_
 refine L1 (bi rfl rfl (bn_lss (v := true) (decide_eq_true (by simp [natv]; omega)))) ?_
 refine Mb rfl ?_
 refine L1g (t := 16) (b := true) rfl (by decide) rfl (mv (v := .pointer _) rfl) ?_
 refine L1g (t := 16) (b := true) rfl (by decide) rfl (nilP rfl) ?_
 refine L1g (t := 16) (b := true) rfl (by decide) rfl (fa53_4 rfl) ?_
 refine L1g (t := 16) (b := true) rfl (by decide) rfl (ld3 rfl (hB.cellv (v := .int _ _) (by decide) rfl)) ?_
 refine L1g (t := 16) (b := true) rfl (by decide) rfl (bi rfl rfl (bn_eql (v := false) (decide_eq_false (by omega)))) ?_
 refine L1 (pk_t rfl rfl) ?_
 refine nt ?_
 refine cond_f rfl ?_
 refine wp_exit ?_
 refine then_e ?_
 refine then_e ?_
 refine inb_same ?_
 refine then_n ?_
 refine wp_seq ?_
 refine sqr ?_
 refine L1 (mv (v := (.slice sa (natv []).length sc)) rfl) ?_
 refine L1 (ln und24 rfl) ?_
 refine Mi rfl ?_
 refine L1 (bi rfl rfl (bn_gtr (v := false) (decide_eq_false (by simp [natv])))) ?_
 refine Mb rfl ?_
 refine Lskip (t := 82) (b := true) rfl (by decide) rfl ?_
 refine Lskip (t := 82) (b := true) rfl (by decide) rfl ?_
 refine Lskip (t := 82) (b := true) rfl (by decide) rfl ?_
 refine Lskip (t := 82) (b := true) rfl (by decide) rfl ?_
 refine Lskip (t := 82) (b := true) rfl (by decide) rfl ?_
 refine L1 (pk_f rfl rfl) ?_
 refine nt ?_
 refine cond_f rfl ?_
 refine skn ?_
 refine sqr ?_
 refine L1 (mv (v := (.slice sa (natv []).length sc)) rfl) ?_
 refine L1 (asg (v := (.slice sa (natv []).length sc)) rfl) ?_
 refine nt ?_
 refine wp_ret ?_
 refine ret1 rfl rfl ?_
 exact ⟨_, rfl, kpX, ⟨_, _, rfl⟩, hB, kp⟩
end Go.Proofs.YtejeloeaklpinaaDoor
namespace Go.Proofs.YtejeloeaklpinaaDoor
section
variable {P : Program} {ops : Array Oper} {md : Region.Mode} {Q : Act → World → Prop} {n : Nat} {listed : Array Bool} {N : Nat} {L : List (Nat × Value)} {B f : Nat → Value} {w w' : World}
 {i d : Nat} {op : Op} {ty : TypeId} {pos : String} {af : Array Edge} {v : Value}
/-- Whatever its worlds. -/
def All (_ : World) : Prop := True
theorem br_nil {a : Act} (h0 : (Region.ready md ops listed).isEmpty = true) (h : Q a w) : aE P md ops All Q 0 listed a w := ⟨by simpa using h0, h⟩
theorem br_p (i : Nat) (hi : ops[i]? = some ⟨some d, op, ty, pos, af, none⟩) (hB : (Region.noSelect ops && (Region.ready md ops listed).contains i && Region.free md ops listed i) = true)
  (h : ∀ w, (execOp (ev N (fl L B)) ⟨some d, op, ty, pos, af, none⟩).run P w = .ok (.value v) w) (k : aE P md ops All Q n (listed.setIfInBounds i true) (fr N (fl ((d, v) :: L) B)) w) : aE P md ops All Q (n + 1) listed (fr N (fl L B)) w := by
 simp only [Bool.and_eq_true] at hB
 refine aE_first (v := v) hi (Region.noSelect_spec hB.1.1) n listed _ w trivial (Region.free_spec hi hB.2) (by simpa using hB.1.2) (fun w' _ => .inl ⟨rfl, .inl ?_⟩) ?_
 ·rw [fr_eval]; exact h w'
 ·rw [fr_put]; exact k
theorem br_1 (i : Nat) {a : Act} (hr : decide (Region.ready md ops listed = [i]) = true) (h : eOp P ops All i (aE P md ops All Q n (listed.setIfInBounds i true)) a w) : aE P md ops All Q (n + 1) listed a w := by
 have hr := of_decide_eq_true hr
 refine ⟨fun h0 => (by rw [hr] at h0; cases h0), fun j hj => ?_⟩
 rw [hr] at hj
 have : j = i := by simpa using hj
 subst this; exact h
theorem br_2 (i j : Nat) {a : Act} (hr : decide (Region.ready md ops listed = [i, j]) = true) (h : eOp P ops All i (aE P md ops All Q n (listed.setIfInBounds i true)) a w) (h2 : eOp P ops All j (aE P md ops All Q n (listed.setIfInBounds j true)) a w) : aE P md ops All Q (n + 1) listed a w := by
 have hr := of_decide_eq_true hr
 refine ⟨fun h0 => (by rw [hr] at h0; cases h0), fun k hk => ?_⟩
 rw [hr] at hk
 have : k = i ∨ k = j := by simpa using hk
 rcases this with rfl | rfl
 ·exact h
 ·exact h2
theorem br_3 (i j l : Nat) {a : Act} (hr : decide (Region.ready md ops listed = [i, j, l]) = true) (h : eOp P ops All i (aE P md ops All Q n (listed.setIfInBounds i true)) a w) (h2 : eOp P ops All j (aE P md ops All Q n (listed.setIfInBounds j true)) a w)
  (h3 : eOp P ops All l (aE P md ops All Q n (listed.setIfInBounds l true)) a w) : aE P md ops All Q (n + 1) listed a w := by
 have hr := of_decide_eq_true hr
 refine ⟨fun h0 => (by rw [hr] at h0; cases h0), fun k hk => ?_⟩
 rw [hr] at hk
 have : k = i ∨ k = j ∨ k = l := by simpa using hk
 rcases this with rfl | rfl | rfl
 ·exact h
 ·exact h2
 ·exact h3
variable {K : Act → World → Prop}
theorem e_v (hi : ops[i]? = some ⟨some d, op, ty, pos, af, none⟩) (h : (execOp (ev N (fl L B)) ⟨some d, op, ty, pos, af, none⟩).run P w = .ok (.value v) w') (k : K (fr N (fl ((d, v) :: L) B)) w') : eOp P ops All i K (fr N (fl L B)) w := by
 unfold eOp
 simp only [hi]
 unfold eOper
 rw [if_pos (by rfl), fr_eval, h]
 simp only [uponE]
 rw [fr_put]
 exact ⟨trivial, k⟩
theorem e_0 (hi : ops[i]? = some ⟨none, op, ty, pos, af, none⟩) (h : (execOp (ev N f) ⟨none, op, ty, pos, af, none⟩).run P w = .ok .skip w') (k : K (fr N f) w') : eOp P ops All i K (fr N f) w := by
 unfold eOp
 simp only [hi]
 unfold eOper
 rw [if_pos (by rfl), fr_eval, h]
 exact ⟨trivial, k⟩
theorem e_c {g : FuncId} {args : Array Value} {R : Value → World → Prop} (hi : ops[i]? = some ⟨some d, op, ty, pos, af, none⟩) (h : (execOp (ev N (fl L B)) ⟨some d, op, ty, pos, af, none⟩).run P w = .ok (.enter g args) w')
  (hc : Calls P g args w' fun e w2 => ∃ v, e = .returned v ∧ R v w2) (k : ∀ v w2, R v w2 → K (fr N (fl ((d, v) :: L) B)) w2) : eOp P ops All i K (fr N (fl L B)) w := by
 unfold eOp
 simp only [hi]
 unfold eOper
 rw [if_pos (by rfl), fr_eval, h]
 simp only [uponE]
 refine hc.mono fun e w2 ⟨v, he, hr⟩ => ⟨v, he, trivial, ?_⟩
 rw [fr_put]
 exact k v w2 hr
end
theorem reg_br {P : Program} {Q : Exit → Act → World → Prop} {N : Nat} {f : Nat → Value} {w : World} {id : Nat} {l : List Oper} (n : Nat) (M : (Nat → Value) → World → Prop) (hm : P.follows .mixedOrders = true) (hn : decide (l.length = n) = true)
  (h : aE P .any l.toArray All (fun a w => ∃ f, a = fr N f ∧ M f w) n (Array.replicate n false) (fr N f) w.drew) (k : ∀ f w, M f w → Q .normal (fr N f) w) : (Code.region id l.toArray true).wp P Q (fr N f) w := by
 have hn := of_decide_eq_true hn
 refine wp_region_any hm (wpAny_of_aE (C := All) (Q := fun a w => ∃ f, a = fr N f ∧ M f w) (fun a w hq => ?_) _ _ _ _ ?_)
 ·obtain ⟨f, rfl, hM⟩ := hq
  exact k f w hM
 ·have e : l.toArray.size = n := by simpa using hn
  rw [e]
  exact h
section
variable {ops : Array Oper} {K : Act → World → Prop} {N : Nat} {L : List (Nat × Value)} {B f : Nat → Value} {w : World} {i dd : Nat} {x y : Operand} {ty : TypeId} {pos : String} {af : Array Edge} {b : Nat} {T : TypeId} {g : Nat → Value} {v0 v1 v2 : Value}
theorem e_al56 (hi : ops[i]? = some ⟨some dd, .alloc 56, ty, pos, af, none⟩) (k : ∀ X w1, w.heap.size = X → Bk w1 X 3 56 (fun _ => .slice none 0 0) → Kp [] w w1 → w1.heap.size = X + 1 → K (fr N (fl ((dd, .pointer (some ⟨X, 0, none⟩)) :: L) B)) w1) :
  eOp Tryd.prog ops All i K (fr N (fl L B)) w := by
 obtain ⟨Z, hZ, hr⟩ : ∃ Z : Array Value, Z.toList = (List.range 3).map (fun _ => .slice none 0 0) ∧ ∀ (ρ : Operand → Value) (w : World), (execOp ρ ⟨some dd, .alloc 56, ty, pos, af, none⟩).run Tryd.prog w = .ok (.value (.pointer (some ⟨w.heap.size, 0, none⟩))) (w.alloc (.cells Z 56)) :=
  ⟨(((Tryd.prog.info? 56).bind (·.zero)).map (·.cells)).getD #[], by kernel_rfl, fun ρ w => by kernel_rfl⟩
 exact e_v hi (hr _ _) (k _ _ rfl (Bk.newOf w Z 56 3 _ hZ) ((Kp.refl [] w).alloc _) (by simp))
theorem e_st56 (hi : ops[i]? = some ⟨none, .store 56 x y, ty, pos, af, none⟩) (hx : ev N f x = .pointer (some ⟨b, 0, none⟩)) (hy : ev N f y = .agg #[v0, v1, v2]) (h1 : v0.oneCell' = true ∧ v1.oneCell' = true ∧ v2.oneCell' = true) (hB : Bk w b 3 T g)
  (k : ∀ w1, Bk w1 b 3 T (c56 v0 v1 v2) → Kp [b] w w1 → w1.heap.size = w.heap.size → K (fr N f) w1) : eOp Tryd.prog ops All i K (fr N f) w := by
 obtain ⟨w1, hr, h2, h3, h4⟩ := run_st56 (ty := ty) (pos := pos) (af := af) hx hy h1 hB
 exact e_0 hi hr (k w1 h2 h3 h4)
theorem e_st (t : TypeId) (ht : ∀ w, (sizeOf t).run Tryd.prog w = .ok 1 w) {k n : Nat} {v : Value} (hi : ops[i]? = some ⟨none, .store t x y, ty, pos, af, none⟩) (hx : ev N f x = .pointer (some ⟨b, k, none⟩)) (hy : ev N f y = v) (h1 : v.oneCell' = true) (hB : Bk w b n T g) (hk : k < n)
  (H : ∀ w1, Bk w1 b n T (upd g k v) → Kp [b] w w1 → K (fr N f) w1) : eOp Tryd.prog ops All i K (fr N f) w := by
 exact e_0 hi (st_any t (ht w) hx hy h1 (hB.cell hk) (hB.frozen _)) (H _ (hB.set k v) ((Kp.refl [b] w).setCell (by simp) v))
end
/-- A list of ints cut in two. -/
theorem Sv.cut {w : World} {v : Value} {l : List Nat} (h : Sv w v (natv l)) {n : Nat} (hn : n < l.length) : ∃ b c, v = .slice (some ⟨b, 0, none⟩) l.length c ∧ l.length ≤ c ∧ AgN w [b] (.slice (some ⟨b, 0, none⟩) n c) (l.take n) ∧ AgN w [b] (.slice (cutA (some ⟨b, 0, none⟩) n c) (l.length - n) (c - n)) (l.drop n) := by
 rcases h with ⟨_, h2⟩ | ⟨b, cap, g, rfl, hB, hc, hm, hg⟩
 ·have := congrArg List.length h2
  rw [natv_len] at this
  simp at this
  subst this
  simp at hn
 ·rw [natv_len] at hc hg ⊢
  have hcell : ∀ j, j < l.length → w.cell? ⟨b, j, none⟩ = some (.int .i64 ((l.getD j 0 : Nat) : Int)) := fun j hj => hB.cellv (by omega) (by rw [hg j hj, natv_get l hj])
  refine ⟨b, cap, rfl, hc, ⟨_, cap, by rw [List.length_take, Nat.min_eq_left (by omega)], fun j hj => ⟨_, rfl, by rw [Addr.add_lit]; exact List.mem_singleton.2 rfl, ?_⟩⟩, ⟨_, cap - n, by rw [List.length_drop], fun j hj => ?_⟩⟩
  ·rw [List.length_take] at hj
   rw [Addr.add_lit, Nat.zero_add, hcell j (by omega), List.getD_eq_getElem?_getD, List.getD_eq_getElem?_getD, List.getElem?_take, if_pos (by omega)]
  ·rw [List.length_drop] at hj
   rw [cutA_lt b 0 n cap (by omega)]
   refine ⟨_, rfl, by rw [Addr.add_lit]; exact List.mem_singleton.2 rfl, ?_⟩
   rw [Addr.add_lit, show 0 + n + j = n + j by omega, hcell (n + j) (by omega), List.getD_eq_getElem?_getD, List.getD_eq_getElem?_getD, List.getElem?_drop]
/-- So many bits, the state told in one. -/
theorem bits_r2 {w0 w : World} {X : Nat} {dv ov : Value} {data : List Nat} {bit base st edge : Nat} (hE : RE w0 dv data X) (hW : RW w0 w X dv bit ov base st edge) (hb : bit ≤ 8 * data.length) (n : Nat) (hn : n ≤ 16) :
  Ret 19 [px X, .int .i64 (n : Int)] w fun v w' => ∃ z p' st' : Nat, v = .int .i64 (z : Int) ∧ Kp [X] w w' ∧ z < 2 ^ n ∧ p' ≤ 8 * data.length ∧ RW w0 w' X dv p' ov base st' edge ∧
   ((bit + n ≤ 8 * data.length ∧ z = bv (srcOf data).D bit n ∧ p' = bit + n ∧ st' = st) ∨ (8 * data.length < bit + n ∧ z = 0 ∧ p' = 8 * data.length ∧ st' = sh st)) := by
 intro cs
 obtain ⟨e, w', fr, ⟨v, he, hk, h⟩, c⟩ := bits_r hE hW hb n hn cs
 refine ⟨e, w', fr, ⟨v, he, ?_⟩, c⟩
 rcases h with ⟨h1, h2, h3⟩ | ⟨h1, h2, h3⟩
 ·exact ⟨_, _, _, h2, hk, bv_lt _ _ _, h1, h3, .inl ⟨h1, rfl, rfl, rfl⟩⟩
 ·exact ⟨0, _, _, h2, hk, Nat.two_pow_pos _, Nat.le_refl _, h3, .inr ⟨h1, rfl, rfl, rfl⟩⟩
/-- What lies in the cells of the lengths of the codes by which lengths are told. -/
theorem CL.put {cs : Nat → Value} {f : Nat → Nat} {i x : Nat} (h : CL cs f i 19) (hi : i < 19) (hx : x ≤ 7) : CL (upd cs (ordN i) (.int .i64 (x : Int))) (fun j => if j = ordN i then x else f j) (i + 1) 19 := by
 refine ⟨fun k hk => ?_, fun k hk hk2 => ?_, fun j => ?_⟩
 ·unfold upd
  by_cases hki : k = i
  ·subst hki; rw [if_pos rfl]; simp
  ·have hne : ordN k ≠ ordN i := fun e => hki (ordN_inj k (by omega) i hi e)
   rw [if_neg hne]
   show cs (ordN k) = Value.int .i64 ((if ordN k = ordN i then x else f (ordN k) : Nat) : Int)
   rw [if_neg hne]
   exact h.cell k (by omega)
 ·have hne : ordN k ≠ ordN i := fun e => by have := ordN_inj k hk2 i hi e; omega
  show (if ordN k = ordN i then x else f (ordN k)) = 0
  rw [if_neg hne]
  exact h.zero k (by omega) hk2
 ·show (if j = ordN i then x else f j) ≤ 7
  split
  ·exact hx
  ·exact h.le j
theorem CL.zeros : CL (fun _ => .int .i64 0) (fun _ => 0) 0 19 := ⟨fun _ _ => rfl, fun _ _ _ => rfl, fun _ => Nat.zero_le _⟩
theorem CL.agn {w : World} {b : Nat} {cs : Nat → Value} {f : Nat → Nat} {i : Nat} (h : CL cs f i 19) (hB : Bk w b 19 3 cs) : AgN w [b] (.slice (some ⟨b, 0, none⟩) 19 19) ((List.range 19).map f) :=
 hB.agn (List.mem_singleton.2 rfl) (by simp) (fun j hj => h.all j hj)
section
variable {S : Src} {a : A}
/-- An end of the head of a block that is not good. -/
def DnE (S : Src) (a : A) (q st : Nat) : Prop := (st = 2 ∧ q = 8 * S.N ∧ mDyn S a = (a.short S, true)) ∨ (st = 1 ∧ ∃ q' pos', mDyn S a = ({ a with p := q', pos := pos' }.bad, true)) ∨ st = 3
theorem bv14 (D p : Nat) : bv D p 14 % 32 = bv D p 5 ∧ bv D p 14 / 32 % 32 = bv D (p + 5) 5 ∧ bv D p 14 / 1024 = bv D (p + 10) 4 := by
 refine ⟨bv_mod D p 14 5 (by decide), ?_, bv_shift D p 14 10 (by decide)⟩
 have h1 := bv_shift D p 14 5 (by decide)
 have h2 := bv_mod D (p + 5) 9 5 (by decide)
 rw [show (32 : Nat) = 2 ^ 5 from rfl, h1, h2]
/-- The three numbers at the head. -/
theorem head3 {p n1 n2 n3 p1 p2 p3 s1 s2 s3 : Nat} (h1 : (p + 5 ≤ 8 * S.N ∧ n1 = bv S.D p 5 ∧ p1 = p + 5 ∧ s1 = 0) ∨ (8 * S.N < p + 5 ∧ n1 = 0 ∧ p1 = 8 * S.N ∧ s1 = sh 0))
  (h2 : (p1 + 5 ≤ 8 * S.N ∧ n2 = bv S.D p1 5 ∧ p2 = p1 + 5 ∧ s2 = s1) ∨ (8 * S.N < p1 + 5 ∧ n2 = 0 ∧ p2 = 8 * S.N ∧ s2 = sh s1)) (h3 : (p2 + 4 ≤ 8 * S.N ∧ n3 = bv S.D p2 4 ∧ p3 = p2 + 4 ∧ s3 = s2) ∨ (8 * S.N < p2 + 4 ∧ n3 = 0 ∧ p3 = 8 * S.N ∧ s3 = sh s2)) (ha : a.p = p) :
  (p + 14 ≤ 8 * S.N ∧ s3 = 0 ∧ p3 = p + 14 ∧ 257 + n1 = nL S a ∧ 1 + n2 = nD S a ∧ 4 + n3 = nC S a) ∨ (8 * S.N < p + 14 ∧ s3 = 2 ∧ p3 = 8 * S.N) := by
 obtain ⟨e1, e2, e3⟩ := bv14 S.D p
 rcases h1 with ⟨a1, a2, a3, a4⟩ | ⟨a1, a2, a3, a4⟩
 ·subst a3 a4
  rcases h2 with ⟨b1, b2, b3, b4⟩ | ⟨b1, b2, b3, b4⟩
  ·subst b3 b4
   rcases h3 with ⟨c1, c2, c3, c4⟩ | ⟨c1, c2, c3, c4⟩
   ·refine .inl ⟨by omega, c4, by omega, ?_, ?_, ?_⟩
    ·unfold nL dv; rw [ha]; omega
    ·unfold nD dv; rw [ha]; omega
    ·unfold nC dv; rw [ha]
     rw [show p + 5 + 5 = p + 10 by omega] at c2
     omega
   ·exact .inr ⟨by omega, c4, c3⟩
  ·have : s2 = 2 := b4
   subst this
   rcases h3 with ⟨c1, c2, c3, c4⟩ | ⟨c1, c2, c3, c4⟩
   ·omega
   ·exact .inr ⟨by omega, c4, c3⟩
 ·have : s1 = 2 := a4
  subst this
  rcases h2 with ⟨b1, b2, b3, b4⟩ | ⟨b1, b2, b3, b4⟩
  ·omega
  ·have : s2 = 2 := b4
   subst this
   rcases h3 with ⟨c1, c2, c3, c4⟩ | ⟨c1, c2, c3, c4⟩
   ·omega
   ·exact .inr ⟨by omega, c4, c3⟩
theorem clLens_none2 {i k p pos : Nat} {f : Nat → Nat} {p0 pos0 : Nat} {f0 : Nat → Nat} (h : clLens S i p0 pos0 f0 = some (f, p, pos)) (h3 : 8 * S.N < p + 3) (hik : i < k) : clLens S k p0 pos0 f0 = none := by
 have := clLens_mono (clLens_none h h3) (k - (i + 1))
 rwa [show i + 1 + (k - (i + 1)) = k by omega] at this
/-- What is judged at the end. -/
theorem judged {lit dist : List Nat} (h1 : mx lit ≤ 15) (h2 : mx dist ≤ 15) {st : Nat} (hst : st = jd dist true (jd lit false (if lit.getD 256 0 = 0 then 3 else 0))) :
  (st = 0 ∧ lit.getD 256 0 ≠ 0 ∧ kf lit 15 = 32768 ∧ Rd1 dist ∧ okL dist = true) ∨ (st = 1 ∧ (okL lit = false ∨ okL dist = false)) ∨ st = 3 := by
 by_cases h0 : lit.getD 256 0 = 0
 ·have e3 : jd lit false 3 = 3 := jd_st (by decide)
  have e4 : jd dist true 3 = 3 := jd_st (by decide)
  rw [if_pos h0, e3, e4] at hst
  exact .inr (.inr hst)
 ·rw [if_neg h0] at hst
  rcases jd_three (L := lit) (ds := false) (st := 0) with h | h | h
  ·rw [h] at hst
   rcases jd_three (L := dist) (ds := true) (st := 0) with k | k | k
   ·rw [k] at hst
    exact .inl ⟨hst, h0, jd_lit h1 h, jd_dist h2 k⟩
   ·rw [k] at hst
    exact .inr (.inl ⟨hst, .inr (jd_one h2 k)⟩)
   ·rw [k] at hst
    exact .inr (.inr hst)
  ·rw [h, jd_st (by decide)] at hst
   exact .inr (.inl ⟨hst, .inl (jd_one h1 h)⟩)
  ·rw [h, jd_st (by decide)] at hst
   exact .inr (.inr hst)
end
end Go.Proofs.YtejeloeaklpinaaDoor
