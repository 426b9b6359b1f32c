/- A reader laid anew stands for the machine's start; the buffer and the grown slice put in its place. -/
import Derived.Test.YtejeloeaklpinaaDoorNew2
namespace Go.Proofs.YtejeloeaklpinaaDoor
/-- The machine's start behind a dictionary. -/
def lastW (xs : List Nat) : List Nat := xs.drop (xs.length - 32768)
def A0 (xs : List Nat) : A := ⟨0, 0, lastW xs, false, .next, 0, (lastW xs).length, (lastW xs).length⟩
theorem lastW_length (xs : List Nat) : (lastW xs).length = min xs.length 32768 := by unfold lastW; rw [List.length_drop]; omega
theorem lastW_getD (xs : List Nat) (i : Nat) : (lastW xs).getD i 0 = xs.getD (xs.length - min xs.length 32768 + i) 0 := by
  unfold lastW
  rw [List.getD_eq_getElem?_getD, List.getElem?_drop, ← List.getD_eq_getElem?_getD, show xs.length - 32768 = xs.length - min xs.length 32768 by omega]
attribute [irreducible] lastW
theorem hz_g95 (R bt cb : Nat) (g' : Nat → Value) (o : Off [1037, 1038, 1039, 1040] (gI R bt cb) g') : HZ g' 5 ∧ HZ g' 520 := by
  have e : ∀ j, 5 ≤ j → j < 1035 → g' j = g95 j := by
    intro j h1 h2
    rw [o j (by simp; omega)]
    unfold gI
    rw [upd_ne _ _ _ _ (by omega), upd_ne _ _ _ _ (by omega), upd_ne _ _ _ _ (by omega), upd_ne _ _ _ _ (by omega), upd_ne _ _ _ _ (by omega)]
  constructor
  · refine .inr ⟨(e _ (by omega) (by omega)).trans rfl, fun k hk => (e _ (by omega) (by omega)).trans ?_, (e _ (by omega) (by omega)).trans rfl, (e _ (by omega) (by omega)).trans rfl⟩
    unfold g95
    rw [if_neg (by omega), if_neg (by omega), if_neg (by omega), if_neg (by omega), if_neg (by omega), if_neg (by omega), if_neg (by omega), if_neg (by omega)]
  · refine .inr ⟨(e _ (by omega) (by omega)).trans rfl, fun k hk => (e _ (by omega) (by omega)).trans ?_, (e _ (by omega) (by omega)).trans rfl, (e _ (by omega) (by omega)).trans rfl⟩
    unfold g95
    rw [if_neg (by omega), if_neg (by omega), if_neg (by omega), if_neg (by omega), if_neg (by omega), if_neg (by omega), if_neg (by omega), if_neg (by omega)]
/-- What init has left, as the window's facts. -/
theorem initP_win {E : Env} {w : World} {g g' hs : Nat → Value} {xs : List Nat} (hx : ∀ x ∈ xs, x < 256) (h37 : g' 1037 = .slice (some ⟨E.H, 0, none⟩) 32768 32768)
    (h38 : g' 1038 = .int .i64 ((min xs.length 32768 % 32768 : Nat) : Int)) (h39 : g' 1039 = .int .i64 ((min xs.length 32768 % 32768 : Nat) : Int)) (h40 : g' 1040 = .bool (decide (32768 ≤ xs.length)))
    (hb : ∀ k, k < 32768 → ∃ c : Nat, c < 256 ∧ hs k = .int .u8 c) (hl : ∀ j, j < min xs.length 32768 → hs j = .int .u8 (xs.getD (xs.length - min xs.length 32768 + j) 0)) :
    Win (lastW xs) hs ∧ Dw E g' (lastW xs).length (lastW xs).length ((lastW xs).length % 32768) := by
  have hlen := lastW_length xs
  refine ⟨⟨hb, fun i hi _ => ?_, fun i hi => ?_⟩, ?_⟩
  · rw [hlen] at hi
    rw [Nat.mod_eq_of_lt (by omega), lastW_getD]
    exact hl i hi
  · rw [hlen] at hi
    rw [lastW_getD, List.getD_eq_getElem?_getD, List.getElem?_eq_getElem (show xs.length - min xs.length 32768 + i < xs.length by omega)]
    exact hx _ (List.getElem_mem _)
  · rw [hlen]
    by_cases h : 32768 ≤ xs.length
    · have e : min xs.length 32768 = 32768 := by omega
      rw [e] at h38 h39 ⊢
      rw [Nat.mod_self] at h38 h39 ⊢
      exact ⟨1, 0, by omega, by omega, by omega, by omega, h37, h38, h39, h40.trans (congrArg Value.bool ((decide_eq_true h).trans (decide_eq_true (Nat.lt_succ_self 0)).symm))⟩
    · have e : min xs.length 32768 % 32768 = min xs.length 32768 := Nat.mod_eq_of_lt (by omega)
      rw [e] at h38 h39 ⊢
      exact ⟨0, min xs.length 32768, by omega, by omega, by omega, by omega, h37, h38, h39, h40.trans (congrArg Value.bool ((decide_eq_false h).trans (decide_eq_false (Nat.lt_irrefl 0)).symm))⟩
theorem rep_new (E : Env) (w : World) (xs : List Nat) (bs cs : Nat → Value) (hx : ∀ x ∈ xs, x < 256) (hI : InitP E.F E.H w (gI E.R E.bt E.cb) xs) (hbt : Bk w E.bt 316 97 bs) (hcb : Bk w E.cb 19 98 cs) (hrd : Rd E w 0) (hgl : Gl E w) (hbu : E.buf < w.heap.size ∧ E.own < w.heap.size) : Rep E w (A0 xs) := by
  obtain ⟨g', hs, hF, hH, ho, h37, h38, h39, h40, hb, hl⟩ := hI
  obtain ⟨hV, hD⟩ := initP_win (E := E) (w := w) (g := g') hx h37 h38 h39 h40 hb hl
  have hS : Stc E g' := ⟨(ho 0 (by decide)).trans rfl, (ho 1035 (by decide)).trans rfl, (ho 1036 (by decide)).trans rfl, h37⟩
  have hZ := hz_g95 _ _ _ _ ho
  have hO : (A0 xs).out = lastW xs := rfl
  refine ⟨g', hs, bs, cs, ⟨⟨hF, hH, hbt, hcb, hrd, hgl, hbu⟩, hS, hV, hD, ?_, hZ⟩, .inl ⟨rfl, (ho _ (by decide)).trans rfl⟩, fun _ => ⟨⟨?_, (ho _ (by decide)).trans rfl, (ho _ (by decide)).trans rfl, ?_⟩, (ho _ (by decide)).trans rfl, trivial⟩⟩
  · have e0 : (A0 xs).fl - (A0 xs).e = 0 := Nat.sub_self _
    refine ⟨Nat.le_refl _, none, 0, ((ho _ (by decide)).trans rfl).trans (congrArg (fun n => Value.slice none n 0) e0.symm), by rw [e0]; exact Nat.le_refl _, fun h => absurd h (Nat.lt_irrefl _)⟩
  · exact Bt.zero (pos := 0) ⟨0, (ho _ (by decide)).trans rfl⟩ ((ho _ (by decide)).trans rfl) ((ho _ (by decide)).trans rfl)
  · exact ⟨.inl ((ho _ (by decide)).trans rfl), (ho _ (by decide)).trans rfl⟩

/-- Only the buffer and the grown slice are others. -/
structure SameE (E E' : Env) : Prop where
  B : E'.B = E.B
  aE : E'.aE = E.aE
  aU : E'.aU = E.aU
  F : E'.F = E.F
  R : E'.R = E.R
  S : E'.S = E.S
  H : E'.H = E.H
  bt : E'.bt = E.bt
  cb : E'.cb = E.cb
  N : E'.N = E.N
  d : E'.d = E.d
def Env.re (E : Env) (b o : Nat) : Env := { E with buf := b, own := o }
theorem SameE.re (E : Env) (b o : Nat) : SameE E (E.re b o) := ⟨rfl, rfl, rfl, rfl, rfl, rfl, rfl, rfl, rfl, rfl, rfl⟩
theorem Env.Ok.re {E : Env} (h : E.Ok) (b o : Nat) : (E.re b o).Ok :=
  ⟨h.bF, h.bR, h.bH, h.bbt, h.bcb, h.FR, h.FS, h.FH, h.Fb, h.Fc, h.RS, h.RH, h.Rb, h.Rc, h.SH, h.Sb, h.Sc, h.Hb, h.Hc, h.bc, h.d8, h.N47⟩
theorem Gl.re {E : Env} {w : World} (h : Gl E w) (b o : Nat) : Gl (E.re b o) w :=
  ⟨h.B6, h.le, h.eof, h.ueof, h.ne, h.bE, h.bU, h.hE, h.hU, h.ord⟩
/-- A block that is new, or one of the two. -/
def Fit (E : Env) (w : World) (b : Nat) : Prop := w.heap.size ≤ b ∨ b = E.buf ∨ b = E.own
theorem nX {E : Env} {w : World} {b o x : Nat} (hx : x ∉ E.X) (hlt : x < w.heap.size) (hb : Fit E w b) (ho : Fit E w o) : x ∉ (E.re b o).X := by
  simp only [Env.X, Env.re, List.mem_cons, List.not_mem_nil, or_false, not_or] at hx ⊢
  unfold Fit at hb ho
  obtain ⟨h1, h2, h3, h4, h5, h6, h7⟩ := hx
  refine ⟨h1, h2, h3, h4, h5, ?_, ?_⟩
  · rintro rfl; rcases hb with h | h | h
    · omega
    · exact h6 h
    · exact h7 h
  · rintro rfl; rcases ho with h | h | h
    · omega
    · exact h6 h
    · exact h7 h
theorem HTab.re {E : Env} {w w' : World} {gx : Nat → Value} {o : Nat} {c : Cd} {b1 o1 : Nat} (h : HTab E w gx o c) (k : Kp [] w w') (hb : Fit E w b1) (ho : Fit E w o1) : HTab (E.re b1 o1) w' gx o c := by
  obtain ⟨h0, la, ll, lc, mask, h1, h2, h3, h4⟩ := h
  refine ⟨h0, la, ll, lc, mask, h1, h2, h3, fun x => ?_⟩
  obtain ⟨h5, ch, h6, h7, h8⟩ := h4 x
  refine ⟨h5, ch, h6, h7, ?_⟩
  rcases h8 with h8 | ⟨h8, h9, lb, lo, ib, io, il, ic, h10, h11, h12, h13, h14, h15⟩
  · exact .inl h8
  · exact .inr ⟨h8, h9, lb, lo, ib, io, il, ic, h10, nX h11 (World.block_lt_of_cell? w _ h13) hb ho, nX h12 (World.block_lt_of_cell? w _ h15) hb ho, k.cell h13 (by simp), h14, k.cell h15 (by simp)⟩
theorem HMode.re {E : Env} {w w' : World} {g : Nat → Value} {hl : Cd} {hd : Option Cd} {b1 o1 : Nat} (h : HMode E w g hl hd) (k : Kp [] w w') (hb : Fit E w b1) (ho : Fit E w o1) : HMode (E.re b1 o1) w' g hl hd := by
  cases hd with
  | none =>
    obtain ⟨h1, h2, X, gx, h3, h4, h5, h6⟩ := h
    exact ⟨h1, h2, X, gx, h3, nX h4 h5.lt hb ho, h5.kp k (by simp), h6.re k hb ho⟩
  | some hd =>
    obtain ⟨h1, h2, h3, h4, h5, h6⟩ := h
    exact ⟨h1, h2, h3, h4, h5.re k hb ho, h6.re k hb ho⟩
theorem Rep.re {E : Env} {w w' : World} {a : A} {b1 o1 : Nat} (h : Rep E w a) (k : Kp [] w w') (hb : Fit E w b1) (ho : Fit E w o1) (hb' : b1 < w'.heap.size) (ho' : o1 < w'.heap.size) : Rep (E.re b1 o1) w' a := by
  obtain ⟨g, hs, bs, cs, hC, he, hl⟩ := h
  have hW := hC.W.new k
  refine ⟨g, hs, bs, cs, ⟨⟨hW.F, hW.H, hW.bt, hW.cb, hW.rd, hW.gl.re b1 o1, ⟨hb', ho'⟩⟩, ⟨hC.S.r, hC.S.bt, hC.S.cb, hC.S.hi⟩, hC.V, by obtain ⟨q, rd, q1, q2, q3, q4, q5⟩ := hC.D; exact ⟨q, rd, q1, q2, q3, q4, q5.hist, q5.wr, q5.rd, q5.full⟩, hC.T, hC.Z⟩, he, fun h0 => ?_⟩
  obtain ⟨h1, h2, h3⟩ := hl h0
  refine ⟨⟨⟨h1.B.ro, h1.B.b, h1.B.nb, h1.B.le, h1.B.l32⟩, h1.fin, h1.err, ?_⟩, h2, h3⟩
  have hm := h1.md
  cases hmd : a.md with
  | next => rw [hmd] at hm; exact hm
  | data n => rw [hmd] at hm; exact hm
  | huff hl hd c =>
    rw [hmd] at hm
    cases c with
    | none => exact ⟨hm.1.re k hb ho, hm.2⟩
    | some x => exact ⟨hm.1.re k hb ho, hm.2⟩
theorem Rep.setown {E : Env} {w w' : World} {a : A} (h : Rep E w a) (hO : E.OkO) (k : Kp [E.own] w w') : Rep E w' a := by
  obtain ⟨g, hs, bs, cs, hC, he, hl⟩ := h
  refine ⟨g, hs, bs, cs, ⟨hC.W.setown hO k, hC.S, hC.V, hC.D, hC.T, hC.Z⟩, he, fun h0 => ?_⟩
  obtain ⟨h1, h2, h3⟩ := hl h0
  exact ⟨h1.keep (k.mono (by simp [Env.X])) (Off.refl [] g) (by simp) (by simp) ⟨rfl, rfl, rfl, rfl, rfl⟩, h2, h3⟩
theorem Rep.gl {E : Env} {w : World} {a : A} (h : Rep E w a) : Gl E w := by
  obtain ⟨g, hs, bs, cs, hC, _⟩ := h; exact hC.W.gl
theorem Rep.rd {E : Env} {w : World} {a : A} (h : Rep E w a) : Rd E w a.pos := by
  obtain ⟨g, hs, bs, cs, hC, _⟩ := h; exact hC.W.rd
/-- The code of an error. -/
def code (er : Nat) : Nat := if er = 1 then 0 else if er = 2 then 2 else 1
theorem codeOf_c (E : Env) (w : World) (hG : Gl E w) (er : Nat) (v : Value) (h : ErrV E er v) (h0 : er ≠ 0) : Ret 25 [v] w fun v' w' => v' = .int .i64 ((code er : Nat) : Int) ∧ w' = w := by
  rcases h with ⟨h, _⟩ | ⟨rfl, rfl⟩ | ⟨rfl, rfl⟩ | ⟨rfl, n, rfl⟩
  · exact absurd h h0
  · exact codeOf_eof E w hG
  · exact codeOf_ueof E w hG
  · exact codeOf_cor E w hG n
/-- How great the buffer of round i is. -/
def szAt (szs : List Int) (i : Nat) : Nat := if szs.length = 0 then 512 else if 1 ≤ szs.getD (i % szs.length) 0 then (szs.getD (i % szs.length) 0).toNat else 512
/-- What is read till the end, the error, or too much: from round i on, behind acc. -/
inductive Dr (S : Src) (szs : List Int) : Nat → A → List Nat → List Nat → Nat → A → Prop where
  | stop {i : Nat} {a : A} {acc : List Nat} : 10000 ≤ i → Dr S szs i a acc acc 3 a
  | over {i k er : Nat} {a a' : A} {acc : List Nat} : i < 10000 → Reads S (szAt szs i) a k er a' → 100000 < acc.length + k → Dr S szs i a acc (acc ++ (a'.out.drop (a'.e - k)).take k) 3 a'
  | fin {i k er : Nat} {a a' : A} {acc : List Nat} : i < 10000 → Reads S (szAt szs i) a k er a' → acc.length + k ≤ 100000 → er ≠ 0 → Dr S szs i a acc (acc ++ (a'.out.drop (a'.e - k)).take k) (code er) a'
  | next {i k : Nat} {a a' b : A} {acc r : List Nat} {c : Nat} : i < 10000 → Reads S (szAt szs i) a k 0 a' → acc.length + k ≤ 100000 → Dr S szs (i + 1) a' (acc ++ (a'.out.drop (a'.e - k)).take k) r c b → Dr S szs i a acc r c b
end Go.Proofs.YtejeloeaklpinaaDoor
