/- The machine goes on: a number that each step lowers, or something is handed on. -/
import Derived.Test.YtejeloeaklpinaaDoorNext2
namespace Go.Proofs.YtejeloeaklpinaaDoor
def rank : Mode → Nat
  | .next => 0
  | .data _ => 1
  | .huff _ _ none => 1
  | .huff _ _ (some _) => 2
def qv (a : A) : Nat :=
  match a.md with
  | .data _ => 8 * a.pos
  | _ => a.p
def mu (S : Src) (a : A) : Nat := 3 * (8 * S.N - qv a) + rank a.md

theorem getBits_ok {S : Src} {p pos n v p' pos' : Nat} (h : getBits S p pos n = .ok v p' pos') : p' = p + n ∧ p + n ≤ 8 * S.N := by
  unfold getBits at h
  split at h
  · rename_i h1; cases h; exact ⟨rfl, h1⟩
  · cases h
theorem getSym_ok {S : Src} {c : Cd} {p pos v p' pos' : Nat} (h : getSym S c p pos = .ok v p' pos') : p < p' ∧ p' ≤ 8 * S.N := by
  unfold getSym at h
  simp only at h
  split at h
  · split at h <;> cases h
  · rename_i h0
    split at h
    · rename_i h1; cases h
      have := Nat.le_max_right c.m (c.lk (S.D / 2 ^ p) % 16)
      exact ⟨by omega, by omega⟩
    · cases h
theorem getLen_ok {S : Src} {x p pos v p' pos' : Nat} (h : getLen S x p pos = .ok v p' pos') : p ≤ p' := by
  unfold getLen at h
  split at h
  · cases h
  · split at h
    · cases h; exact Nat.le_refl _
    · cases hg : getBits S p pos (lenOf x).2 with
      | ok a b c => rw [hg] at h; simp only [Got.bind] at h; cases h; have := getBits_ok hg; omega
      | short => rw [hg] at h; cases h
      | bad => rw [hg] at h; cases h
theorem getDist_ok {S : Src} {hd : Option Cd} {p pos v p' pos' : Nat} (h : getDist S hd p pos = .ok v p' pos') : p ≤ p' := by
  unfold getDist at h
  have key : ∀ (x : Got), (∀ a b c, x = .ok a b c → p ≤ b) → (x.bind fun d p pos =>
      if d < 4 then .ok (d + 1) p pos
      else if d < 30 then (getBits S p pos ((d - 2) / 2)).bind fun x p pos => .ok (2 ^ ((d - 2) / 2 + 1) + 1 + (d % 2 * 2 ^ ((d - 2) / 2) + x)) p pos
      else .bad p pos) = .ok v p' pos' → p ≤ p' := by
    intro x hx h
    cases x with
    | short => cases h
    | bad => cases h
    | ok a b c =>
      have h0 := hx a b c rfl
      simp only [Got.bind] at h
      split at h
      · cases h; exact h0
      · split at h
        · split at h
          · rename_i hg; cases h; have := getBits_ok hg; omega
          · cases h
          · cases h
        · cases h
  refine key _ ?_ h
  intro a b c hx
  cases hd with
  | none =>
    simp only at hx
    cases hg : getBits S p pos 5 with
    | ok a b c => rw [hg] at hx; simp only [Got.bind] at hx; cases hx; have := getBits_ok hg; omega
    | short => rw [hg] at hx; cases hx
    | bad => rw [hg] at hx; cases hx
  | some cd => have := getSym_ok hx; omega
theorem clLens_ok {S : Src} : ∀ (k p pos : Nat) (f f' : Nat → Nat) (p' pos' : Nat), clLens S k p pos f = some (f', p', pos') → p ≤ p'
  | 0, p, pos, f, f', p', pos', h => by simp only [clLens, Option.some.injEq, Prod.mk.injEq] at h; omega
  | k + 1, p, pos, f, f', p', pos', h => by
    simp only [clLens] at h
    cases hc : clLens S k p pos f with
    | none => rw [hc] at h; cases h
    | some x =>
      obtain ⟨f1, p1, q1⟩ := x
      rw [hc] at h
      simp only at h
      have := clLens_ok k p pos f f1 p1 q1 hc
      split at h
      · simp only [Option.some.injEq, Prod.mk.injEq] at h; omega
      · cases h
theorem rdLens_ok {S : Src} {c : Cd} {n : Nat} : ∀ (k : Nat) (l : List Nat) (p pos : Nat) (l' : List Nat) (p' pos' : Nat), rdLens S c n k l p pos = .ok l' p' pos' → p ≤ p'
  | 0, l, p, pos, l', p', pos', h => by simp only [rdLens, Lens.ok.injEq] at h; omega
  | k + 1, l, p, pos, l', p', pos', h => by
    simp only [rdLens] at h
    split at h
    · simp only [Lens.ok.injEq] at h; omega
    · cases hg : getSym S c p pos with
      | short => rw [hg] at h; cases h
      | bad => rw [hg] at h; cases h
      | ok x p1 q1 =>
        rw [hg] at h
        have h1 := getSym_ok hg
        simp only at h
        split at h
        · have := rdLens_ok k _ _ _ _ _ _ h; omega
        · split at h
          · cases h
          · cases hb : getBits S p1 q1 (if x = 16 then 2 else if x = 17 then 3 else 7) with
            | short => rw [hb] at h; cases h
            | bad => rw [hb] at h; cases h
            | ok r p2 q2 =>
              rw [hb] at h
              have h2 := getBits_ok hb
              simp only at h
              generalize (if x = 18 then 11 else 3) + r = rep at h
              split at h
              · cases h
              · have := rdLens_ok k _ _ _ _ _ _ h; omega
theorem lz_length (out : List Nat) (d : Nat) : ∀ k, (lz out d k).length = out.length + k
  | 0 => rfl
  | k + 1 => by simp [lz, lz_length out d k]; omega

/-- What one round leaves. -/
structure Goes (S : Src) (a : A) (x : A × Bool) : Prop where
  e : x.1.e = a.e
  len : a.out.length ≤ x.1.out.length
  fl : x.1.fl = a.fl ∨ x.1.fl = x.1.out.length
  low : x.1.err = 0 → mu S x.1 < mu S a ∨ a.out.length < x.1.fl
  fal : x.2 = false → x.1.err = a.err ∧ mu S x.1 < mu S a ∧ x.1.fl = a.fl
theorem goes_err {S : Src} {a b : A} (he : b.e = a.e) (hl : a.out.length ≤ b.out.length) (hf : b.fl = a.fl ∨ b.fl = b.out.length) (hr : b.err ≠ 0) : Goes S a (b, true) := ⟨he, hl, hf, fun h => absurd h hr, fun h => by cases h⟩
theorem mu_lt {S : Src} {a b : A} (h1 : qv a < 8 * S.N) (h2 : qv a < qv b) (h3 : rank b.md ≤ 2) : mu S b < mu S a := by
  unfold mu; omega
theorem rank_le (m : Mode) : rank m ≤ 2 := by
  cases m with
  | next => simp [rank]
  | data n => simp [rank]
  | huff hl hd c => cases c <;> simp [rank]
theorem goes_finish {S : Src} {a b : A} (he : b.e = a.e) (hl : a.out.length ≤ b.out.length) (hf : b.fl = a.fl ∨ b.fl = b.out.length) (hm : mu S { b with md := .next } < mu S a) : Goes S a (b.finish, true) := by
  unfold A.finish
  split
  · exact ⟨he, hl, .inr rfl, fun h => (by cases h), fun h => (by cases h)⟩
  · exact ⟨he, hl, hf, fun _ => .inl hm, fun h => by cases h⟩
theorem avail_pos (out : List Nat) : 0 < avail out := by unfold avail; have := Nat.mod_lt out.length (show 32768 > 0 by decide); omega
theorem goes_huff {S : Src} {a : A} {hl : Cd} {hd : Option Cd} {c : Option (Nat × Nat)} (hm : a.md = .huff hl hd c) : Goes S a (mHuff S a hl hd c) := by
  have hq : qv a = a.p := by unfold qv; rw [hm]
  have hav := avail_pos a.out
  cases c with
  | none =>
    simp only [mHuff]
    split
    · exact goes_err rfl (Nat.le_refl _) (.inl rfl) (by simp [A.short])
    · exact goes_err rfl (Nat.le_refl _) (.inl rfl) (by simp [A.bad])
    · rename_i v p pos hg
      have h1 := getSym_ok hg
      split
      · split
        · exact ⟨rfl, by simp [A.flush], .inr rfl, fun _ => .inr (by simp [A.flush]), fun h => by cases h⟩
        · have hh := mu_lt (S := S) (a := a) (b := { a with p := p, pos := pos, out := a.out ++ [v], md := .huff hl hd none }) (by omega) (by rw [hq]; exact h1.1) (rank_le _)
          exact ⟨rfl, by simp, .inl rfl, fun _ => .inl hh, fun _ => ⟨rfl, hh, rfl⟩⟩
      · split
        · exact goes_finish rfl (Nat.le_refl _) (.inl rfl) (mu_lt (by omega) (by rw [hq]; exact h1.1) (rank_le _))
        · split
          · exact goes_err rfl (Nat.le_refl _) (.inl rfl) (by simp [A.short])
          · exact goes_err rfl (Nat.le_refl _) (.inl rfl) (by simp [A.bad])
          · rename_i len p2 pos2 hg2
            have h2 := getLen_ok hg2
            split
            · exact goes_err rfl (Nat.le_refl _) (.inl rfl) (by simp [A.short])
            · exact goes_err rfl (Nat.le_refl _) (.inl rfl) (by simp [A.bad])
            · rename_i dist p3 pos3 hg3
              have h3 := getDist_ok hg3
              split
              · exact goes_err rfl (Nat.le_refl _) (.inl rfl) (by simp [A.bad])
              · have hh := mu_lt (S := S) (a := a) (b := { a with p := p3, pos := pos3, md := .huff hl hd (some (len, dist)) }) (by omega) (by rw [hq]; show a.p < p3; omega) (rank_le _)
                exact ⟨rfl, Nat.le_refl _, .inl rfl, fun _ => .inl hh, fun _ => ⟨rfl, hh, rfl⟩⟩
  | some x =>
    obtain ⟨len, dist⟩ := x
    simp only [mHuff]
    split
    · exact ⟨rfl, by simp [A.flush, lz_length], .inr rfl, fun _ => .inr (by simp only [A.flush, lz_length]; omega), fun h => by cases h⟩
    · have hh : mu S { a with out := lz a.out dist len, md := .huff hl hd none } < mu S a := by
        unfold mu
        rw [hq, hm]
        show 3 * (8 * S.N - a.p) + 1 < 3 * (8 * S.N - a.p) + 2
        omega
      exact ⟨rfl, by simp [lz_length], .inl rfl, fun _ => .inl hh, fun _ => ⟨rfl, hh, rfl⟩⟩
theorem goes_data {S : Src} {a : A} {n : Nat} (hm : a.md = .data n) : Goes S a (mData S a n) := by
  have hq : qv a = 8 * a.pos := by unfold qv; rw [hm]
  have hav := avail_pos a.out
  simp only [mData]
  split
  · exact goes_err rfl (by simp [A.short]) (.inl rfl) (by simp [A.short])
  · split
    · exact ⟨rfl, by simp [A.flush], .inr rfl, fun _ => .inr (by simp only [A.flush, List.length_append, bytesAt_length]; omega), fun h => by cases h⟩
    · refine goes_finish rfl (by simp) (.inl rfl) ?_
      unfold mu
      rw [hq, hm]
      show 3 * (8 * S.N - 8 * (a.pos + n)) + 0 < 3 * (8 * S.N - 8 * a.pos) + 1
      omega
theorem goes_dyn {S : Src} {a b0 : A} (h0 : a.p < b0.p) (h1 : qv a = a.p) (h2 : a.p < 8 * S.N) (he : b0.e = a.e) (hl : a.out = b0.out) (hf : b0.fl = a.fl) (hr : b0.err = a.err) : Goes S a (mDyn S b0) := by
  have hl' : a.out.length ≤ b0.out.length := by rw [hl]; exact Nat.le_refl _
  unfold mDyn
  split
  · exact goes_err he hl' (.inl hf) (by simp [A.short])
  · simp only
    split
    · exact goes_err he hl' (.inl hf) (by simp [A.bad])
    · split
      · exact goes_err he hl' (.inl hf) (by simp [A.short])
      · rename_i f p pos hc
        have h3 := clLens_ok _ _ _ _ _ _ _ hc
        split
        · exact goes_err he hl' (.inl hf) (by simp [A.bad])
        · split
          · exact goes_err he hl' (.inl hf) (by simp [A.short])
          · exact goes_err he hl' (.inl hf) (by simp [A.bad])
          · rename_i l p2 pos2 hrl
            have h4 := rdLens_ok _ _ _ _ _ _ _ hrl
            split
            · exact goes_err he hl' (.inl hf) (by simp [A.bad])
            · refine ⟨he, hl', .inl hf, fun _ => .inl (mu_lt (by omega) ?_ (rank_le _)), fun _ => ⟨hr, mu_lt (by omega) ?_ (rank_le _), hf⟩⟩
              · rw [h1]; show a.p < p2; omega
              · rw [h1]; show a.p < p2; omega
theorem goes_stored {S : Src} {a b0 : A} (h0 : a.p < 8 * b0.pos + 1) (h1 : qv a = a.p) (h2 : a.p < 8 * S.N) (he : b0.e = a.e) (hl : a.out = b0.out) (hf : b0.fl = a.fl) (hr : b0.err = a.err) : Goes S a (mStored S b0) := by
  have hl' : a.out.length ≤ b0.out.length := by rw [hl]; exact Nat.le_refl _
  unfold mStored
  split
  · exact goes_err he hl' (.inl hf) (by simp [A.short])
  · split
    · exact goes_err he hl' (.inl hf) (by simp [A.bad])
    · split
      · refine goes_finish he hl' (.inr rfl) (mu_lt (by omega) ?_ (rank_le _))
        rw [h1]; show a.p < 8 * (b0.pos + 4); omega
      · refine ⟨he, hl', .inl hf, fun _ => .inl (mu_lt (by omega) ?_ (rank_le _)), fun _ => ⟨hr, mu_lt (by omega) ?_ (rank_le _), hf⟩⟩
        · rw [h1]; show a.p < 8 * (b0.pos + 4); omega
        · rw [h1]; show a.p < 8 * (b0.pos + 4); omega
theorem goes_mic (S : Src) (a : A) : Goes S a (mic S a) := by
  cases hm : a.md with
  | huff hl hd c => unfold mic; rw [hm]; exact goes_huff hm
  | data n => unfold mic; rw [hm]; exact goes_data hm
  | next =>
    have hq : qv a = a.p := by unfold qv; rw [hm]
    rw [mic_next hm]
    unfold mNext
    split
    · exact goes_err rfl (Nat.le_refl _) (.inl rfl) (by simp [A.short])
    · simp only
      split
      · refine goes_stored ?_ hq (by omega) rfl rfl rfl rfl
        show a.p < 8 * rdTo a.p a.pos 3 + 1
        unfold rdTo; omega
      · split
        · refine ⟨rfl, Nat.le_refl _, .inl rfl, fun _ => .inl (mu_lt (by omega) ?_ (rank_le _)), fun _ => ⟨rfl, mu_lt (by omega) ?_ (rank_le _), rfl⟩⟩
          · rw [hq]; show a.p < a.p + 3; omega
          · rw [hq]; show a.p < a.p + 3; omega
        · split
          · exact goes_dyn (by show a.p < a.p + 3; omega) hq (by omega) rfl rfl rfl rfl
          · exact goes_err rfl (Nat.le_refl _) (.inl rfl) (by simp [A.bad])
/-- What a step leaves. -/
theorem Runs.goes {S : Src} {a b : A} (h : Runs S a b) : a.fl ≤ a.out.length → b.e = a.e ∧ a.fl ≤ b.fl ∧ b.fl ≤ b.out.length ∧ (b.err = 0 → mu S b < mu S a ∨ a.fl < b.fl) ∧ (b.fl = a.fl ∨ b.fl = b.out.length) := by
  induction h with
  | @stop a b h =>
    intro h0
    have hg := goes_mic S a
    rw [h] at hg
    obtain ⟨h1, h2, h3, h4, _⟩ := hg
    simp only at h1 h2 h3 h4
    refine ⟨h1, by rcases h3 with h3 | h3 <;> omega, by rcases h3 with h3 | h3 <;> omega, fun he => ?_, h3⟩
    rcases h4 he with h4 | h4
    · exact .inl h4
    · exact .inr (by omega)
  | @more a b c h _ ih =>
    intro h0
    have hg := goes_mic S a
    rw [h] at hg
    obtain ⟨h1, h2, h3, h4, h5⟩ := hg
    simp only at h1 h2 h3 h4 h5
    obtain ⟨i1, i2, i3, i4, i5⟩ := ih (by rcases h3 with h3 | h3 <;> omega)
    obtain ⟨_, h6, h7⟩ := h5 trivial
    refine ⟨i1.trans h1, by omega, i3, fun he => ?_, by rw [← h7]; exact i5⟩
    rcases i4 he with i4 | i4
    · exact .inl (by omega)
    · exact .inr (by omega)
def meas (S : Src) (a : A) : Nat := if a.e < a.fl ∨ a.err ≠ 0 then 0 else mu S a + 1
theorem meas_lt {S : Src} {a b : A} (h0 : a.fl ≤ a.out.length) (hf : a.e = a.fl) (he : a.err = 0) (h : Runs S a b) (hb : b.err = 0) : meas S b < meas S a := by
  obtain ⟨h1, h2, h3, h4, _⟩ := h.goes h0
  unfold meas
  rw [if_neg (show ¬ (a.e < a.fl ∨ a.err ≠ 0) by omega)]
  split
  · omega
  · rename_i hn
    rcases h4 hb with h4 | h4
    · omega
    · exact absurd (.inl (by omega)) hn
/-- What was handed on and not yet taken is all that was told. -/
def Pend (a : A) : Prop := a.e < a.fl → a.fl = a.out.length
theorem Pend.step {S : Src} {a b : A} (h0 : a.fl ≤ a.out.length) (hf : a.e = a.fl) (h : Runs S a b) : Pend b := by
  obtain ⟨h1, h2, h3, h4, h5⟩ := h.goes h0
  intro hlt
  rcases h5 with h5 | h5
  · omega
  · exact h5
theorem Md.keep {E : Env} {w w' : World} {g g' : Nat → Value} {out : List Nat} {m : Mode} {L : List Nat} (h : Md E w g out m) (k : Kp E.X w w') (o : Off L g g') (hL : ∀ j, j ∈ L → j < 3 ∨ 1035 ≤ j) (h0 : 1046 ∉ L ∧ 1050 ∉ L ∧ 1051 ∉ L ∧ 1052 ∉ L ∧ 1053 ∉ L) : Md E w' g' out m := by
  have n : ∀ j, 3 ≤ j → j < 1035 → j ∉ L := fun j a b hm => by have := hL j hm; omega
  cases m with
  | next => exact ⟨h.1.off o ⟨h0.1, h0.2.2.2.2⟩, (o _ h0.2.2.2.1).trans h.2⟩
  | data k =>
    obtain ⟨h1, h2, h3, h4, h5⟩ := h
    exact ⟨h1.off o ⟨h0.1, h0.2.2.2.2⟩, (o _ h0.2.2.2.1).trans h2, h3, (o _ (n _ (by omega) (by omega))).trans h4, (o _ (n _ (by omega) (by omega))).trans h5⟩
  | huff hl hd c =>
    cases c with
    | none =>
      obtain ⟨h1, h2, h3⟩ := h
      exact ⟨h1.keep k o (fun j hm => by have := hL j hm; omega) ⟨h0.2.1, h0.2.2.1⟩, h2.off o ⟨h0.1, h0.2.2.2.2⟩, (o _ h0.2.2.2.1).trans h3⟩
    | some x =>
      obtain ⟨len, dist⟩ := x
      obtain ⟨h1, h2, h3, h4, h5⟩ := h
      exact ⟨h1.keep k o (fun j hm => by have := hL j hm; omega) ⟨h0.2.1, h0.2.2.1⟩, (o _ h0.2.2.2.1).trans h2, h3, (o _ h0.2.2.2.2).trans h4, h5⟩
theorem Live.keep {E : Env} {w w' : World} {g g' : Nat → Value} {a a' : A} {L : List Nat} (h : Live E w g a) (k : Kp E.X w w') (o : Off L g g') (hL : ∀ j, j ∈ L → j < 2 ∨ 1035 ≤ j)
    (h0 : 1046 ∉ L ∧ 1047 ∉ L ∧ 1048 ∉ L ∧ 1050 ∉ L ∧ 1051 ∉ L ∧ 1052 ∉ L ∧ 1053 ∉ L) (ha : a'.p = a.p ∧ a'.pos = a.pos ∧ a'.fin = a.fin ∧ a'.out = a.out ∧ a'.md = a.md) : Live E w' g' a' := by
  obtain ⟨e1, e2, e3, e4, e5⟩ := ha
  have n : ∀ j, 2 ≤ j → j < 1035 → j ∉ L := fun j a b hm => by have := hL j hm; omega
  refine ⟨?_, ?_, (o _ h0.2.2.1).trans h.err, ?_⟩
  · rw [e1, e2]; exact h.B.off o ⟨n _ (by omega) (by omega), n _ (by omega) (by omega), n _ (by omega) (by omega)⟩
  · rw [e3]; exact (o _ h0.2.1).trans h.fin
  · rw [e4, e5]; exact h.md.keep k o (fun j hm => by have := hL j hm; omega) ⟨h0.1, h0.2.2.2⟩
theorem SSm.keep {g g' : Nat → Value} {m : Mode} {L : List Nat} (h : SSm g m) (o : Off L g g') (h0 : 1046 ∉ L) : SSm g' m := by
  cases m with
  | next => trivial
  | data n => trivial
  | huff hl hd c =>
    cases c with
    | none => trivial
    | some x => exact (o _ h0).trans h
theorem Rep.keep {E : Env} {w w' : World} {a : A} (h : Rep E w a) (k : Kp [] w w') : Rep E w' a := by
  obtain ⟨g, hs, bs, cs, hC, he, hl⟩ := h
  refine ⟨g, hs, bs, cs, ⟨hC.W.new k, hC.S, hC.V, hC.D, hC.T, hC.Z⟩, he, fun h0 => ?_⟩
  obtain ⟨h1, h2, h3⟩ := hl h0
  exact ⟨h1.keep (k.mono (by simp)) (Off.refl [] g) (by simp) (by simp) ⟨rfl, rfl, rfl, rfl, rfl⟩, h2, h3⟩
theorem Rep.drew {E : Env} {w : World} {a : A} (h : Rep E w a) : Rep E w.drew a := h.keep (Kp.refl [] w).drew
end Go.Proofs.YtejeloeaklpinaaDoor
