/- FnFar: for every dictionary the law answers true, the argument and the listed variables as they were; the listed variables start as the program's text lays them. -/
import Derived.Test.YtejeloeaklpinaaDoorFm5
namespace Go.Proofs.YtejeloeaklpinaaDoor
theorem RI.pre {S : Src} {p q st e e' : Nat} {out z : List Nat} (h : RI S p out e q z st e') : Pre out z := by
 induction h with
 | short => exact Pre.refl _
 | fail _ h => exact h.pre
 | last _ h => exact h.pre
 | more _ h _ _ ih => exact h.pre.trans ih
section
variable {S : Src} {pre z : List Nat} {q st : Nat}
theorem Af.told {fin : Bool} {p1 s1 : Nat} {o1 : List Nat} (h : Af S fin p1 o1 s1 q z st) : Pre o1 z := by
 rcases h with ⟨_, _, rfl, _⟩ | ⟨_, _, _, rfl, _⟩ | ⟨_, _, e, e', h⟩
 ·exact Pre.refl _
 ·exact Pre.refl _
 ·exact h.pre
theorem Af.ne {fin : Bool} {p1 s1 : Nat} {o1 : List Nat} (h : Af S fin p1 o1 s1 q z st) (h0 : s1 ≠ 0) : q = p1 ∧ z = o1 ∧ st = s1 := by
 rcases h with ⟨_, h1, h2, h3⟩ | ⟨h, _⟩ | ⟨h, _⟩
 ·exact ⟨h1, h2, h3⟩
 ·exact absurd h h0
 ·exact absurd h h0
/-- Where the machine is, and what the reference makes of the rest. -/
inductive Vw (S : Src) (pre : List Nat) (q : Nat) (z : List Nat) (st : Nat) : A → Prop
 | next {a : A} {r : List Nat} {e e' : Nat} : a.md = .next → a.err = 0 → a.pos = (a.p + 7) / 8 → a.p ≤ 8 * S.N → Tl pre a.out r → RI S a.p r e q z st e' → Vw S pre q z st a
 | data {a : A} {n p1 s1 : Nat} {r o1 : List Nat} : a.md = .data n → a.err = 0 → a.pos ≤ S.N → Tl pre a.out r →
   ((a.pos + n ≤ S.N ∧ s1 = 0 ∧ p1 = 8 * (a.pos + n) ∧ o1 = r ++ bytesAt S a.pos n) ∨ (S.N < a.pos + n ∧ s1 = 2 ∧ p1 = 8 * S.N ∧ o1 = r ++ bytesAt S a.pos (S.N - a.pos))) →
   Af S a.fin p1 o1 s1 q z st → Vw S pre q z st a
 | huff {a : A} {hl : Cd} {hd : Option Cd} {lit dist r o1 : List Nat} {p1 s1 : Nat} : a.md = .huff hl hd none → a.err = 0 → Co lit dist hl hd → (a.p + 7) / 8 ≤ a.pos → a.pos ≤ (a.p + hl.m + 7) / 8 → a.p ≤ 8 * S.N → Tl pre a.out r →
   RH S lit dist a.p r p1 o1 s1 → Af S a.fin p1 o1 s1 q z st → Vw S pre q z st a
 | copy {a : A} {hl : Cd} {hd : Option Cd} {lit dist r o1 : List Nat} {len d p1 s1 : Nat} : a.md = .huff hl hd (some (len, d)) → a.err = 0 → Co lit dist hl hd → (a.p + 7) / 8 ≤ a.pos → a.pos ≤ (a.p + hl.m + 7) / 8 → a.p ≤ 8 * S.N → Tl pre a.out r →
   1 ≤ d → d ≤ a.out.length → RH S lit dist a.p (lz r d len) p1 o1 s1 → Af S a.fin p1 o1 s1 q z st → Vw S pre q z st a
 | good {a : A} : a.err = 1 → st = 0 → a.pos = (q + 7) / 8 → a.fl = a.out.length → Tl pre a.out z → Vw S pre q z st a
 | short {a : A} {r : List Nat} : a.err = 2 → (st = 2 ∨ st = 1 ∧ 8 * S.N < q + 16) → Tl pre a.out r → Pre r z → Vw S pre q z st a
 | bad {a : A} {r : List Nat} : a.err = 3 → st = 1 → Tl pre a.out r → Pre r z → Vw S pre q z st a
theorem vw_finish {b : A} {o1 : List Nat} (he : b.err = 0) (hp : b.pos = (b.p + 7) / 8) (h8 : b.p ≤ 8 * S.N) (ht : Tl pre b.out o1) (ha : Af S b.fin b.p o1 0 q z st) : Vw S pre q z st b.finish := by
 unfold A.finish
 split
 ·rename_i hf
  rcases ha with ⟨h, _⟩ | ⟨_, _, rfl, rfl, h⟩ | ⟨_, h, _⟩
  ·exact absurd rfl h
  ·exact .good rfl h hp rfl ht
  ·rw [h] at hf; cases hf
 ·rename_i hf
  rcases ha with ⟨h, _⟩ | ⟨_, h, _⟩ | ⟨_, _, e, e', h⟩
  ·exact absurd rfl h
  ·exact absurd h hf
  ·exact .next rfl he hp h8 ht h
theorem gs_dry {L : List Nat} {p m : Nat} (hfull : ∀ x, lkL L x % 16 ≠ 0) (h : 8 * S.N < p + m) (pos : Nat) : getSym S ⟨m, lkL L⟩ p pos = .short := by
 unfold getSym
 simp only
 rw [if_neg (hfull _), if_neg (by omega)]
theorem gl_ok {s p pos : Nat} (h1 : 256 < s) (h2 : s ≤ 285) (h : p + (lenOf s).2 ≤ 8 * S.N) (hpos : (p + 7) / 8 ≤ pos) :
  getLen S s p pos = .ok ((lenOf s).1 + bv S.D p (lenOf s).2) (p + (lenOf s).2) (max pos ((p + (lenOf s).2 + 7) / 8)) := by
 by_cases h0 : (lenOf s).2 = 0
 ·rw [getLen_0 (by omega) h0, h0, bv_zero, Nat.add_zero, Nat.add_zero, Nat.max_eq_left hpos]
 ·rw [getLen_n (by omega) h0 h]; rfl
theorem gl_sh {s p pos : Nat} (h2 : s ≤ 285) (hp : p ≤ 8 * S.N) (h : 8 * S.N < p + (lenOf s).2) : getLen S s p pos = .short :=
 getLen_short (by omega) (by omega) h
theorem gdst_ok {hd : Option Cd} {p pos d p3 pos3 : Nat} (h : getDs S hd p pos = .ok d p3 pos3) (hd29 : d ≤ 29) (hx : p3 + dBits d ≤ 8 * S.N) (hpos : (p3 + 7) / 8 ≤ pos3) :
  getDist S hd p pos = .ok (dBase d + bv S.D p3 (dBits d)) (p3 + dBits d) (max pos3 ((p3 + dBits d + 7) / 8)) := by
 by_cases h4 : d < 4
 ·have e1 : dBase d = d + 1 := by unfold dBase; rw [if_pos h4]
  have e2 : dBits d = 0 := by unfold dBits; rw [if_pos h4]
  rw [gd_small h h4, e1, e2, bv_zero]
  simp only [Nat.add_zero]
  rw [Nat.max_eq_left hpos]
 ·have e1 : dBase d = 2 ^ ((d - 2) / 2 + 1) + 1 + d % 2 * 2 ^ ((d - 2) / 2) := by unfold dBase; rw [if_neg h4]
  have e2 : dBits d = (d - 2) / 2 := by unfold dBits; rw [if_neg h4]
  rw [e2] at hx
  rw [gd_n h h4 (by omega) hx, e1, e2, Nat.add_assoc (2 ^ ((d - 2) / 2 + 1) + 1)]
  rfl
theorem gdst_sh {hd : Option Cd} {p pos d p3 pos3 : Nat} (h : getDs S hd p pos = .ok d p3 pos3) (hd29 : d ≤ 29) (hp : p3 ≤ 8 * S.N) (hx : 8 * S.N < p3 + dBits d) : getDist S hd p pos = .short := by
 by_cases h4 : d < 4
 ·have e2 : dBits d = 0 := by unfold dBits; rw [if_pos h4]
  omega
 ·have e2 : dBits d = (d - 2) / 2 := by unfold dBits; rw [if_neg h4]
  exact gd_ns h h4 (by omega) (by omega)
variable {a : A}
theorem vw_huff {hl : Cd} {hd : Option Cd} {lit dist r o1 : List Nat} {p1 s1 : Nat} (hm : a.md = .huff hl hd none) (he : a.err = 0) (hC : Co lit dist hl hd) (hq1 : (a.p + 7) / 8 ≤ a.pos) (hq2 : a.pos ≤ (a.p + hl.m + 7) / 8) (hp : a.p ≤ 8 * S.N) (ht : Tl pre a.out r)
  (hR : RH S lit dist a.p r p1 o1 s1) (hA : Af S a.fin p1 o1 s1 q z st) : Vw S pre q z st (mic S a).1 := by
 rw [mic_huff hm]
 obtain ⟨m, hme⟩ : ∃ m, lit.getD 256 0 = m := ⟨_, rfl⟩
 have hl' := hC.l
 have hm15 := hC.m15
 rw [hme] at hl' hm15
 subst hl'
 simp only at hq2
 have hon := hR.on hp
 by_cases hdry : a.p + m ≤ 8 * S.N
 ·have key : ∀ {s p2}, rsym S lit a.p = .ok s p2 0 → ∃ pos2, getSym S ⟨m, lkL lit⟩ a.p a.pos = .ok s p2 pos2 ∧ (p2 + 7) / 8 ≤ pos2 ∧ pos2 ≤ (p2 + m + 7) / 8 ∧ p2 ≤ 8 * S.N ∧ (s = 256 → pos2 = (p2 + 7) / 8) := by
   intro s p2 h
   obtain ⟨h1, h2, h3, h4, h5⟩ := rsym_val hC.K h
   rcases gs_lit (m := m) hC.K h a.pos with ⟨_, hg⟩ | ⟨hg, _⟩
   ·refine ⟨_, hg, ?_, ?_, h2, fun e => ?_⟩
    ·unfold rdTo; omega
    ·unfold rdTo; omega
    ·subst e
     rw [hme] at h1 ⊢
     unfold rdTo; omega
   ·omega
  have keyD : ∀ {s p2 pos2}, 256 < s → s ≤ 285 → p2 + (lenOf s).2 ≤ 8 * S.N → getSym S ⟨m, lkL lit⟩ a.p a.pos = .ok s p2 pos2 → (p2 + 7) / 8 ≤ pos2 → mHuff S a ⟨m, lkL lit⟩ hd none =
    (match getDist S hd (p2 + (lenOf s).2) (max pos2 ((p2 + (lenOf s).2 + 7) / 8)) with
     | .short => (a.short S, true)
     | .bad p pos => ({ a with p := p, pos := pos }.bad, true)
     | .ok dist p pos => if min a.out.length 32768 < dist then ({ a with p := p, pos := pos }.bad, true)
      else ({ a with p := p, pos := pos, md := .huff ⟨m, lkL lit⟩ hd (some ((lenOf s).1 + bv S.D p2 (lenOf s).2, dist)) }, false)) := by
   intro s p2 pos2 h1 h2 h3 hg hpos
   rw [mh_len hg (by omega) (by omega), gl_ok h1 h2 h3 hpos]
   rfl
  cases hR with
  | short h =>
   rw [mh_short (gs_short hC.full h _ _)]
   obtain ⟨rfl, rfl, rfl⟩ := hA.ne (by decide)
   exact .short rfl (.inl rfl) ht (Pre.refl _)
  | bad h => exact (gs_nobad hC.full h).elim
  | eob h =>
   obtain ⟨pos2, hg, k1, k2, k3, k4⟩ := key h
   rw [mh_eob hg]
   exact vw_finish (b := { a with p := p1, pos := pos2 }) he (k4 rfl) k3 ht hA
  | lit h hs hr =>
   obtain ⟨pos2, hg, k1, k2, k3, k4⟩ := key h
   by_cases hf : (a.out.length + 1) % 32768 = 0
   ·rw [mh_litF hg hs hf]
    exact .huff rfl he hC k1 (by rw [hC.l, hme]; exact k2) k3 (ht.app _) hr hA
   ·rw [mh_lit hg hs hf]
    exact .huff rfl he hC k1 (by rw [hC.l, hme]; exact k2) k3 (ht.app _) hr hA
  | big h hs =>
   obtain ⟨pos2, hg, k1, k2, k3, k4⟩ := key h
   rw [mh_len hg (by omega) (by omega), getLen_bad (by omega)]
   obtain ⟨rfl, rfl, rfl⟩ := hA.ne (by decide)
   exact .bad rfl rfl ht (Pre.refl _)
  | lshort h h1 h2 hx =>
   obtain ⟨pos2, hg, k1, k2, k3, k4⟩ := key h
   rw [mh_len hg (by omega) (by omega), gl_sh h2 k3 hx]
   obtain ⟨rfl, rfl, rfl⟩ := hA.ne (by decide)
   exact .short rfl (.inl rfl) ht (Pre.refl _)
  | dshort h h1 h2 h3 hd1 =>
   obtain ⟨pos2, hg, k1, k2, k3, k4⟩ := key h
   rw [keyD h1 h2 h3 hg k1, gd_short ((hC.dist _ h3).2.1 hd1)]
   obtain ⟨rfl, rfl, rfl⟩ := hA.ne (by decide)
   exact .short rfl (.inl rfl) ht (Pre.refl _)
  | dbad h h1 h2 h3 hd1 =>
   obtain ⟨pos2, hg, k1, k2, k3, k4⟩ := key h
   obtain ⟨q2, pos3, hg3⟩ := (hC.dist (max pos2 ((_ + 7) / 8)) h3).2.2 _ hd1
   rw [keyD h1 h2 h3 hg k1, gd_bad hg3]
   obtain ⟨rfl, rfl, rfl⟩ := hA.ne (by decide)
   exact .bad rfl rfl ht (Pre.refl _)
  | dbig h h1 h2 h3 hd1 h29 =>
   obtain ⟨pos2, hg, k1, k2, k3, k4⟩ := key h
   obtain ⟨_, hg3⟩ := (hC.dist (max pos2 ((_ + 7) / 8)) h3).1 _ _ hd1
   rw [keyD h1 h2 h3 hg k1, gd_big hg3 (by omega)]
   obtain ⟨rfl, rfl, rfl⟩ := hA.ne (by decide)
   exact .bad rfl rfl ht (Pre.refl _)
  | xshort h h1 h2 h3 hd1 h29 hx =>
   obtain ⟨pos2, hg, k1, k2, k3, k4⟩ := key h
   obtain ⟨_, hg3⟩ := (hC.dist (max pos2 ((_ + 7) / 8)) h3).1 _ _ hd1
   rw [keyD h1 h2 h3 hg k1, gdst_sh hg3 h29 (rsym_lt hd1).2 hx]
   obtain ⟨rfl, rfl, rfl⟩ := hA.ne (by decide)
   exact .short rfl (.inl rfl) ht (Pre.refl _)
  | far h h1 h2 h3 hd1 h29 hx hf =>
   obtain ⟨pos2, hg, k1, k2, k3, k4⟩ := key h
   obtain ⟨_, hg3⟩ := (hC.dist (max pos2 ((_ + 7) / 8)) h3).1 _ _ hd1
   rw [keyD h1 h2 h3 hg k1, gdst_ok hg3 h29 hx (Nat.le_max_right _ _)]
   simp only
   rw [if_pos ((ht.far _).1 hf)]
   obtain ⟨rfl, rfl, rfl⟩ := hA.ne (by decide)
   exact .bad rfl rfl ht (Pre.refl _)
  | @copy _ p2 p3 s d _ _ _ _ h h1 h2 h3 hd1 h29 hx hf1 hf2 hr =>
   obtain ⟨pos2, hg, k1, k2, k3, k4⟩ := key h
   obtain ⟨hle, hg3⟩ := (hC.dist (max pos2 ((p2 + (lenOf s).2 + 7) / 8)) h3).1 _ _ hd1
   rw [keyD h1 h2 h3 hg k1, gdst_ok hg3 h29 hx (Nat.le_max_right _ _)]
   simp only
   have hfar : ¬ min a.out.length 32768 < dBase d + bv S.D p3 (dBits d) := fun h => by have := (ht.far _).2 h; omega
   rw [if_neg hfar]
   have hdp := dBase_pos d
   refine .copy (d := dBase d + bv S.D p3 (dBits d)) rfl he hC ?_ ?_ hx ht (by omega) (by show _ ≤ a.out.length; omega) hr hA
   ·show (p3 + dBits d + 7) / 8 ≤ max _ _
    exact Nat.le_max_right _ _
   ·show max (max (max pos2 ((p2 + (lenOf s).2 + 7) / 8)) ((p3 + 7) / 8)) ((p3 + dBits d + 7) / 8) ≤ (p3 + dBits d + m + 7) / 8
    omega
 ·have hne : s1 ≠ 0 := fun h => by have := hR.left hC.K h; rw [hme] at this; omega
  obtain ⟨rfl, rfl, rfl⟩ := hA.ne hne
  rw [mh_short (gs_dry hC.full (by omega) _)]
  refine .short rfl ?_ ht hon.2.2.1
  have h2 := hon.2.2.2
  have h1 := hon.1
  omega
theorem vw_copy {hl : Cd} {hd : Option Cd} {lit dist r o1 : List Nat} {len d p1 s1 : Nat} (hm : a.md = .huff hl hd (some (len, d))) (he : a.err = 0) (hC : Co lit dist hl hd) (hq1 : (a.p + 7) / 8 ≤ a.pos) (hq2 : a.pos ≤ (a.p + hl.m + 7) / 8) (hp : a.p ≤ 8 * S.N) (ht : Tl pre a.out r) (h1 : 1 ≤ d) (h2 : d ≤ a.out.length)
  (hR : RH S lit dist a.p (lz r d len) p1 o1 s1) (hA : Af S a.fin p1 o1 s1 q z st) : Vw S pre q z st (mic S a).1 := by
 rw [mic_huff hm]
 by_cases hav : avail a.out ≤ len
 ·rw [mh_cpF hav]
  refine .copy rfl he hC hq1 hq2 hp (ht.lz h1 h2 (avail a.out)) h1 ?_ ?_ hA
  ·show d ≤ (lz a.out d (avail a.out)).length
   rw [lz_length]; omega
  ·rw [lz_add, show avail a.out + (len - avail a.out) = len by omega]; exact hR
 ·rw [mh_cp hav]
  exact .huff rfl he hC hq1 hq2 hp (ht.lz h1 h2 len) hR hA
theorem vw_data {n p1 s1 : Nat} {r o1 : List Nat} (hm : a.md = .data n) (he : a.err = 0) (hp : a.pos ≤ S.N) (ht : Tl pre a.out r)
  (hR : (a.pos + n ≤ S.N ∧ s1 = 0 ∧ p1 = 8 * (a.pos + n) ∧ o1 = r ++ bytesAt S a.pos n) ∨ (S.N < a.pos + n ∧ s1 = 2 ∧ p1 = 8 * S.N ∧ o1 = r ++ bytesAt S a.pos (S.N - a.pos))) (hA : Af S a.fin p1 o1 s1 q z st) : Vw S pre q z st (mic S a).1 := by
 have e : mic S a = mData S a n := by unfold mic; rw [hm]
 rw [e]
 unfold mData
 split
 ·rename_i h1
  rcases hR with ⟨h, _⟩ | ⟨h, rfl, rfl, rfl⟩
  ·omega
  ·obtain ⟨rfl, rfl, rfl⟩ := hA.ne (by decide)
   exact .short rfl (.inl rfl) (ht.app _) (Pre.refl _)
 ·rename_i h1
  split
  ·rename_i hav
   refine .data (p1 := p1) (s1 := s1) (o1 := o1) rfl he (by show a.pos + avail a.out ≤ S.N; omega) (ht.app _) ?_ hA
   rcases hR with ⟨h, h2, h3, h4⟩ | ⟨h, h2, h3, h4⟩
   ·refine .inl ⟨by show a.pos + avail a.out + (n - avail a.out) ≤ S.N; omega, h2, by rw [h3]; show 8 * (a.pos + n) = 8 * (a.pos + avail a.out + (n - avail a.out)); omega, ?_⟩
    show o1 = (r ++ bytesAt S a.pos (avail a.out)) ++ bytesAt S (a.pos + avail a.out) (n - avail a.out)
    rw [h4, List.append_assoc, ← bytesAt_add, show avail a.out + (n - avail a.out) = n by omega]
   ·refine .inr ⟨by show S.N < a.pos + avail a.out + (n - avail a.out); omega, h2, h3, ?_⟩
    show o1 = (r ++ bytesAt S a.pos (avail a.out)) ++ bytesAt S (a.pos + avail a.out) (S.N - (a.pos + avail a.out))
    rw [h4, List.append_assoc, ← bytesAt_add, show avail a.out + (S.N - (a.pos + avail a.out)) = S.N - a.pos by omega]
  ·rename_i hav
   rcases hR with ⟨h, h2, h3, h4⟩ | ⟨h, _⟩
   ·subst h2 h3 h4
    exact vw_finish (b := { a with p := 8 * (a.pos + n), pos := a.pos + n, out := a.out ++ bytesAt S a.pos n }) he (by show a.pos + n = (8 * (a.pos + n) + 7) / 8; omega) (by show 8 * (a.pos + n) ≤ _; omega) (ht.app _) hA
   ·omega
end
end Go.Proofs.YtejeloeaklpinaaDoor
namespace Go.Proofs.YtejeloeaklpinaaDoor
theorem mDyn_can {S : Src} {b : A} (h1 : b.md = .next) (h2 : b.pos = (b.p + 7) / 8) (h0 : b.err = 0) : mDyn S b = ({ b with p := (mDyn S (can b.p)).1.p, pos := (mDyn S (can b.p)).1.pos, md := (mDyn S (can b.p)).1.md, err := (mDyn S (can b.p)).1.err }, (mDyn S (can b.p)).2) := by
 obtain ⟨p, pos, out, fin, md, err, fl, e⟩ := b
 simp only at h1 h2 h0
 subst h1 h2 h0
 have e1 : (can p).p = p := rfl
 have e2 : (can p).pos = (p + 7) / 8 := rfl
 unfold mDyn
 simp only [e1, e2]
 split
 ·rfl
 ·split
  ·rfl
  ·split
   ·rfl
   ·split
    ·rfl
    ·split
     ·rfl
     ·rfl
     ·split
      ·rfl
      ·rfl
/-- The place behind a head of codes. -/
theorem mDyn_le (S : Src) (a : A) : (mDyn S a).2 = false → (mDyn S a).1.p ≤ 8 * S.N := by
 unfold mDyn
 split
 ·intro h; cases h
 ·rename_i h14
  simp only
  split
  ·intro h; cases h
  ·split
   ·intro h; cases h
   ·rename_i f p pos hc
    have h2 := clLens_ok2 _ _ _ _ _ _ _ hc (by omega)
    split
    ·intro h; cases h
    ·split
     ·intro h; cases h
     ·intro h; cases h
     ·rename_i l p2 pos2 hrl
      have h4 := rdLens_ok2 _ _ _ _ _ _ _ hrl h2
      split
      ·intro h; cases h
      ·intro _; exact h4
theorem co_fix : Co fixL (List.replicate 32 5) (cdL fixL) none := by
 have h256 : fixL.getD 256 0 = 7 := (fix_get 256 (by decide)).trans (by decide)
 refine ⟨?_, by omega, by omega, full_lk (by rw [fix_mx]; decide) (by decide +kernel), fix_kraft, .inl ⟨rfl, rfl⟩⟩
 unfold cdL
 rw [fix_mn, h256]
section
variable {S : Src} {pre z : List Nat} {q st : Nat} {a : A}
theorem vw_block {b : A} {k p1 s1 : Nat} {r o1 : List Nat} (h3 : st ≠ 3) (hm : b.md = .next) (he : b.err = 0) (hpos : b.pos = (b.p + 7) / 8) (hp : b.p ≤ 8 * S.N) (hk : k < 4) (ht : Tl pre b.out r) (hR : RBk S k b.p r p1 o1 s1) (hA : Af S b.fin p1 o1 s1 q z st) :
  Vw S pre q z st (if k = 0 then mStored S b else if k = 1 then ({ b with md := .huff (cdL fixL) none none }, false) else if k = 2 then mDyn S b else (b.bad, true)).1 := by
 rcases hR with ⟨rfl, hR⟩ | ⟨rfl, hR⟩ | ⟨rfl, hR⟩ | ⟨rfl, rfl, rfl, rfl⟩
 ·rw [if_pos rfl]
  unfold SR at hR
  rw [show (b.p + 7) / 8 * 8 = 8 * b.pos by omega, ← hpos] at hR
  unfold mStored
  rcases hR with ⟨h1, rfl, rfl, rfl⟩ | ⟨h1, h2, rfl, rfl, rfl⟩ | ⟨h1, h2, hR⟩
  ·rw [if_pos (by omega)]
   obtain ⟨rfl, rfl, rfl⟩ := hA.ne (by decide)
   exact .short rfl (.inl rfl) ht (Pre.refl _)
  ·rw [if_neg (by omega), if_pos h2]
   obtain ⟨rfl, rfl, rfl⟩ := hA.ne (by decide)
   exact .bad rfl rfl ht (Pre.refl _)
  ·rw [if_neg (by omega), if_neg (by omega)]
   by_cases hn : bv S.D (8 * b.pos) 16 = 0
   ·rw [if_pos hn]
    rw [hn] at hR
    rcases hR with ⟨_, rfl, rfl, rfl⟩ | ⟨h4, _⟩
    ·refine vw_finish (b := A.flush { b with p := 8 * (b.pos + 4), pos := b.pos + 4 }) he (by show b.pos + 4 = (8 * (b.pos + 4) + 7) / 8; omega) (by show 8 * (b.pos + 4) ≤ _; omega) ht ?_
     have e : r ++ bytesAt S (b.pos + 4) 0 = r := by simp [bytesAt]
     rw [e] at hA
     exact hA
    ·omega
   ·rw [if_neg hn]
    refine .data rfl he (by show b.pos + 4 ≤ _; omega) ht hR hA
 ·rw [if_neg (by decide), if_pos rfl]
  refine .huff rfl he co_fix (by show (b.p + 7) / 8 ≤ b.pos; omega) (by show b.pos ≤ (b.p + _ + 7) / 8; omega) hp ht hR hA
 ·rw [if_neg (by decide), if_neg (by decide), if_pos rfl, mDyn_can hm hpos he]
  rcases hR with ⟨hne, rfl, hd⟩ | ⟨lit, dist, p2, hd, hR⟩
  ·rcases hd with ⟨rfl, hq, hd⟩ | ⟨rfl, q2, pos2, hd⟩ | rfl
   ·rw [hd]
    obtain ⟨rfl, rfl, rfl⟩ := hA.ne (by decide)
    exact .short rfl (.inl rfl) ht (Pre.refl _)
   ·rw [hd]
    obtain ⟨rfl, rfl, rfl⟩ := hA.ne (by decide)
    exact .bad rfl rfl ht (Pre.refl _)
   ·exact absurd (hA.ne (by decide)).2.2 h3
  ·obtain ⟨pos2, hmd, hp2, h256, hkf, hl15, hl286, hd30, hd15, hRd, hok, hge⟩ := hd
   have hp2' : pos2 = (p2 + 7) / 8 := hp2 rfl
   have hmx : mx lit ≤ 15 := mx_le15 (getD_15 hl15)
   have hmn : max (mn lit) (lit.getD 256 0) = lit.getD 256 0 := Nat.max_eq_right (mn_le lit 256 h256).1
   rw [hmn] at hmd
   have h8 : p2 ≤ 8 * S.N := by
    have hb := mDyn_le S (can b.p)
    rw [hmd] at hb
    exact hb rfl
   rw [hmd]
   exact .huff rfl rfl ⟨rfl, h256, getD_15 hl15 256, full_lk hmx hkf, full_kraft hmx hkf, .inr ⟨rfl, hRd, hok⟩⟩ (by show (p2 + 7) / 8 ≤ pos2; omega) (by show pos2 ≤ (p2 + _ + 7) / 8; omega) h8 ht hR hA
 ·rw [if_neg (by decide), if_neg (by decide), if_neg (by decide)]
  obtain ⟨rfl, rfl, rfl⟩ := hA.ne (by decide)
  exact .bad rfl rfl ht (Pre.refl _)
theorem vw_next {r : List Nat} {e e' : Nat} (h3 : st ≠ 3) (hm : a.md = .next) (he : a.err = 0) (hpos : a.pos = (a.p + 7) / 8) (ht : Tl pre a.out r) (hR : RI S a.p r e q z st e') : Vw S pre q z st (mic S a).1 := by
 rw [mic_next hm]
 unfold mNext
 have main : ∀ {p1 s1 : Nat} {o1 : List Nat}, a.p + 3 ≤ 8 * S.N → RBk S (bv S.D a.p 3 / 2) (a.p + 3) r p1 o1 s1 → Af S (decide (bv S.D a.p 3 % 2 = 1)) p1 o1 s1 q z st → Vw S pre q z st (mNext S a).1 := by
  intro p1 s1 o1 h hb hA
  have hlt := bv_lt S.D a.p 3
  have := vw_block (b := { a with p := a.p + 3, pos := rdTo a.p a.pos 3, fin := decide (bv S.D a.p 3 % 2 = 1) }) h3 hm he (by show rdTo a.p a.pos 3 = (a.p + 3 + 7) / 8; unfold rdTo; omega) h (by omega) ht hb hA
  unfold mNext
  rw [if_neg (by omega)]
  exact this
 cases hR with
 | short h =>
  rw [if_pos h]
  exact .short rfl (.inl rfl) ht (Pre.refl _)
 | fail h hb hs =>
  have := main h hb (.inl ⟨hs, rfl, rfl, rfl⟩)
  unfold mNext at this
  exact this
 | last h hb hl =>
  have := main h hb (.inr (.inl ⟨rfl, decide_eq_true hl, rfl, rfl, rfl⟩))
  unfold mNext at this
  exact this
 | more h hb hl hr =>
  have := main h hb (.inr (.inr ⟨rfl, decide_eq_false (by omega), _, _, hr⟩))
  unfold mNext at this
  exact this
theorem vw_mic (h3 : st ≠ 3) (h : Vw S pre q z st a) (h0 : a.err = 0) : Vw S pre q z st (mic S a).1 := by
 cases h with
 | next h1 h2 h4 h5 h6 h7 => exact vw_next h3 h1 h2 h4 h6 h7
 | data h1 h2 h4 h5 h6 h7 => exact vw_data h1 h2 h4 h5 h6 h7
 | huff h1 h2 h4 h5 h6 h7 h8 h9 h10 => exact vw_huff h1 h2 h4 h5 h6 h7 h8 h9 h10
 | copy h1 h2 h4 h5 h6 h7 h8 h9 h10 h11 h12 => exact vw_copy h1 h2 h4 h5 h6 h7 h8 h9 h10 h11 h12
 | good h => omega
 | short h => omega
 | bad h => omega
theorem Tl.le {pre m r : List Nat} (h : Tl pre m r) (hp : Pre r z) : m.length ≤ z.length - pre.length := by
 have := hp.len
 rw [h.1, List.length_append] at this
 omega
theorem Vw.len (h : Vw S pre q z st a) : a.out.length ≤ z.length - pre.length := by
 cases h with
 | next _ _ _ _ h6 h7 => exact h6.le h7.pre
 | data _ _ _ h5 h6 h7 =>
  refine h5.le (Pre.trans ?_ h7.told)
  rcases h6 with ⟨_, _, _, rfl⟩ | ⟨_, _, _, rfl⟩
  ·exact Pre.app _ _
  ·exact Pre.app _ _
 | huff _ _ _ _ _ _ h8 h9 h10 => exact h8.le (h9.pre.trans h10.told)
 | copy _ _ _ _ _ _ h8 _ _ h11 h12 => exact h8.le (((lz_pre _ _ _).trans h11.pre).trans h12.told)
 | good _ _ _ _ h => exact h.le (Pre.refl _)
 | short _ _ h h2 => exact h.le h2
 | bad _ _ h h2 => exact h.le h2
theorem Vw.qle (h : Vw S pre q z st a) (h0 : a.err = 0) : qv a ≤ 8 * S.N := by
 cases h with
 | next h1 _ _ h5 => unfold qv; rw [h1]; exact h5
 | data h1 _ h4 => unfold qv; rw [h1]; simp only; omega
 | huff h1 _ _ _ _ h7 => unfold qv; rw [h1]; exact h7
 | copy h1 _ _ _ _ h7 => unfold qv; rw [h1]; exact h7
 | good h => omega
 | short h => omega
 | bad h => omega
theorem Vw.setE (h : Vw S pre q z st a) (e : Nat) : Vw S pre q z st { a with e := e } := by
 cases h with
 | next h1 h2 h4 h5 h6 h7 => exact .next (a := { a with e := e }) h1 h2 h4 h5 h6 h7
 | data h1 h2 h4 h5 h6 h7 => exact .data (a := { a with e := e }) h1 h2 h4 h5 h6 h7
 | huff h1 h2 h4 h5 h6 h7 h8 h9 h10 => exact .huff (a := { a with e := e }) h1 h2 h4 h5 h6 h7 h8 h9 h10
 | copy h1 h2 h4 h5 h6 h7 h8 h9 h10 h11 h12 => exact .copy (a := { a with e := e }) h1 h2 h4 h5 h6 h7 h8 h9 h10 h11 h12
 | good h1 h2 h3 h4 h5 => exact .good (a := { a with e := e }) h1 h2 h3 h4 h5
 | short h1 h2 h3 h4 => exact .short (a := { a with e := e }) h1 h2 h3 h4
 | bad h1 h2 h3 h4 => exact .bad (a := { a with e := e }) h1 h2 h3 h4
theorem Vw.late (h : Vw S pre q z st a) : Vw S pre q z st a.late := by
 unfold A.late
 split
 ·rename_i h0
  cases h with
  | next _ h2 => exact absurd h2 h0.1
  | data _ h2 => exact absurd h2 h0.1
  | huff _ h2 => exact absurd h2 h0.1
  | copy _ h2 => exact absurd h2 h0.1
  | good h1 h2 h3 h4 h5 => exact .good (a := a.flush) h1 h2 h3 rfl h5
  | short h1 h2 h3 h4 => exact .short (a := a.flush) h1 h2 h3 h4
  | bad h1 h2 h3 h4 => exact .bad (a := a.flush) h1 h2 h3 h4
 ·exact h
theorem vw_runs (h3 : st ≠ 3) {b : A} (hr : Runs S a b) : Vw S pre q z st a → a.err = 0 → Vw S pre q z st b := by
 induction hr with
 | @stop a b h => intro hv h0; have := vw_mic h3 hv h0; rw [h] at this; exact this
 | @more a b c h _ ih =>
  intro hv h0
  have h1 := vw_mic h3 hv h0
  have hg := (goes_mic S a).fal (by rw [h])
  rw [h] at h1 hg
  exact ih h1 (hg.1.trans h0)
theorem vw_ch (h3 : st ≠ 3) {y : A} (h : Ch S a y) : Vw S pre q z st a → Vw S pre q z st y := by
 induction h with
 | done => intro hv; exact hv.setE _
 | step h1 h2 _ ih => intro hv; exact ih (vw_runs h3 h2 (hv.setE _) h1).late
/-- Flushes that may come. -/
def FN (S : Src) (T : Nat) (a : A) : Nat := if a.err ≠ 0 then (if a.fl = a.out.length then 0 else 1) else 2 + (8 * S.N - qv a) / 35 + (T / 32768 - a.out.length / 32768)
/-- What a round leaves of them. -/
def Less (S : Src) (T : Nat) (a b : A) : Prop := FN S T b + (if b.fl = a.fl then 0 else 1) ≤ FN S T a
section
variable {T : Nat} {b : A}
theorem less_err (ha : a.err = 0) (hb : b.err ≠ 0) : Less S T a b := by
 unfold Less FN
 rw [if_pos hb, if_neg (show ¬ a.err ≠ 0 by omega)]
 split <;> split <;> omega
theorem less_go (ha : a.err = 0) (hb : b.err = 0) (hf : b.fl = a.fl) (hq : qv a ≤ qv b) (ho : a.out.length ≤ b.out.length) : Less S T a b := by
 unfold Less FN
 rw [if_neg (show ¬ b.err ≠ 0 by omega), if_neg (show ¬ a.err ≠ 0 by omega), if_pos hf]
 have := Nat.div_le_div_right (c := 32768) ho
 have : (8 * S.N - qv b) / 35 ≤ (8 * S.N - qv a) / 35 := Nat.div_le_div_right (by omega)
 omega
theorem less_fl (ha : a.err = 0) (hb : b.err = 0) (hq : qv a ≤ qv b) (ho : a.out.length / 32768 + 1 ≤ b.out.length / 32768) (hT : b.out.length ≤ T) : Less S T a b := by
 unfold Less FN
 rw [if_neg (show ¬ b.err ≠ 0 by omega), if_neg (show ¬ a.err ≠ 0 by omega)]
 have := Nat.div_le_div_right (c := 32768) hT
 have : (8 * S.N - qv b) / 35 ≤ (8 * S.N - qv a) / 35 := Nat.div_le_div_right (by omega)
 split <;> omega
theorem less_z (ha : a.err = 0) (hb : b.err = 0) (hq : qv a + 35 ≤ qv b) (h8 : qv b ≤ 8 * S.N) (ho : a.out.length ≤ b.out.length) : Less S T a b := by
 unfold Less FN
 rw [if_neg (show ¬ b.err ≠ 0 by omega), if_neg (show ¬ a.err ≠ 0 by omega)]
 have := Nat.div_le_div_right (c := 32768) ho
 split <;> omega
theorem less_finish (ha : a.err = 0) (hb : b.err = 0) (hf : b.fl = a.fl) (hq : qv a ≤ b.p) (ho : a.out.length ≤ b.out.length) : Less S T a b.finish := by
 unfold A.finish
 split
 ·exact less_err ha (by show (1 : Nat) ≠ 0; decide)
 ·exact less_go ha hb hf hq ho
theorem less_dyn {c : A} (hc : c.err = 0) (hf : c.fl = a.fl) (ho : c.out = a.out) (hq : qv a ≤ c.p) (ha : a.err = 0) : Less S T a (mDyn S c).1 := by
 unfold mDyn
 split
 ·exact less_err ha (by show (2 : Nat) ≠ 0; decide)
 ·simp only
  split
  ·exact less_err ha (by show (3 : Nat) ≠ 0; decide)
  ·split
   ·exact less_err ha (by show (2 : Nat) ≠ 0; decide)
   ·rename_i f p pos hcl
    have h3 := clLens_ok _ _ _ _ _ _ _ hcl
    split
    ·exact less_err ha (by show (3 : Nat) ≠ 0; decide)
    ·split
     ·exact less_err ha (by show (2 : Nat) ≠ 0; decide)
     ·exact less_err ha (by show (3 : Nat) ≠ 0; decide)
     ·rename_i l p2 pos2 hrl
      have h4 := rdLens_ok _ _ _ _ _ _ _ hrl
      split
      ·exact less_err ha (by show (3 : Nat) ≠ 0; decide)
      ·exact less_go ha hc hf (by show qv a ≤ p2; omega) (by show a.out.length ≤ c.out.length; rw [ho]; exact Nat.le_refl _)
theorem less_mic (h0 : a.err = 0) (hq : qv a ≤ 8 * S.N) (hT : (mic S a).1.out.length ≤ T) : Less S T a (mic S a).1 := by
 revert hT
 cases hm : a.md with
 | next =>
  have h1 : qv a = a.p := by unfold qv; rw [hm]
  rw [mic_next hm]
  intro _
  unfold mNext
  split
  ·exact less_err h0 (by show (2 : Nat) ≠ 0; decide)
  ·rename_i h3
   simp only
   split
   ·unfold mStored
    have hrd : a.p + 3 ≤ 8 * rdTo a.p a.pos 3 := by unfold rdTo; omega
    split
    ·exact less_err h0 (by show (2 : Nat) ≠ 0; decide)
    ·rename_i h4
     simp only at h4
     split
     ·exact less_err h0 (by show (3 : Nat) ≠ 0; decide)
     ·split
      ·simp only
       unfold A.finish
       split
       ·exact less_err h0 (by show (1 : Nat) ≠ 0; decide)
       ·exact less_z h0 h0 (by show qv a + 35 ≤ 8 * (rdTo a.p a.pos 3 + 4); omega) (by show 8 * (rdTo a.p a.pos 3 + 4) ≤ _; omega) (Nat.le_refl _)
      ·exact less_go h0 h0 rfl (by show qv a ≤ 8 * (rdTo a.p a.pos 3 + 4); omega) (Nat.le_refl _)
   ·split
    ·exact less_go h0 h0 rfl (by show qv a ≤ a.p + 3; omega) (Nat.le_refl _)
    ·split
     ·exact less_dyn h0 rfl rfl (by show qv a ≤ a.p + 3; omega) h0
     ·exact less_err h0 (by show (3 : Nat) ≠ 0; decide)
 | data n =>
  have h1 : qv a = 8 * a.pos := by unfold qv; rw [hm]
  have e : mic S a = mData S a n := by unfold mic; rw [hm]
  rw [e]
  unfold mData
  split
  ·intro _; exact less_err h0 (by show (2 : Nat) ≠ 0; decide)
  ·split
   ·intro hT
    refine less_fl h0 h0 (by show qv a ≤ 8 * (a.pos + avail a.out); omega) ?_ hT
    show a.out.length / 32768 + 1 ≤ (a.out ++ bytesAt S a.pos (avail a.out)).length / 32768
    rw [List.length_append, bytesAt_length]
    unfold avail
    omega
   ·intro _
    exact less_finish (b := { a with p := 8 * (a.pos + n), pos := a.pos + n, out := a.out ++ bytesAt S a.pos n }) h0 h0 rfl (by show qv a ≤ 8 * (a.pos + n); omega) (by show a.out.length ≤ (a.out ++ _).length; rw [List.length_append]; omega)
 | huff hl hd c =>
  have h1 : qv a = a.p := by unfold qv; rw [hm]
  rw [mic_huff hm]
  cases c with
  | none =>
   simp only [mHuff]
   split
   ·intro _; exact less_err h0 (by show (2 : Nat) ≠ 0; decide)
   ·intro _; exact less_err h0 (by show (3 : Nat) ≠ 0; decide)
   ·rename_i v p pos hg
    have h2 := getSym_ok hg
    split
    ·split
     ·rename_i hf
      intro hT
      refine less_fl h0 h0 (by show qv a ≤ p; omega) ?_ hT
      show a.out.length / 32768 + 1 ≤ (a.out ++ [v]).length / 32768
      rw [List.length_append, List.length_singleton]
      omega
     ·intro _
      exact less_go h0 h0 rfl (by show qv a ≤ p; omega) (by show a.out.length ≤ (a.out ++ [v]).length; rw [List.length_append]; omega)
    ·split
     ·intro _
      exact less_finish (b := { a with p := p, pos := pos }) h0 h0 rfl (by show qv a ≤ p; omega) (Nat.le_refl _)
     ·split
      ·intro _; exact less_err h0 (by show (2 : Nat) ≠ 0; decide)
      ·intro _; exact less_err h0 (by show (3 : Nat) ≠ 0; decide)
      ·rename_i len p2 pos2 hg2
       have h3 := getLen_ok hg2
       split
       ·intro _; exact less_err h0 (by show (2 : Nat) ≠ 0; decide)
       ·intro _; exact less_err h0 (by show (3 : Nat) ≠ 0; decide)
       ·rename_i dist p3 pos3 hg3
        have h4 := getDist_ok hg3
        split
        ·intro _; exact less_err h0 (by show (3 : Nat) ≠ 0; decide)
        ·intro _
         exact less_go h0 h0 rfl (by show qv a ≤ p3; omega) (Nat.le_refl _)
  | some x =>
   obtain ⟨len, d⟩ := x
   simp only [mHuff]
   split
   ·intro hT
    refine less_fl h0 h0 (by show qv a ≤ a.p; omega) ?_ hT
    show a.out.length / 32768 + 1 ≤ (lz a.out d (avail a.out)).length / 32768
    rw [lz_length]
    unfold avail
    omega
   ·intro _
    exact less_go h0 h0 rfl (by show qv a ≤ a.p; omega) (by show a.out.length ≤ (lz a.out d len).length; rw [lz_length]; omega)
theorem less_late : Less S T a a.late := by
 unfold A.late
 split
 ·rename_i h0
  unfold Less FN
  rw [if_pos (show a.flush.err ≠ 0 from h0.1), if_pos h0.1, if_pos (show a.flush.fl = a.flush.out.length from rfl)]
  show 0 + (if a.out.length = a.fl then 0 else 1) ≤ _
  split <;> split <;> omega
 ·unfold Less
  rw [if_pos rfl]
  exact Nat.le_refl _
theorem less_runs (h3 : st ≠ 3) (hr : Runs S a b) : Vw S pre q z st a → a.err = 0 → Less S (z.length - pre.length) a b := by
 induction hr with
 | @stop a b h =>
  intro hv h0
  have h1 := vw_mic h3 hv h0
  have := less_mic (T := z.length - pre.length) h0 (hv.qle h0) h1.len
  rw [h] at this
  exact this
 | @more a b c h _ ih =>
  intro hv h0
  have h1 := vw_mic h3 hv h0
  have h2 := less_mic (T := z.length - pre.length) h0 (hv.qle h0) h1.len
  have hg := (goes_mic S a).fal (by rw [h])
  rw [h] at h1 h2 hg
  have i := ih h1 (hg.1.trans h0)
  have hfl : b.fl = a.fl := hg.2.2
  unfold Less at i h2 ⊢
  rw [if_pos hfl] at h2
  rw [hfl] at i
  simp only at h2
  omega
/-- What a Read leaves. -/
theorem vw_reads (h3 : st ≠ 3) {k er : Nat} (hr : Reads S 512 a k er b) : Vw S pre q z st a → a.e ≤ a.fl → a.fl ≤ a.out.length →
  Vw S pre q z st b ∧ b.e = a.e + k ∧ b.e ≤ b.fl ∧ b.fl ≤ b.out.length ∧ (er = 0 → (z.length - pre.length - b.e) / 512 + FN S (z.length - pre.length) b + ind b + 1 ≤ (z.length - pre.length - a.e) / 512 + FN S (z.length - pre.length) a + ind a) := by
 induction hr with
 | @give a h =>
  intro hv h1 h2
  have hl := hv.len
  refine ⟨hv.setE _, rfl, by simp only; omega, h2, fun her => ?_⟩
  have hi : ind a = 1 := by unfold ind; rw [if_pos h]
  have hF : FN S (z.length - pre.length) { a with e := a.e + min 512 (a.fl - a.e) } = FN S (z.length - pre.length) a := rfl
  rw [hi, hF]
  unfold ind
  simp only
  split <;> omega
 | @done a h1 h2 =>
  intro hv h4 h5
  exact ⟨hv, by omega, h4, h5, fun h => absurd h h2⟩
 | @step a b c k er h1 h2 hr _ ih =>
  intro hv h4 h5
  have hv1 := vw_runs h3 hr hv h2
  have hl1 := less_runs h3 hr hv h2
  have hl2 := less_late (S := S) (T := z.length - pre.length) (a := b)
  obtain ⟨g1, g2, g3, _, _⟩ := hr.goes h5
  have g4 := late_ge b g3
  have g5 := late_e b
  obtain ⟨i1, i2, i3, i4, i5⟩ := ih hv1.late (by omega) (late_fl _ g3)
  refine ⟨i1, by omega, i3, i4, fun her => ?_⟩
  have := i5 her
  unfold Less at hl1 hl2
  have hi : ind b.late ≤ (if b.fl = a.fl then 0 else 1) + (if b.late.fl = b.fl then 0 else 1) := by
   unfold ind
   split
   ·split
    ·split <;> omega
    ·omega
   ·omega
  rw [g5, g1] at this
  omega
theorem vw_dr (h3 : st ≠ 3) {e0 i c : Nat} {acc r : List Nat} (hT : z.length - pre.length ≤ e0 + 100000) (hd : Dr S [] i a acc r c b) :
  Vw S pre q z st a → a.e ≤ a.fl → a.fl ≤ a.out.length → e0 + acc.length = a.e → i + ((z.length - pre.length - a.e) / 512 + FN S (z.length - pre.length) a + ind a) < 10000 → c ≠ 3 := by
 have hsz : ∀ i, szAt [] i = 512 := fun _ => rfl
 induction hd with
 | stop h => intro _ _ _ _ h; omega
 | over h1 h2 h4 =>
  intro hv h5 h6 h7 h8
  rw [hsz] at h2
  obtain ⟨i1, i2, i3, i4, _⟩ := vw_reads h3 h2 hv h5 h6
  have := i1.len
  omega
 | fin => intros; exact code_ne3 _
 | next h1 h2 h4 _ ih =>
  intro hv h5 h6 h7 h8
  rw [hsz] at h2
  obtain ⟨i1, i2, i3, i4, i5⟩ := vw_reads h3 h2 hv h5 h6
  have := i5 rfl
  refine ih i1 i3 i4 ?_ (by omega)
  rw [List.length_append, List.length_take, List.length_drop]
  omega
end
end
/-- The law: the machine tells what the reference tells. -/
theorem ref_law {data dict r z : List Nat} {c left q st e' : Nat} (hl : data.length ≤ 20000) (hz : z.length ≤ dict.length + 50000) (hI : InfR data dict [] r c left) (hR : RI (srcOf data) 0 dict dict.length q z st e') (h3 : st ≠ 3) :
  (st = 0 ∧ c = 0 ∧ r = z.drop dict.length ∧ left = data.length - (q + 7) / 8) ∨ (st = 1 ∧ (c = 1 ∨ c = 2 ∧ 8 * data.length < q + 16) ∧ Pre r (z.drop dict.length)) ∨ (st = 2 ∧ c = 2 ∧ Pre r (z.drop dict.length)) := by
 obtain ⟨b, hd, hleft⟩ := hI
 have hN : (srcOf data).N = data.length := rfl
 have hwl := lastW_length dict
 obtain ⟨pre, hpre⟩ : ∃ pre, dict.take (dict.length - 32768) = pre := ⟨_, rfl⟩
 have hsplit : dict = pre ++ lastW dict := by unfold lastW; rw [← hpre]; exact (List.take_append_drop _ _).symm
 have hpl : pre.length + (lastW dict).length = dict.length := by rw [hwl, ← hpre, List.length_take]; omega
 have ht : Tl pre (lastW dict) dict := ⟨hsplit, by
  by_cases h : dict.length ≤ 32768
  ·left; rw [← hpre, show dict.length - 32768 = 0 by omega]; rfl
  ·right; omega⟩
 have hv : Vw (srcOf data) pre q z st (A0 dict) := .next rfl rfl (by show 0 = (0 + 7) / 8; decide) (Nat.zero_le _) ht hR
 have e0 : (A0 dict).e = (lastW dict).length := rfl
 have f0 : (A0 dict).fl = (lastW dict).length := rfl
 have o0 : (A0 dict).out = lastW dict := rfl
 have hc3 : c ≠ 3 := by
  refine vw_dr (e0 := (lastW dict).length) h3 (by omega) hd hv (Nat.le_of_eq (e0.trans f0.symm)) (Nat.le_of_eq (by rw [f0, o0])) (by rw [e0, List.length_nil, Nat.add_zero]) ?_
  have hq0 : qv (A0 dict) = 0 := rfl
  have hF : FN (srcOf data) (z.length - pre.length) (A0 dict) = 2 + (8 * data.length - 0) / 35 + ((z.length - pre.length) / 32768 - (lastW dict).length / 32768) := by
   unfold FN
   rw [if_neg (show ¬ (A0 dict).err ≠ 0 from fun h => h rfl), hq0, o0, hN]
  have hi : ind (A0 dict) = 0 := by unfold ind; rw [e0, f0, if_neg (by omega)]
  rw [hF, hi, e0]
  omega
 obtain ⟨y, hch, h1, h2, h4, h5⟩ := hd.ch hc3 (Nat.le_refl _) (Nat.le_refl _)
 obtain ⟨k1, ⟨x, k2⟩, k3, k4⟩ := hch.fin (Nat.le_refl _)
 have hvy := vw_ch h3 hch hv
 rw [e0] at h4 h5
 rw [o0] at k2
 rw [List.nil_append] at h5
 have hdrop : ∀ w : List Nat, (pre ++ (y.out ++ w)).drop dict.length = y.out.drop (lastW dict).length ++ w := fun w => by
  rw [← hpl, ← List.drop_drop, List.drop_left, List.drop_append_of_le_length (by rw [k2, List.length_append]; omega)]
 have hpre2 : ∀ {r1 : List Nat}, Tl pre y.out r1 → Pre r1 z → Pre r (z.drop dict.length) := by
  rintro r1 ⟨rfl, _⟩ ⟨w, rfl⟩
  rw [List.append_assoc, hdrop, h5]
  exact ⟨(y.out.drop (lastW dict).length).drop (y.fl - (lastW dict).length) ++ w, by rw [← List.append_assoc, List.take_append_drop]⟩
 cases hvy with
 | next _ h => exact absurd h k1
 | data _ h => exact absurd h k1
 | huff _ h => exact absurd h k1
 | copy _ h => exact absurd h k1
 | good g1 g2 g3 g4 g5 =>
  refine .inl ⟨g2, by rw [h1, g1]; rfl, ?_, by rw [hleft, h2, g3]⟩
  have e : z = pre ++ (y.out ++ []) := by rw [List.append_nil]; exact g5.1
  rw [e, hdrop, List.append_nil, h5, g4, List.take_of_length_le (by rw [List.length_drop]; omega)]
 | short g1 g2 g3 g4 =>
  have hc : c = 2 := by rw [h1, g1]; rfl
  rcases g2 with rfl | ⟨rfl, g2⟩
  ·exact .inr (.inr ⟨rfl, hc, hpre2 g3 g4⟩)
  ·exact .inr (.inl ⟨rfl, .inr ⟨hc, g2⟩, hpre2 g3 g4⟩)
 | bad g1 g2 g3 g4 => exact .inr (.inl ⟨g2, .inl (by rw [h1, g1]; rfl), hpre2 g3 g4⟩)
end Go.Proofs.YtejeloeaklpinaaDoor
namespace Go.Proofs.YtejeloeaklpinaaDoor
theorem Ag.take {w : World} {a : Option Addr} {m c : Nat} {xs : List Nat} (h : Ag w (.slice a m c) xs) {n : Nat} (hn : n ≤ xs.length) : Ag w (.slice a n c) (xs.take n) := by
 obtain ⟨a', c', h1, h2⟩ := h
 cases h1
 refine ⟨_, _, by rw [List.length_take, Nat.min_eq_left hn], fun j hj => ?_⟩
 rw [List.length_take, Nat.min_eq_left hn] at hj
 obtain ⟨ad, h3, h4⟩ := h2 j (by omega)
 refine ⟨ad, h3, ?_⟩
 rw [h4, List.getD_eq_getElem?_getD, List.getD_eq_getElem?_getD, List.getElem?_take, if_pos hj]
theorem Ag.len {w : World} {a : Option Addr} {m c : Nat} {xs : List Nat} (h : Ag w (.slice a m c) xs) : m = xs.length := by
 obtain ⟨a', c', h1, h2⟩ := h
 cases h1
 rfl
attribute [local irreducible] wpList wpStill wpMix Code.wp Calls fr aE eOp
end Go.Proofs.YtejeloeaklpinaaDoor
namespace Go.Proofs.YtejeloeaklpinaaDoor
theorem far_S : srcOf [3, 2, 0] = ⟨3, 515⟩ := by kernel_rfl
theorem far_s1 : rsym ⟨3, 515⟩ fixL 3 = .ok 257 10 0 := by
 unfold rsym
 have h : lkL fixL (515 / 2 ^ 3) = 4119 := by decide +kernel
 simp only
 rw [h, if_neg (by decide), if_pos (by decide)]
theorem far_s2 : rsym ⟨3, 515⟩ (List.replicate 32 5) 10 = .ok 0 15 0 := by
 unfold rsym
 have h : lkL (List.replicate 32 5) (515 / 2 ^ 10) = 5 := by decide +kernel
 simp only
 rw [h, if_neg (by decide), if_pos (by decide)]
theorem far_s3 : rsym ⟨3, 515⟩ fixL 15 = .ok 256 22 0 := by
 unfold rsym
 have h : lkL fixL (515 / 2 ^ 15) = 4103 := by decide +kernel
 simp only
 rw [h, if_neg (by decide), if_pos (by decide)]
theorem far_eob {out o1 : List Nat} {p1 s1 : Nat} (h : RH ⟨3, 515⟩ fixL (List.replicate 32 5) 15 out p1 o1 s1) : s1 = 0 ∧ o1 = out := by
 cases h with
 | short h => rw [far_s3] at h; cases h
 | bad h => rw [far_s3] at h; cases h
 | eob h => exact ⟨rfl, rfl⟩
 | lit h h2 => rw [far_s3] at h; cases h; omega
 | big h h2 => rw [far_s3] at h; cases h; omega
 | lshort h h2 => rw [far_s3] at h; cases h; omega
 | dshort h h2 => rw [far_s3] at h; cases h; omega
 | dbad h h2 => rw [far_s3] at h; cases h; omega
 | dbig h h2 => rw [far_s3] at h; cases h; omega
 | xshort h h2 => rw [far_s3] at h; cases h; omega
 | far h h2 => rw [far_s3] at h; cases h; omega
 | copy h h2 => rw [far_s3] at h; cases h; omega
theorem lz13 (out : List Nat) : lz out 1 3 = out ++ [out.getD (out.length - 1) 0, out.getD (out.length - 1) 0, out.getD (out.length - 1) 0] := by
 have e : ∀ (l : List Nat) (x : Nat), (l ++ [x]).getD ((l ++ [x]).length - 1) 0 = x := fun l x => by
  rw [getD_app, List.length_append, List.length_singleton, if_neg (by omega), show l.length + 1 - 1 - l.length = 0 by omega]; rfl
 simp only [lz]
 rw [e, e, List.append_assoc, List.append_assoc]
 rfl
theorem far_rh {out o1 : List Nat} {p1 s1 : Nat} (h : RH ⟨3, 515⟩ fixL (List.replicate 32 5) 3 out p1 o1 s1) : (out = [] ∧ s1 = 1 ∧ o1 = out) ∨ (out ≠ [] ∧ s1 = 0 ∧ o1 = lz out 1 3) := by
 have hl : lenOf 257 = (3, 0) := by decide
 have hb : dBits 0 = 0 := by decide
 have hd : dBase 0 = 1 := by decide
 have hx2 : rsym ⟨3, 515⟩ (List.replicate 32 5) (10 + (lenOf 257).2) = .ok 0 15 0 := by rw [hl]; exact far_s2
 cases h with
 | short h => rw [far_s1] at h; cases h
 | bad h => rw [far_s1] at h; cases h
 | eob h => rw [far_s1] at h; cases h
 | lit h h2 => rw [far_s1] at h; cases h; omega
 | big h h2 => rw [far_s1] at h; cases h; omega
 | lshort h _ _ h2 => rw [far_s1] at h; cases h; rw [hl] at h2; simp only at h2; omega
 | dshort h _ _ _ h2 => rw [far_s1] at h; cases h; rw [hx2] at h2; cases h2
 | dbad h _ _ _ h2 => rw [far_s1] at h; cases h; rw [hx2] at h2; cases h2
 | dbig h _ _ _ h2 h3 => rw [far_s1] at h; cases h; rw [hx2] at h2; cases h2; omega
 | xshort h _ _ _ h2 _ h3 => rw [far_s1] at h; cases h; rw [hx2] at h2; cases h2; rw [hb] at h3; simp only at h3; omega
 | far h _ _ _ h2 _ _ h3 =>
  rw [far_s1] at h; cases h; rw [hx2] at h2; cases h2
  rw [hb, hd, bv_zero] at h3
  exact .inl ⟨List.eq_nil_of_length_eq_zero (by omega), rfl, rfl⟩
 | copy h _ _ _ h2 _ _ h3 _ h4 =>
  rw [far_s1] at h; cases h; rw [hx2] at h2; cases h2
  rw [hb, hd, bv_zero] at h3
  rw [hb, hd, hl, bv_zero, bv_zero] at h4
  obtain ⟨h5, h6⟩ := far_eob h4
  exact .inr ⟨by intro e; subst e; simp at h3, h5, h6⟩
/-- What the reference makes of the stream. -/
theorem far_ri {dict z : List Nat} {q st e' : Nat} (h : RI (srcOf [3, 2, 0]) 0 dict dict.length q z st e') : (dict = [] ∧ st = 1 ∧ z = []) ∨ (dict ≠ [] ∧ st = 0 ∧ z = lz dict 1 3) := by
 rw [far_S] at h
 have hb : bv 515 0 3 = 3 := by decide
 have key : ∀ {p1 s1 : Nat} {o1 : List Nat}, RBk ⟨3, 515⟩ (bv 515 0 3 / 2) (0 + 3) dict p1 o1 s1 → (dict = [] ∧ s1 = 1 ∧ o1 = dict) ∨ (dict ≠ [] ∧ s1 = 0 ∧ o1 = lz dict 1 3) := by
  intro p1 s1 o1 h
  rw [hb] at h
  rcases h with ⟨h, _⟩ | ⟨_, h⟩ | ⟨h, _⟩ | ⟨h, _⟩
  ·omega
  ·exact far_rh h
  ·omega
  ·omega
 cases h with
 | short h => simp only at h; omega
 | fail _ h h2 =>
  rcases key h with ⟨h3, h4, h5⟩ | ⟨h3, h4, h5⟩
  ·exact .inl ⟨h3, h4, by rw [h5, h3]⟩
  ·exact absurd h4 h2
 | last _ h _ =>
  rcases key h with ⟨h3, h4, h5⟩ | ⟨h3, h4, h5⟩
  ·cases h4
  ·exact .inr ⟨h3, rfl, h5⟩
 | more _ h h2 =>
  simp only at h2
  rw [hb] at h2
  omega
/-- A stream that is refused in its first step. -/
theorem run_law {data : List Nat} {b : A} (hm : Runs (srcOf data) (A0 []) b) (he : b.err ≠ 0) (ho : b.out = []) (h1 : b.fl = 0) (h2 : b.e = 0) {r : List Nat} {c left : Nat} (hI : InfR data [] [] r c left) : c = code b.err ∧ r = [] := by
 obtain ⟨a, hd, _⟩ := hI
 have hl : b.late = b := by
  unfold A.late
  split
  ·have : b.out.length = b.fl := by rw [ho, h1]; rfl
   unfold A.flush; rw [this]
  ·rfl
 have e0 : (A0 []).e = (A0 []).fl := rfl
 have hrd : Reads (srcOf data) (szAt [] 0) (A0 []) 0 b.err b := by
  refine .step e0 rfl hm ?_
  rw [hl]
  exact .done (by omega) he
 have key : ∀ k er a', Reads (srcOf data) (szAt [] 0) (A0 []) k er a' → k = 0 ∧ er = b.err := fun k er a' hx => by
  obtain ⟨h1, h2, _⟩ := hx.det hrd
  exact ⟨h1, h2⟩
 cases hd with
 | stop h0 => omega
 | over _ hx h3 => obtain ⟨rfl, rfl⟩ := key _ _ _ hx; simp at h3
 | fin _ hx h3 h4 => obtain ⟨rfl, rfl⟩ := key _ _ _ hx; exact ⟨rfl, by simp⟩
 | next _ hx h3 h4 => have := (key _ _ _ hx).2; omega
/-- Without a dictionary the machine refuses. -/
theorem far_nil {r : List Nat} {c left : Nat} (hI : InfR [3, 2, 0] [] [] r c left) : c = 1 ∧ r = [] := by
 have hl : lastW [] = [] := lastW_nil
 have hb : bv 515 0 3 = 3 := by decide
 have m1 : mic (srcOf [3, 2, 0]) (A0 []) = ({ A0 [] with p := 3, pos := 1, fin := true, md := .huff (cdL fixL) none none }, false) := by
  rw [far_S, mic_next rfl]
  unfold mNext
  have e1 : (A0 []).p = 0 := rfl
  have e2 : (A0 []).pos = 0 := rfl
  rw [e1, e2, if_neg (by simp only; omega)]
  simp only
  rw [hb, if_neg (by decide), if_pos (by decide)]
  rfl
 have hg : getSym ⟨3, 515⟩ (cdL fixL) 3 1 = .ok 257 10 2 := by
  unfold getSym cdL
  have h : lkL fixL (515 / 2 ^ 3) = 4119 := by decide +kernel
  simp only
  rw [h, fix_mn, if_neg (by decide), if_pos (by decide)]
  rfl
 have hgl : getLen ⟨3, 515⟩ 257 10 2 = .ok 3 10 2 := getLen_0 (by decide) (by decide)
 have hbv : bv 515 10 5 = 0 := by decide
 have hgd : getDist ⟨3, 515⟩ none 10 2 = .ok 1 15 2 := by
  have h := ds_none (S := ⟨3, 515⟩) (p := 10) (pos := 2) (by decide)
  simp only at h
  rw [hbv] at h
  exact gd_small h (by decide)
 have m2 : ∀ a : A, a.md = .huff (cdL fixL) none none → a.p = 3 → a.pos = 1 → a.out = [] → mic (srcOf [3, 2, 0]) a = ({ a with p := 15, pos := 2 }.bad, true) := by
  intro a h1 h2 h3 h4
  rw [far_S, mic_huff h1, mh_len (v := 257) (p := 10) (pos := 2) (by rw [h2, h3]; exact hg) (by decide) (by decide), hgl]
  simp only
  rw [hgd]
  simp only
  rw [if_pos (by rw [h4]; decide)]
 have hz : (lastW []).length = 0 := by rw [hl]; rfl
 exact run_law (.more m1 (.stop (m2 _ rfl rfl rfl hl))) (by show (3 : Nat) ≠ 0; decide) hl hz hz hI
section
variable {ρ : Operand → Value} {d : Option Nat} {x y z : Operand} {ty : TypeId} {pos : String} {af : Array Edge} {gd : Option (Nat × Bool)} {w : World}
theorem bs3 {h0 h1 h2 : Int} (hx : ρ x = .int .u8 h0) (hy : ρ y = .int .u8 h1) (hz : ρ z = .int .u8 h2) : (execOp ρ ⟨d, .buildSlice 22 3 #[(0, x), (1, y), (2, z)], ty, pos, af, gd⟩).run Tryd.prog w = .ok (.value (.slice (some ⟨w.heap.size, 0, none⟩) 3 3)) (w.alloc (.cells #[.int .u8 h0, .int .u8 h1, .int .u8 h2] 5)) := by
 simp only [execOp, List.map_toArray, List.map_cons, List.map_nil, hx, hy, hz]
 kernel_rfl
end
theorem sl3 (w : World) (a b c : Nat) : Sl (w.alloc (.cells #[.int .u8 (a : Int), .int .u8 (b : Int), .int .u8 (c : Int)] 5)) (.slice (some ⟨w.heap.size, 0, none⟩) 3 3) [a, b, c] := by
 refine .inr ⟨w.heap.size, 3, fun k => .int .u8 (([a, b, c].getD k 0 : Nat) : Int), rfl, Bk.newOf w _ 5 3 _ rfl, Nat.le_refl _, by decide, fun k hk => rfl⟩
attribute [local irreducible] wpList wpStill wpMix Code.wp Calls fr aE eOp
set_option maxHeartbeats 1000000 in
theorem fnFar_w (E0 : Env) (w : World) (hG : Gl E0 w) (xv : Value) (dict : List Nat) (hX : Ag w xv dict) (hb : ∀ x ∈ dict, x < 256) (hL : dict.length ≤ 140737488351232) :
  Ret 4 [xv] w fun v w' => v = .bool true ∧ Kp [] w w' := by
 have hXb : Bytes dict := ⟨hb, by omega⟩
 obtain ⟨xa, xc, rfl, _⟩ := id hX
 have kp := Kp.refl [] w
 refine calls_fr (N := 58) Tryd.func4 rfl rfl (by simp) rfl ?_
 refine sqr ?_
 refine Ab rfl ?_
 refine nt ?_
 refine sqr ?_
 refine L1 (bs3 rfl rfl rfl) ?_
 have hS0 := sl3 w 3 2 0
 have kp := kp.alloc (.cells #[.int .u8 3, .int .u8 2, .int .u8 0] 5)
 have hs1 : w.heap.size ≤ (w.alloc (.cells #[.int .u8 3, .int .u8 2, .int .u8 0] 5)).heap.size := kp.size
 obtain ⟨w1, hw1⟩ : ∃ z, w.alloc (.cells #[.int .u8 3, .int .u8 2, .int .u8 0] 5) = z := ⟨_, rfl⟩
 have hS : Sl w1 (.slice (some ⟨w.heap.size, 0, none⟩) 3 3) [3, 2, 0] := by rw [← hw1]; exact hS0
 rw [hw1] at kp hs1 ⊢
 have hA := hS.ag
 refine L1 (asg (v := (.slice (some ⟨w.heap.size, 0, none⟩) 3 3)) rfl) ?_
 refine nt ?_
 refine sqr ?_
 refine L1 (mv (v := (.slice (some ⟨w.heap.size, 0, none⟩) 3 3)) rfl) ?_
 refine L1 (mv (v := (.slice xa dict.length xc)) rfl) ?_
 refine LC (cl2 has11 rfl rfl rfl) (inflate_r _ _ _ [3, 2, 0] dict hA (by decide) (by decide) (hX.kp kp) (by simp only [List.length_cons, List.length_nil]; omega)) ?_
 rintro v w3 ⟨sa, sc, q, z, st, e', i3, rfl, hri, hAg, hsc, kp3, hq, hzl⟩
 have hA := hA.kp kp3
 have kp := kp.trans kp3
 have hdl : z.length - dict.length = (z.drop dict.length).length := List.length_drop.symm
 rw [hdl] at hAg hsc ⊢
 refine Lal31 ?_
 intro D5 w4 hDe hD kp4 hsz4
 have hDw : w.heap.size ≤ D5 := by have := kp.size; omega
 have kp := kp.trans kp4
 refine Lst31 rfl rfl ⟨rfl, rfl, rfl, rfl, rfl⟩ hD ?_
 intro w5 hD kp5 _
 have hA := hA.kp (kp4.transNew kp5 (by simp; omega))
 refine nt ?_
 refine sqr ?_
 refine L1 (mv (v := (.slice (some ⟨w.heap.size, 0, none⟩) 3 3)) rfl) ?_
 refine L1 (mv (v := (.slice xa dict.length xc)) rfl) ?_
 have kp := kp.transNew kp5 (by simp; omega)
 refine LC (cl3 has9 rfl rfl rfl rfl) (inflate_c E0 _ (hG.kp kp (by simp)) _ _ [3, 2, 0] dict hA ⟨by decide, by decide⟩ (hX.kp kp) hXb none 0 [] (by simp) (by simp) (hc_of _ _)) ?_
 rintro v w6 ⟨r, c, left, ov, rfl, hSl, hI, kp6, hown⟩
 obtain ⟨oa, oc, rfl⟩ := hSl.val
 have hF := hSl.ag
 have hD := hD.kp kp6 (by simp)
 have kp := kp.trans kp6
 refine L1 (mv (v := .tuple _) rfl) ?_
 refine L1 (ext3_0 rfl) ?_
 refine L1 (ext3_1 rfl) ?_
 refine L1 (ext3_2 rfl) ?_
 refine L1 (asg (v := (.slice oa r.length oc)) rfl) ?_
 refine Ai rfl ?_
 refine Ai rfl ?_
 refine wpList_nil ?_
 rcases far_ri hri with ⟨rfl, rfl, rfl⟩ | ⟨hne, rfl, hz⟩
 ·skip
  obtain ⟨rfl, hr0⟩ := far_nil hI
  have hrl : r.length = 0 := by rw [hr0]; rfl
  refine then_n ?_
  refine wp_seq ?_
  refine sqr ?_
  refine Ms rfl ?_
  refine L1 (ln und22 rfl) ?_
  refine L1 (bi rfl rfl (bn_eql (v := true) (decide_eq_true rfl))) ?_
  refine nt ?_
  refine cond_t rfl ?_
  refine sqr ?_
  refine L1 (fa31_1 rfl) ?_
  refine L1 (ld3 rfl (hD.cellv (v := .int _ _) (by decide) rfl)) ?_
  refine L1 (bi rfl rfl (bn_eql (v := true) (decide_eq_true rfl))) ?_
  refine Mb rfl ?_
  refine L1g (t := 26) (b := true) rfl (by decide) rfl (mv (v := .int _ _) rfl) ?_
  refine L1g (t := 26) (b := true) rfl (by decide) rfl (bi rfl rfl (bn_eql (v := true) (decide_eq_true rfl))) ?_
  refine L1 (pk_t rfl rfl) ?_
  refine Mb rfl ?_
  refine L1g (t := 30) (b := true) rfl (by decide) rfl (mv (v := (.slice oa r.length oc)) rfl) ?_
  refine L1g (t := 30) (b := true) rfl (by decide) rfl (ln und22 rfl) ?_
  refine L1g (t := 30) (b := true) rfl (by decide) rfl (bi rfl rfl (bn_eql (v := true) (decide_eq_true (by omega)))) ?_
  refine L1 (pk_t rfl rfl) ?_
  refine Ab rfl ?_
  refine nt ?_
  refine wp_ret ?_
  refine then_r ?_
  refine ret1 rfl rfl ?_
  exact ⟨_, rfl, rfl, kp⟩
 ·skip
  have hn0 : dict.length ≠ 0 := fun h => hne (List.eq_nil_of_length_eq_zero h)
  obtain ⟨l, hle⟩ : ∃ l, dict.getD (dict.length - 1) 0 = l := ⟨_, rfl⟩
  have hz3 : z = dict ++ [l, l, l] := by rw [hz, lz13, hle]
  have hzd : z.drop dict.length = [l, l, l] := by rw [hz3, List.drop_left]
  rcases ref_law (by decide) (by rw [hz3, List.length_append]; simp) hI hri (by decide) with ⟨_, rfl, hr, _⟩ | ⟨h, _⟩ | ⟨h, _⟩
  ·skip
   rw [hzd] at hr
   obtain ⟨xa', xc', hxe, hcell⟩ := hX
   cases hxe
   obtain ⟨ad, rfl, hc⟩ := hcell (dict.length - 1) (by omega)
   rw [hle] at hc
   refine then_n ?_
   refine wp_seq ?_
   refine sqr ?_
   refine L1 (mv (v := (.slice (some ad) dict.length xc)) rfl) ?_
   refine L1 (ln und22 rfl) ?_
   refine L1 (bi rfl rfl (bn_eql (v := false) (decide_eq_false (by omega)))) ?_
   refine nt ?_
   refine cond_f rfl ?_
   refine skn ?_
   refine sqr ?_
   refine L1 (mv (v := (.slice (some ad) dict.length xc)) rfl) ?_
   refine L1 (mv (v := (.slice (some ad) dict.length xc)) rfl) ?_
   refine L1 (ln und22 rfl) ?_
   refine L1 (bi rfl rfl (bn_sub (c := ((dict.length - 1 : Nat) : Int)) (by omega) (by omega) (by omega))) ?_
   refine L1 (ixg und22 sz5 rfl rfl rfl (by omega)) ?_
   refine L1 (ld5 (v := .int .u8 ((l : Nat) : Int)) rfl (kp.cell hc (by simp))) ?_
   refine Ai rfl ?_
   refine nt ?_
   refine sqr ?_
   refine L1 (fa31_1 rfl) ?_
   refine L1 (ld3 rfl (hD.cellv (v := .int _ _) (by decide) rfl)) ?_
   refine L1 (bi rfl rfl (bn_eql (v := true) (decide_eq_true rfl))) ?_
   refine Mb rfl ?_
   refine L1g (t := 44) (b := true) rfl (by decide) rfl (mv (v := .int _ _) rfl) ?_
   refine L1g (t := 44) (b := true) rfl (by decide) rfl (bi rfl rfl (bn_eql (v := true) (decide_eq_true rfl))) ?_
   refine L1 (pk_t rfl rfl) ?_
   refine Mb rfl ?_
   refine L1g (t := 48) (b := true) rfl (by decide) rfl (mv (v := (.slice oa r.length oc)) rfl) ?_
   refine L1g (t := 48) (b := true) rfl (by decide) rfl (cvs rfl hF) ?_
   refine L1g (t := 48) (b := true) rfl (by decide) rfl (mv (v := .int _ _) rfl) ?_
   refine L1g (t := 48) (b := true) rfl (by decide) rfl (mv (v := .int _ _) rfl) ?_
   refine L1g (t := 48) (b := true) rfl (by decide) rfl (mv (v := .int _ _) rfl) ?_
   refine L1g (t := 48) (b := true) rfl (by decide) rfl (bs3 rfl rfl rfl) ?_
   have hS3 := (sl3 w6 l l l).ag
   have kp := kp.alloc (.cells #[.int .u8 (l : Int), .int .u8 (l : Int), .int .u8 (l : Int)] 5)
   refine L1g (t := 48) (b := true) rfl (by decide) rfl (cvs rfl hS3) ?_
   refine L1g (t := 48) (b := true) rfl (by decide) rfl (bis (v := true) rfl rfl (congrArg bstr hr)) ?_
   refine L1 (pk_t rfl rfl) ?_
   refine Ab rfl ?_
   refine nt ?_
   refine wp_ret ?_
   refine ret1 rfl rfl ?_
   exact ⟨_, rfl, rfl, kp⟩
  ·cases h
  ·cases h
end Go.Proofs.YtejeloeaklpinaaDoor
namespace Go.Proofs.YtejeloeaklpinaaDoor
open Go.ChangeShapes Go.WideShapes Go.ChangeAt Go.RowKit
theorem ownKn : ownKnob Tryd.prog.godebug = none := by kernel_rfl
/-- So many blocks has the settled world. -/
noncomputable def low : Nat := (World.holding Tryd.prog default ⟨#[], #[], []⟩).heap.size
noncomputable def laidWorld (os : Os) : World :=
 let w0 := World.holding Tryd.prog os ⟨#[.cells #[.string ⟨#[69, 79, 70]⟩] 150, .cells #[.string ⟨#[117, 110, 101, 120, 112, 101, 99, 116, 101, 100, 32, 69, 79, 70]⟩] 150, .cells #[.string ⟨#[115, 104, 111, 114, 116, 32, 98, 117, 102, 102, 101, 114]⟩] 150], #[], []⟩
 let put (g : Nat) (c : Array Value) (w : World) : World := { w with heap := w.heap.modify g fun
   | .cells _ t frozen => .cells c t frozen
   | o => o }
 put 0 #[.iface 131 (.pointer (some ⟨low, 0, none⟩))] (put 1 #[.iface 131 (.pointer (some ⟨low + 1, 0, none⟩))] (put 3 #[.iface 131 (.pointer (some ⟨low + 2, 0, none⟩))]
  (put 2 #[.int .i64 16, .int .i64 17, .int .i64 18, .int .i64 0, .int .i64 8, .int .i64 7, .int .i64 9, .int .i64 6, .int .i64 10, .int .i64 5, .int .i64 11, .int .i64 4, .int .i64 12, .int .i64 3, .int .i64 13, .int .i64 2, .int .i64 14, .int .i64 1, .int .i64 15] w0)))
theorem laid_met (os : Os) (args : Array Value) : laidMet Tryd.prog laidL ((laidWorld os).forCall (fun _ _ => 0) ⟨#[], args, []⟩).memory :=
 laidMet_of_run' 8 (by kernel_rfl) (by kernel_rfl)
end Go.Proofs.YtejeloeaklpinaaDoor
namespace Go.Proofs.YtejeloeaklpinaaDoor
open Go.ChangeShapes Go.WideShapes Go.ChangeAt Go.RowKit
theorem far_reads (os : Os) {H : Type} (enc : TypeId × Value → H) : DataW.whole enc Tryd.prog ((laidWorld os).forCall (fun _ _ => 0) ⟨#[], #[.slice none 0 0], []⟩).memory Tryd.f4.params.toList Rows.fnFarSpec.vars false [Value.slice none 0 0] 8 = some ([.nil], [Rows.laid_loop_example_pub_g03122_pub_flate_codeOrder], (List.range 19).map (MemPlace.cell 2 ·)) := by kernel_rfl
theorem far_par : ∀ t ∈ Tryd.f4.params.toList, Tryd.prog.readableRec t = true ∧ t < Tryd.prog.types.size := by
 rw [Tryd.params4]
 intro t ht
 simp at ht
 subst ht
 exact ⟨by kernel_rfl, of_decide_eq_true (by kernel_rfl)⟩
theorem bytes5f : Tryd.prog.bytesOf 5 = 1 := by kernel_rfl
set_option maxRecDepth 100000 in
theorem far_lifted (os : Os) (started : os.Started) (H : Type) (enc : TypeId × Value → H) (F : Stop.Interp) :
  ReturnsInHanded {} Tryd.checked os 4 .any ((OpenSpec.ofChange Rows.fnFarSpec).preRow enc Tryd.prog Tryd.f4 Rows.fnFarRow.domain false Rows.fnFarRow.laid) (((OpenSpec.ofChange Rows.fnFarSpec).at F).post enc Tryd.prog Tryd.f4 false true false false) := by
 have hx := far_reads os enc
 refine returnsInHanded_of_row (C := Tryd.checked) (s := OpenSpec.ofChange Rows.fnFarSpec) ownKn started (by kernel_rfl) Tryd.func4
  (witness_row_at (enc := enc) (C := Tryd.checked) false (laidWorld os) #[.slice none 0 0] rfl (by kernel_rfl) (by kernel_rfl) (by kernel_rfl)
   (OpenSpec.preRow_of_cond 8 hx (by kernel_rfl) (fun k hk => by cases hk) (by kernel_rfl) (laid_met os _))) ?_
 intro W base args ds gs before hval hW _ _ hsz hL _ _
 have hW' := hW
 obtain ⟨p, q, hA0, hV, rfl, hfz, hnd⟩ := hW
 have hA : DataW.TrodAll enc Tryd.prog W 0 (fun _ => true) true Tryd.f4.params.toList args.toList ds p := hA0
 have hval' : ∀ (j : Nat) t v, Tryd.f4.params[j]? = some t → args[j]? = some v → Value.okWide Tryd.prog W .any base t v := hval
 rw [Tryd.params4] at hA hval'
 obtain ⟨v0, d0, rfl, rfl, h0⟩ := trodAll_one hA
 obtain ⟨dict, hA1, hb1, hl1⟩ := openBytes (hval' 0 22 v0 rfl rfl) h0
 obtain ⟨E0, hG, _⟩ := gl_of_laid (W := W) hL
 have hL1 : dict.length ≤ 140737488351232 := by
  rcases hl1 with h | ⟨el, rs, rfl, h⟩
  ·omega
  ·have := sized_slice (P := Tryd.prog) (j := 0) (t := 22) (e := 5) hsz (by rw [Tryd.params4]; rfl) rfl und22
   rw [bytes5f] at this
   simp only [reachBytes] at this
   omega
 obtain ⟨g, rfl⟩ : ∃ g, gs = [g] := by
  have hV' : DataW.TrodVars enc Tryd.prog W (fun _ => true) ["loop.example/pub-g03122/pub/flate.codeOrder"] gs q := hV
  obtain ⟨_, _, _, _, d, _, rfl, _⟩ := trodVars_one hV'
  exact ⟨d, rfl⟩
 refine (fnFar_w E0 W hG v0 dict hA1 hb1 hL1).mono fun e W' ⟨v, he, hv, kp⟩ => ?_
 subst hv
 exact ⟨_, he, post_true (s := Rows.fnFarSpec) hW' kp rfl rfl far_par rfl⟩
theorem far_said : Rows.FnFarSaid :=
 OpenClaim.holds_of_cond 4 Tryd.f4 rfl rfl rfl rfl rfl rfl rfl ⟨rfl, rfl, rfl, rfl, rfl⟩ rfl rfl rfl rfl rfl (by kernel_rfl) Tryd.func4 (by kernel_rfl)
  (of_decide_eq_true (by kernel_rfl)) (by unfold Func.isWrapper; first | (rw [if_pos (by decide +kernel)]; kernel_rfl) | (rw [if_neg (by decide +kernel)]; exact ⟨rfl, rfl⟩))
  (fun os started H enc _ F => by rw [OpenClaim.pre_eq_preRow]; exact far_lifted os started H enc F)
theorem far_plain (f : FuncId) (fn : Func) (hf : Tryd.pinned.checked.prog.funcNamed Rows.fnFarRow.func = some f) (hfn : Tryd.pinned.checked.prog.funcs[f]? = some fn) :
  true = Tryd.pinned.checked.prog.looks [] ∧ ∀ (j : Nat) t, fn.params[j]? = some t → Tryd.pinned.checked.prog.wantsStandIn t = false := by
 obtain rfl : f = 4 := Option.some.inj ((show Tryd.prog.funcNamed Rows.fnFarRow.func = some 4 by kernel_rfl).symm.trans hf) |>.symm
 obtain rfl : fn = Tryd.f4 := (Option.some.inj (Tryd.func4.symm.trans hfn)).symm
 refine ⟨by kernel_rfl, fun j t ht => ?_⟩
 rw [Tryd.params4] at ht
 have hm := Array.mem_of_getElem? ht
 simp at hm
 subst hm
 exact (show Tryd.prog.wantsStandIn 22 = false by kernel_rfl)
theorem far_card : Rows.FnFarCardSaid :=
 Claim7.holds_tied_plain_at .later [] _ _ _ _ far_said (fun _ h => by cases h) (by kernel_rfl) (fun _ h => by cases h) fnFar_row_tie rfl ⟨rfl, rfl⟩ (by kernel_rfl) rfl far_plain (by kernel_rfl)
end Go.Proofs.YtejeloeaklpinaaDoor
