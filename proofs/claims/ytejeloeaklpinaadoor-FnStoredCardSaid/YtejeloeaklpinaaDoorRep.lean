/- What the blocks of a reader hold where it stands for a state of the machine. -/
import Derived.Test.YtejeloeaklpinaaDoorFin
import Derived.Test.YtejeloeaklpinaaDoorIo
namespace Go.Proofs.YtejeloeaklpinaaDoor
/-- A set of codes that lies in cells told by gx from o on: least length, 512 chunks, links, mask. -/
def HTab (E : Env) (w : World) (gx : Nat → Value) (o : Nat) (c : Cd) : Prop :=
  gx o = .int .i64 (c.m : Int) ∧ ∃ (la : Option Addr) (ll lc mask : Nat), gx (o + 513) = .slice la ll lc ∧ gx (o + 514) = .int .u32 (mask : Int) ∧ mask < 4294967296 ∧
  ∀ x : Nat, c.lk x < 4294967296 ∧ ∃ ch : Nat, gx (o + 1 + x % 512) = .int .u32 (ch : Int) ∧ ch < 4294967296 ∧
    ((ch % 16 ≤ 9 ∧ c.lk x = ch) ∨
     (9 < ch % 16 ∧ ch / 16 < ll ∧ ∃ lb lo ib io il ic, la = some ⟨lb, lo, none⟩ ∧ lb ∉ E.X ∧ ib ∉ E.X ∧ w.cell? ⟨lb, lo + ch / 16, none⟩ = some (.slice (some ⟨ib, io, none⟩) il ic) ∧
      (x / 512) &&& mask < il ∧ w.cell? ⟨ib, io + ((x / 512) &&& mask), none⟩ = some (.int .u32 (c.lk x : Int))))
theorem HTab.keep {E : Env} {w w' : World} {gx gx' : Nat → Value} {o : Nat} {c : Cd} (h : HTab E w gx o c) (k : Kp E.X w w') (hg : ∀ j, o ≤ j → j < o + 515 → gx' j = gx j) : HTab E w' gx' o c := by
  obtain ⟨h0, la, ll, lc, mask, h1, h2, h3, h4⟩ := h
  refine ⟨(hg o (by omega) (by omega)).trans h0, la, ll, lc, mask, (hg _ (by omega) (by omega)).trans h1, (hg _ (by omega) (by omega)).trans h2, h3, fun x => ?_⟩
  obtain ⟨h5, ch, h6, h7, h8⟩ := h4 x
  have hx : x % 512 < 512 := Nat.mod_lt _ (by omega)
  refine ⟨h5, ch, (hg _ (by omega) (by omega)).trans h6, h7, ?_⟩
  rcases h8 with h8 | ⟨h8, h9, lb, lo, ib, io, il, ic, h10, h11, h12, h13, h14, h15⟩
  · exact .inl h8
  · exact .inr ⟨h8, h9, lb, lo, ib, io, il, ic, h10, h11, h12, k.cell h13 h11, h14, k.cell h15 h12⟩
/-- What of the look-up is known of every number of bits. -/
structure LkOk (c : Cd) : Prop where
  le : ∀ X nb, c.m ≤ nb → c.lk (X % 2 ^ nb) % 16 ≤ nb → c.lk X = c.lk (X % 2 ^ nb)
  gt : ∀ X nb, c.m ≤ nb → nb < c.lk (X % 2 ^ nb) % 16 → c.lk (X % 2 ^ nb) % 16 ≤ c.lk X % 16
  m15 : c.m ≤ 15
  small : ∀ X, c.lk X < 8192
def HMode (E : Env) (w : World) (g : Nat → Value) (hl : Cd) : Option Cd → Prop
  | none => LkOk hl ∧ g 1051 = .pointer none ∧ ∃ X gx, g 1050 = .pointer (some ⟨X, 0, none⟩) ∧ X ∉ E.X ∧ Bk w X 515 86 gx ∧ HTab E w gx 0 hl
  | some hd => LkOk hl ∧ LkOk hd ∧ g 1050 = .pointer (some ⟨E.F, 5, none⟩) ∧ g 1051 = .pointer (some ⟨E.F, 520, none⟩) ∧ HTab E w g 5 hl ∧ HTab E w g 520 hd
theorem HMode.keep {E : Env} {w w' : World} {g g' : Nat → Value} {hl : Cd} {hd : Option Cd} {L : List Nat} (h : HMode E w g hl hd) (k : Kp E.X w w') (o : Off L g g') (hL : ∀ j, j ∈ L → j < 5 ∨ 1035 ≤ j) (h0 : 1050 ∉ L ∧ 1051 ∉ L) : HMode E w' g' hl hd := by
  have hg : ∀ j, 5 ≤ j → j < 1035 → g' j = g j := fun j h1 h2 => o j (fun hm => by have := hL j hm; omega)
  cases hd with
  | none =>
    obtain ⟨h1, h2, X, gx, h3, h4, h5, h6⟩ := h
    exact ⟨h1, (o _ h0.2).trans h2, X, gx, (o _ h0.1).trans h3, h4, h5.kp k h4, h6.keep k (fun _ _ _ => rfl)⟩
  | some hd =>
    obtain ⟨h1, h2, h3, h4, h5, h6⟩ := h
    exact ⟨h1, h2, (o _ h0.1).trans h3, (o _ h0.2).trans h4, h5.keep k (fun j a b => hg j (by omega) (by omega)), h6.keep k (fun j a b => hg j (by omega) (by omega))⟩
/-- A table that was used, or one that is all zero. -/
def HZ (g : Nat → Value) (o : Nat) : Prop :=
  (∃ m : Int, m ≠ 0 ∧ g o = .int .i64 m) ∨ (g o = .int .i64 0 ∧ (∀ k, k < 512 → g (o + 1 + k) = .int .u32 0) ∧ g (o + 513) = .slice none 0 0 ∧ g (o + 514) = .int .u32 0)
theorem HZ.keep {g g' : Nat → Value} {o : Nat} (h : HZ g o) (hg : ∀ j, o ≤ j → j < o + 515 → g' j = g j) : HZ g' o := by
  rcases h with ⟨m, h1, h2⟩ | ⟨h1, h2, h3, h4⟩
  · exact .inl ⟨m, h1, (hg _ (by omega) (by omega)).trans h2⟩
  · exact .inr ⟨(hg _ (by omega) (by omega)).trans h1, fun k hk => (hg _ (by omega) (by omega)).trans (h2 k hk), (hg _ (by omega) (by omega)).trans h3, (hg _ (by omega) (by omega)).trans h4⟩
/-- The step's own state: at a symbol, or behind a copy that was cut (its distance is in bounds). -/
def SS (g : Nat → Value) : Prop := g 1046 = .int .i64 0 ∨ (g 1046 = .int .i64 1 ∧ ∃ cd : Nat, g 1053 = .int .i64 cd ∧ 1 ≤ cd ∧ cd ≤ 32768)
theorem SS.off {g g' : Nat → Value} {L : List Nat} (h : SS g) (o : Off L g g') (h0 : 1046 ∉ L ∧ 1053 ∉ L) : SS g' := by
  rcases h with h | ⟨h, cd, h1, h2⟩
  · exact .inl ((o _ h0.1).trans h)
  · exact .inr ⟨(o _ h0.1).trans h, cd, (o _ h0.2).trans h1, h2⟩

/-- What holds at every point: place of bytes, what was told, how much was handed on and taken, the place of writing. -/
structure Cr (E : Env) (w : World) (g hs bs cs : Nat → Value) (pos : Nat) (out : List Nat) (fl wr e : Nat) : Prop where
  W : Wd E w g hs bs cs pos
  S : Stc E g
  V : Win out hs
  D : Dw E g out.length fl wr
  T : TR E g e fl
  Z : HZ g 5 ∧ HZ g 520
/-- The mode's own cells. -/
def Md (E : Env) (w : World) (g : Nat → Value) (out : List Nat) : Mode → Prop
  | .next => SS g ∧ g 1052 = .int .i64 0
  | .data n => SS g ∧ g 1052 = .int .i64 n ∧ n ≤ 65535 ∧ g 3 = .int .u32 0 ∧ g 4 = .int .u64 0
  | .huff hl hd none => HMode E w g hl hd ∧ SS g ∧ g 1052 = .int .i64 0
  | .huff hl hd (some (len, dist)) => HMode E w g hl hd ∧ g 1052 = .int .i64 len ∧ len ≤ 258 ∧ g 1053 = .int .i64 dist ∧ 1 ≤ dist ∧ dist ≤ 32768 ∧ dist ≤ out.length
def stepOf : Mode → Nat
  | .next => 35
  | .data _ => 52
  | .huff _ _ _ => 44
/-- The step's state at a step's start. -/
def SSm (g : Nat → Value) : Mode → Prop
  | .huff _ _ (some _) => g 1046 = .int .i64 1
  | _ => True
structure Live (E : Env) (w : World) (g : Nat → Value) (a : A) : Prop where
  B : Bt E g a.p a.pos
  fin : g 1047 = .bool a.fin
  err : g 1048 = .nilIface
  md : Md E w g a.out a.md
/-- The blocks stand for the state a, between two steps. -/
def Rep (E : Env) (w : World) (a : A) : Prop :=
  ∃ g hs bs cs, Cr E w g hs bs cs a.pos a.out a.fl (a.out.length % 32768) a.e ∧ ErrV E a.err (g 1048) ∧ (a.err = 0 → Live E w g a ∧ g 1045 = fnv (stepOf a.md) ∧ SSm g a.md)
/-- The same inside a step: the step's own cell is not told. -/
def RepI (E : Env) (w : World) (a : A) : Prop :=
  ∃ g hs bs cs, Cr E w g hs bs cs a.pos a.out a.fl (a.out.length % 32768) a.e ∧ Live E w g a

theorem noEOF_any (E : Env) (w : World) (hG : Gl E w) (x : Addr) (hx : x = E.aE ∨ x = E.aU) : Ret 48 [.iface 131 (.pointer (some x))] w fun v w' => v = UEOFv E ∧ w' = w := by
  rcases hx with rfl | rfl
  · exact noEOF_eof E w hG
  · exact noEOF_ueof E w hG
theorem bytesAt_length (S : Src) : ∀ (n pos : Nat), (bytesAt S pos n).length = n
  | 0, _ => rfl
  | n + 1, pos => by simp [bytesAt, bytesAt_length S n]
theorem bytesAt_getD (S : Src) : ∀ (n pos j : Nat), j < n → (bytesAt S pos n).getD j 0 = bv S.D (8 * (pos + j)) 8
  | 0, _, _, h => by omega
  | n + 1, pos, 0, _ => by simp [bytesAt]
  | n + 1, pos, j + 1, h => by
    have := bytesAt_getD S n (pos + 1) j (by omega)
    rw [show pos + (j + 1) = pos + 1 + j by omega, ← this]
    simp [bytesAt]
theorem bv_byte {E : Env} (hE : E.Ok) {k : Nat} (hk : k < E.N) : bv E.D (8 * k) 8 = E.d k := by
  have := dnum_byte E.d hE.d8 E.N k hk
  rw [pow256] at this
  exact this
theorem win_data {E : Env} (hE : E.Ok) {out : List Nat} {hs : Nat → Value} {pos wr k : Nat} (h : Win out hs) (hw : wr = out.length % 32768) (hk : wr + k ≤ 32768) (hp : pos + k ≤ E.N) :
    Win (out ++ bytesAt E.S' pos k) (cpd E hs wr pos k) := by
  have hl := bytesAt_length E.S' k pos
  have hget : ∀ i, (out ++ bytesAt E.S' pos k).getD i 0 = if i < out.length then out.getD i 0 else if i < out.length + k then E.d (pos + (i - out.length)) else 0 := by
    intro i
    by_cases h1 : i < out.length
    · rw [if_pos h1, List.getD_eq_getElem?_getD, List.getElem?_append_left h1, ← List.getD_eq_getElem?_getD]
    · rw [if_neg h1, List.getD_eq_getElem?_getD, List.getElem?_append_right (by omega), ← List.getD_eq_getElem?_getD]
      by_cases h2 : i < out.length + k
      · rw [if_pos h2, bytesAt_getD _ _ _ _ (by omega)]
        exact bv_byte hE (by omega)
      · rw [if_neg h2, List.getD_eq_getElem?_getD, List.getElem?_eq_none (by omega)]
        rfl
  refine ⟨fun j hj => ?_, fun i hi hi2 => ?_, fun i hi => ?_⟩
  · unfold cpd
    split
    · exact ⟨_, hE.d8 _, rfl⟩
    · exact h.byte j hj
  · rw [List.length_append, hl] at hi hi2
    rw [hget]
    unfold cpd
    by_cases h1 : i < out.length
    · rw [if_pos h1, if_neg (by omega)]
      exact h.last i h1 (by omega)
    · rw [if_neg h1, if_pos hi, if_pos (by omega), show i % 32768 - wr = i - out.length by omega]
  · rw [List.length_append, hl] at hi
    rw [hget]
    split
    · rename_i h1; exact h.small i h1
    · exact hE.d8 _
theorem Cr.off {E : Env} {w w' : World} {g g' hs bs cs : Nat → Value} {pos pos' : Nat} {out : List Nat} {fl wr e : Nat} {L : List Nat} (h : Cr E w g hs bs cs pos out fl wr e) (hW : Wd E w' g' hs bs cs pos') (o : Off L g g')
    (hL : ∀ j, j ∈ L → j = 2 ∨ j = 3 ∨ j = 4 ∨ 1041 ≤ j ∧ j ≠ 1049) : Cr E w' g' hs bs cs pos' out fl wr e := by
  have n : ∀ j, j ≠ 2 → j ≠ 3 → j ≠ 4 → (j < 1041 ∨ j = 1049) → j ∉ L := fun j h2 h3 h4 h5 hm => by have := hL j hm; omega
  refine ⟨hW, h.S.off o ⟨n _ ?_ ?_ ?_ ?_, n _ ?_ ?_ ?_ ?_, n _ ?_ ?_ ?_ ?_, n _ ?_ ?_ ?_ ?_⟩, h.V, h.D.off o ⟨n _ ?_ ?_ ?_ ?_, n _ ?_ ?_ ?_ ?_, n _ ?_ ?_ ?_ ?_, n _ ?_ ?_ ?_ ?_⟩, h.T.off o (n _ ?_ ?_ ?_ ?_),
    h.Z.1.keep fun j a b => o j (n _ (by omega) (by omega) (by omega) (by omega)), h.Z.2.keep fun j a b => o j (n _ (by omega) (by omega) (by omega) (by omega))⟩ <;> omega
end Go.Proofs.YtejeloeaklpinaaDoor
