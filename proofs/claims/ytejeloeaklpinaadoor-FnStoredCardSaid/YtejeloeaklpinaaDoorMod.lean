/- What the blocks of a reader hold: the data, the bits that are held, the errors. -/
import Derived.Test.YtejeloeaklpinaaDoorNum
namespace Go.Proofs.YtejeloeaklpinaaDoor

/-- The blocks of one reader and its data. -/
structure Env where
  B : Nat
  aE : Addr
  aU : Addr
  F : Nat
  R : Nat
  S : Nat
  H : Nat
  bt : Nat
  cb : Nat
  buf : Nat
  own : Nat
  N : Nat
  d : Nat → Nat

structure Env.Ok (E : Env) : Prop where
  bF : E.B ≤ E.F
  bR : E.B ≤ E.R
  bH : E.B ≤ E.H
  bbt : E.B ≤ E.bt
  bcb : E.B ≤ E.cb
  FR : E.F ≠ E.R
  FS : E.F ≠ E.S
  FH : E.F ≠ E.H
  Fb : E.F ≠ E.bt
  Fc : E.F ≠ E.cb
  RS : E.R ≠ E.S
  RH : E.R ≠ E.H
  Rb : E.R ≠ E.bt
  Rc : E.R ≠ E.cb
  SH : E.S ≠ E.H
  Sb : E.S ≠ E.bt
  Sc : E.S ≠ E.cb
  Hb : E.H ≠ E.bt
  Hc : E.H ≠ E.cb
  bc : E.bt ≠ E.cb
  d8 : ∀ k, E.d k < 256
  N47 : E.N ≤ 140737488355328

/-- The buffer of a Read lies apart. -/
structure Env.OkB (E : Env) : Prop where
  bbu : E.B ≤ E.buf
  uF : E.buf ≠ E.F
  uR : E.buf ≠ E.R
  uS : E.buf ≠ E.S
  uH : E.buf ≠ E.H
  ub : E.buf ≠ E.bt
  uc : E.buf ≠ E.cb
/-- The slice that is grown lies apart. -/
structure Env.OkO (E : Env) : Prop where
  bo : E.B ≤ E.own
  oF : E.own ≠ E.F
  oR : E.own ≠ E.R
  oS : E.own ≠ E.S
  oH : E.own ≠ E.H
  ob : E.own ≠ E.bt
  oc : E.own ≠ E.cb

def EOFv (E : Env) : Value := .iface 131 (.pointer (some E.aE))
def UEOFv (E : Env) : Value := .iface 131 (.pointer (some E.aU))
/-- An error, by its number: 0 none, 1 EOF, 2 ErrUnexpectedEOF, 3 a refusal. -/
def ErrV (E : Env) (c : Nat) (v : Value) : Prop :=
  (c = 0 ∧ v = .nilIface) ∨ (c = 1 ∧ v = EOFv E) ∨ (c = 2 ∧ v = UEOFv E) ∨ (c = 3 ∧ ∃ n, v = .iface 107 (.int .i64 n))

def order : Nat → Int := fun i => [16, 17, 18, 0, 8, 7, 9, 6, 10, 5, 11, 4, 12, 3, 13, 2, 14, 1, 15].getD i 0

/-- The package's variables, as they are laid. -/
structure Gl (E : Env) (w : World) : Prop where
  B6 : 3 ≤ E.B
  le : E.B ≤ w.heap.size
  eof : w.cell? ⟨0, 0, none⟩ = some (EOFv E)
  ueof : w.cell? ⟨1, 0, none⟩ = some (UEOFv E)
  ne : E.aE ≠ E.aU
  bE : E.aE.block < E.B
  bU : E.aU.block < E.B
  hE : ∃ c t, w.heap[E.aE.block]? = some (.cells c t (0, 0))
  hU : ∃ c t, w.heap[E.aU.block]? = some (.cells c t (0, 0))
  ord : ∀ i, i < 19 → w.cell? ⟨2, i, none⟩ = some (.int .i64 (order i))

theorem Gl.kp {E : Env} {w w' : World} {L : List Nat} (h : Gl E w) (k : Kp L w w') (hL : ∀ b, b ∈ L → E.B ≤ b) : Gl E w' := by
  have hb : ∀ b, b < E.B → w'.heap[b]? = w.heap[b]? := fun b hb => k.block b (Nat.lt_of_lt_of_le hb h.le) (fun hm => by have := hL b hm; omega)
  have hc : ∀ a : Addr, a.block < E.B → w'.cell? a = w.cell? a := fun a ha => World.cell?_of_block (hb _ ha)
  have h6 := h.B6
  exact ⟨h.B6, Nat.le_trans h.le k.size, by rw [hc _ (by show 0 < E.B; omega)]; exact h.eof, by rw [hc _ (by show 1 < E.B; omega)]; exact h.ueof, h.ne, h.bE, h.bU,
    by rw [hb _ h.bE]; exact h.hE, by rw [hb _ h.bU]; exact h.hU, fun i hi => by rw [hc _ (by show 2 < E.B; omega)]; exact h.ord i hi⟩

/-- A slice that holds the data. -/
def Dat (E : Env) (w : World) (v : Value) : Prop :=
  (E.N = 0 ∧ v = .slice none 0 0) ∨ ∃ c n g, v = .slice (some ⟨E.S, 0, none⟩) E.N c ∧ Bk w E.S n 5 g ∧ (E.N ≤ n ∧ E.N ≤ c) ∧ ∀ k, k < E.N → g k = .int .u8 (E.d k)
theorem Dat.kp {E : Env} {w w' : World} {v : Value} {L : List Nat} (h : Dat E w v) (k : Kp L w w') (hL : E.S ∉ L) : Dat E w' v := by
  rcases h with h | ⟨c, n, g, h1, h2, h3⟩
  · exact .inl h
  · exact .inr ⟨c, n, g, h1, h2.kp k hL, h3⟩
theorem Dat.len {E : Env} {w : World} {v : Value} (h : Dat E w v) : ∃ a c, v = .slice a E.N c := by
  rcases h with ⟨h1, h2⟩ | ⟨c, n, g, h1, h2, h3⟩
  · exact ⟨none, 0, by rw [h1]; exact h2⟩
  · exact ⟨_, c, h1⟩

/-- The source of bytes: pos of them are read. -/
def Rd (E : Env) (w : World) (pos : Nat) : Prop :=
  ∃ (v : Value) (z : Int) (r : Nat → Value), Bk w E.R 3 70 r ∧ r 0 = v ∧ r 1 = .int .i64 pos ∧ r 2 = .int .i64 z ∧ pos ≤ E.N ∧ Dat E w v
theorem Rd.kp {E : Env} {w w' : World} {pos : Nat} {L : List Nat} (h : Rd E w pos) (k : Kp L w w') (hR : E.R ∉ L) (hS : E.S ∉ L) : Rd E w' pos := by
  obtain ⟨v, z, r, h1, h2, h3, h4, h5, h6⟩ := h
  exact ⟨v, z, r, h1.kp k hR, h2, h3, h4, h5, h6.kp k hS⟩
theorem Dat.drew {E : Env} {w : World} {v : Value} (h : Dat E w v) : Dat E w.drew v := h.kp (Kp.refl [] w).drew (by simp)
theorem Rd.drew {E : Env} {w : World} {pos : Nat} (h : Rd E w pos) : Rd E w.drew pos := h.kp (Kp.refl [] w).drew (by simp) (by simp)
theorem Gl.drew {E : Env} {w : World} (h : Gl E w) : Gl E w.drew := h.kp (Kp.refl [] w).drew (by simp)
end Go.Proofs.YtejeloeaklpinaaDoor
