/- What a reader's blocks hold, in one bundle, and how it is carried over stores and calls. -/
import Derived.Test.YtejeloeaklpinaaDoorDict
import Derived.Test.YtejeloeaklpinaaDoorMach
import Derived.Test.YtejeloeaklpinaaDoorOne
namespace Go.Proofs.YtejeloeaklpinaaDoor

def Env.L (E : Env) : List Nat := [E.F, E.H, E.R, E.bt, E.cb]
def Env.X (E : Env) : List Nat := [E.F, E.H, E.R, E.bt, E.cb, E.buf, E.own]
def Env.S' (E : Env) : Src := ⟨E.N, E.D⟩
def fp (E : Env) : Value := .pointer (some ⟨E.F, 0, none⟩)

structure Wd (E : Env) (w : World) (g hs bs cs : Nat → Value) (pos : Nat) : Prop where
  F : Bk w E.F 1054 95 g
  H : Bk w E.H 32768 5 hs
  bt : Bk w E.bt 316 97 bs
  cb : Bk w E.cb 19 98 cs
  rd : Rd E w pos
  gl : Gl E w
  bu : E.buf < w.heap.size ∧ E.own < w.heap.size

theorem Env.Ok.L_ge {E : Env} (h : E.Ok) : ∀ b, b ∈ E.L → E.B ≤ b := by
  intro b hb
  simp only [Env.L, List.mem_cons, List.not_mem_nil, or_false] at hb
  rcases hb with rfl | rfl | rfl | rfl | rfl
  · exact h.bF
  · exact h.bH
  · exact h.bR
  · exact h.bbt
  · exact h.bcb

section
variable {E : Env} {w w1 : World} {g hs bs cs g' : Nat → Value} {pos pos' : Nat}
theorem Wd.setF (h : Wd E w g hs bs cs pos) (hE : E.Ok) (hF : Bk w1 E.F 1054 95 g') (k : Kp [E.F] w w1) : Wd E w1 g' hs bs cs pos :=
  ⟨hF, h.H.kp k (by simp; exact fun e => hE.FH e.symm), h.bt.kp k (by simp; exact fun e => hE.Fb e.symm), h.cb.kp k (by simp; exact fun e => hE.Fc e.symm),
    h.rd.kp k (by simp; exact fun e => hE.FR e.symm) (by simp; exact fun e => hE.FS e.symm), h.gl.kp k (by simp; exact hE.bF), ⟨Nat.lt_of_lt_of_le h.bu.1 k.size, Nat.lt_of_lt_of_le h.bu.2 k.size⟩⟩
theorem Wd.setH (h : Wd E w g hs bs cs pos) (hE : E.Ok) (hH : Bk w1 E.H 32768 5 g') (k : Kp [E.H] w w1) : Wd E w1 g g' bs cs pos :=
  ⟨h.F.kp k (by simp; exact hE.FH), hH, h.bt.kp k (by simp; exact fun e => hE.Hb e.symm), h.cb.kp k (by simp; exact fun e => hE.Hc e.symm),
    h.rd.kp k (by simp; exact hE.RH) (by simp; exact hE.SH), h.gl.kp k (by simp; exact hE.bH), ⟨Nat.lt_of_lt_of_le h.bu.1 k.size, Nat.lt_of_lt_of_le h.bu.2 k.size⟩⟩
theorem Wd.setFH (h : Wd E w g hs bs cs pos) (hE : E.Ok) (hF : Bk w1 E.F 1054 95 g') {hs' : Nat → Value} (hH : Bk w1 E.H 32768 5 hs') (k : Kp [E.F, E.H] w w1) : Wd E w1 g' hs' bs cs pos :=
  ⟨hF, hH, h.bt.kp k (by simp; exact ⟨fun e => hE.Fb e.symm, fun e => hE.Hb e.symm⟩), h.cb.kp k (by simp; exact ⟨fun e => hE.Fc e.symm, fun e => hE.Hc e.symm⟩),
    h.rd.kp k (by simp; exact ⟨fun e => hE.FR e.symm, hE.RH⟩) (by simp; exact ⟨fun e => hE.FS e.symm, hE.SH⟩), h.gl.kp k (by simp; exact ⟨hE.bF, hE.bH⟩), ⟨Nat.lt_of_lt_of_le h.bu.1 k.size, Nat.lt_of_lt_of_le h.bu.2 k.size⟩⟩
theorem Wd.setFR (h : Wd E w g hs bs cs pos) (hE : E.Ok) (hF : Bk w1 E.F 1054 95 g') (hR : Rd E w1 pos') (k : Kp [E.F, E.R] w w1) : Wd E w1 g' hs bs cs pos' :=
  ⟨hF, h.H.kp k (by simp; exact ⟨fun e => hE.FH e.symm, fun e => hE.RH e.symm⟩), h.bt.kp k (by simp; exact ⟨fun e => hE.Fb e.symm, fun e => hE.Rb e.symm⟩),
    h.cb.kp k (by simp; exact ⟨fun e => hE.Fc e.symm, fun e => hE.Rc e.symm⟩), hR, h.gl.kp k (by simp; exact ⟨hE.bF, hE.bR⟩), ⟨Nat.lt_of_lt_of_le h.bu.1 k.size, Nat.lt_of_lt_of_le h.bu.2 k.size⟩⟩
theorem Wd.setR (h : Wd E w g hs bs cs pos) (hE : E.Ok) (hR : Rd E w1 pos') (k : Kp [E.R] w w1) : Wd E w1 g hs bs cs pos' :=
  ⟨h.F.kp k (by simp; exact hE.FR), h.H.kp k (by simp; exact fun e => hE.RH e.symm), h.bt.kp k (by simp; exact fun e => hE.Rb e.symm),
    h.cb.kp k (by simp; exact fun e => hE.Rc e.symm), hR, h.gl.kp k (by simp; exact hE.bR), ⟨Nat.lt_of_lt_of_le h.bu.1 k.size, Nat.lt_of_lt_of_le h.bu.2 k.size⟩⟩
theorem Wd.setbt (h : Wd E w g hs bs cs pos) (hE : E.Ok) (hb : Bk w1 E.bt 316 97 g') (k : Kp [E.bt] w w1) : Wd E w1 g hs g' cs pos :=
  ⟨h.F.kp k (by simp; exact hE.Fb), h.H.kp k (by simp; exact hE.Hb), hb, h.cb.kp k (by simp; exact fun e => hE.bc e.symm),
    h.rd.kp k (by simp; exact hE.Rb) (by simp; exact hE.Sb), h.gl.kp k (by simp; exact hE.bbt), ⟨Nat.lt_of_lt_of_le h.bu.1 k.size, Nat.lt_of_lt_of_le h.bu.2 k.size⟩⟩
theorem Wd.setcb (h : Wd E w g hs bs cs pos) (hE : E.Ok) (hb : Bk w1 E.cb 19 98 g') (k : Kp [E.cb] w w1) : Wd E w1 g hs bs g' pos :=
  ⟨h.F.kp k (by simp; exact hE.Fc), h.H.kp k (by simp; exact hE.Hc), h.bt.kp k (by simp; exact hE.bc), hb,
    h.rd.kp k (by simp; exact hE.Rc) (by simp; exact hE.Sc), h.gl.kp k (by simp; exact hE.bcb), ⟨Nat.lt_of_lt_of_le h.bu.1 k.size, Nat.lt_of_lt_of_le h.bu.2 k.size⟩⟩
theorem Wd.drew (h : Wd E w g hs bs cs pos) : Wd E w.drew g hs bs cs pos :=
  ⟨h.F.drew, h.H.drew, h.bt.drew, h.cb.drew, h.rd.drew, h.gl.drew, h.bu⟩
theorem Wd.setbuf (h : Wd E w g hs bs cs pos) (hE : E.OkB) (k : Kp [E.buf] w w1) : Wd E w1 g hs bs cs pos :=
  ⟨h.F.kp k (by simp; exact fun e => hE.uF e.symm), h.H.kp k (by simp; exact fun e => hE.uH e.symm), h.bt.kp k (by simp; exact fun e => hE.ub e.symm), h.cb.kp k (by simp; exact fun e => hE.uc e.symm),
    h.rd.kp k (by simp; exact fun e => hE.uR e.symm) (by simp; exact fun e => hE.uS e.symm), h.gl.kp k (by simp; exact hE.bbu), ⟨Nat.lt_of_lt_of_le h.bu.1 k.size, Nat.lt_of_lt_of_le h.bu.2 k.size⟩⟩
theorem Wd.setown (h : Wd E w g hs bs cs pos) (hE : E.OkO) (k : Kp [E.own] w w1) : Wd E w1 g hs bs cs pos :=
  ⟨h.F.kp k (by simp; exact fun e => hE.oF e.symm), h.H.kp k (by simp; exact fun e => hE.oH e.symm), h.bt.kp k (by simp; exact fun e => hE.ob e.symm), h.cb.kp k (by simp; exact fun e => hE.oc e.symm),
    h.rd.kp k (by simp; exact fun e => hE.oR e.symm) (by simp; exact fun e => hE.oS e.symm), h.gl.kp k (by simp; exact hE.bo), ⟨Nat.lt_of_lt_of_le h.bu.1 k.size, Nat.lt_of_lt_of_le h.bu.2 k.size⟩⟩
/-- A call that changes only what is new. -/
theorem Wd.new (h : Wd E w g hs bs cs pos) (k : Kp [] w w1) : Wd E w1 g hs bs cs pos :=
  ⟨h.F.kp k (by simp), h.H.kp k (by simp), h.bt.kp k (by simp), h.cb.kp k (by simp), h.rd.kp k (by simp) (by simp), h.gl.kp k (by simp), ⟨Nat.lt_of_lt_of_le h.bu.1 k.size, Nat.lt_of_lt_of_le h.bu.2 k.size⟩⟩
theorem nbuf (hE : E.OkB) : E.buf ∉ E.L := by
  simp [Env.L]; exact ⟨hE.uF, hE.uH, hE.uR, hE.ub, hE.uc⟩
theorem Kp.sub {L : List Nat} {w0 : World} (h : Kp E.L w0 w) (k : Kp L w w1) (hl : ∀ b, b ∈ L → b ∈ E.L) : Kp E.L w0 w1 := h.trans (k.mono hl)
theorem Kp.F {w0 : World} (h : Kp E.L w0 w) (k : Kp [E.F] w w1) : Kp E.L w0 w1 := h.trans (k.mono (by simp [Env.L]))
theorem Kp.H {w0 : World} (h : Kp E.L w0 w) (k : Kp [E.H] w w1) : Kp E.L w0 w1 := h.trans (k.mono (by simp [Env.L]))
theorem Kp.R {w0 : World} (h : Kp E.L w0 w) (k : Kp [E.R] w w1) : Kp E.L w0 w1 := h.trans (k.mono (by simp [Env.L]))
theorem Kp.FH {w0 : World} (h : Kp E.L w0 w) (k : Kp [E.F, E.H] w w1) : Kp E.L w0 w1 := h.trans (k.mono (by simp [Env.L]))
theorem Kp.FR {w0 : World} (h : Kp E.L w0 w) (k : Kp [E.F, E.R] w w1) : Kp E.L w0 w1 := h.trans (k.mono (by simp [Env.L]))
theorem Kp.bt {w0 : World} (h : Kp E.L w0 w) (k : Kp [E.bt] w w1) : Kp E.L w0 w1 := h.trans (k.mono (by simp [Env.L]))
theorem Kp.cb {w0 : World} (h : Kp E.L w0 w) (k : Kp [E.cb] w w1) : Kp E.L w0 w1 := h.trans (k.mono (by simp [Env.L]))
theorem Kp.X (h : Kp E.L w w1) : Kp E.X w w1 := h.mono (by intro k hk; simp only [Env.L, Env.X, List.mem_cons, List.not_mem_nil, or_false] at hk ⊢; omega)
theorem Kp.nil {w0 : World} (h : Kp E.L w0 w) (k : Kp [] w w1) : Kp E.L w0 w1 := h.trans (k.mono (by simp))
end

/-- The cells of a reader that stay as they are. -/
structure Stc (E : Env) (g : Nat → Value) : Prop where
  r : g 0 = .iface 43 (.pointer (some ⟨E.R, 0, none⟩))
  bt : g 1035 = .pointer (some ⟨E.bt, 0, none⟩)
  cb : g 1036 = .pointer (some ⟨E.cb, 0, none⟩)
  hi : g 1037 = .slice (some ⟨E.H, 0, none⟩) 32768 32768
/-- The bits that are held: from place p on, up to the bytes read. -/
structure Bt (E : Env) (g : Nat → Value) (p pos : Nat) : Prop where
  ro : ∃ n, g 2 = .int .i64 n
  b : g 3 = .int .u32 (bv E.D p (8 * pos - p))
  nb : g 4 = .int .u64 ((8 * pos - p : Nat) : Int)
  le : p ≤ 8 * pos
  l32 : 8 * pos ≤ p + 32
/-- The window: the last bytes told. -/
structure Win (out : List Nat) (hs : Nat → Value) : Prop where
  byte : ∀ k, k < 32768 → ∃ c : Nat, c < 256 ∧ hs k = .int .u8 c
  last : ∀ i, i < out.length → out.length ≤ i + 32768 → hs (i % 32768) = .int .u8 (out.getD i 0)
  small : ∀ i, i < out.length → out.getD i 0 < 256
theorem Stc.off {E : Env} {g g' : Nat → Value} {L : List Nat} (h : Stc E g) (o : Off L g g') (h0 : 0 ∉ L ∧ 1035 ∉ L ∧ 1036 ∉ L ∧ 1037 ∉ L) : Stc E g' :=
  ⟨(o _ h0.1).trans h.r, (o _ h0.2.1).trans h.bt, (o _ h0.2.2.1).trans h.cb, (o _ h0.2.2.2).trans h.hi⟩
theorem Bt.off {E : Env} {g g' : Nat → Value} {p pos : Nat} {L : List Nat} (h : Bt E g p pos) (o : Off L g g') (h0 : 2 ∉ L ∧ 3 ∉ L ∧ 4 ∉ L) : Bt E g' p pos :=
  ⟨by obtain ⟨n, hn⟩ := h.ro; exact ⟨n, (o _ h0.1).trans hn⟩, (o _ h0.2.1).trans h.b, (o _ h0.2.2).trans h.nb, h.le, h.l32⟩

/-- The window's marks: place of writing, place of reading, whether it was full. -/
def DDo (E : Env) (g : Nat → Value) (wr rd : Nat) (full : Bool) : Prop := DD E g wr rd full
/-- Between two steps. -/
structure Dk (E : Env) (g : Nat → Value) (n fl : Nat) : Prop where
  wr : g 1038 = .int .i64 ((n % 32768 : Nat) : Int)
  rd : ∃ rd, g 1039 = .int .i64 ((rd : Nat) : Int) ∧ fl + (n % 32768 - rd) = n ∧ rd ≤ n % 32768
  full : g 1040 = .bool (decide (32768 ≤ n))
theorem Dk.off {E : Env} {g g' : Nat → Value} {n fl : Nat} {L : List Nat} (h : Dk E g n fl) (o : Off L g g') (h0 : 1038 ∉ L ∧ 1039 ∉ L ∧ 1040 ∉ L) : Dk E g' n fl :=
  ⟨(o _ h0.1).trans h.wr, by obtain ⟨r, h1, h2⟩ := h.rd; exact ⟨r, (o _ h0.2.1).trans h1, h2⟩, (o _ h0.2.2).trans h.full⟩

/-- The fetching of eight bits more. -/
theorem more_ok (E : Env) (w : World) (g hs bs cs : Nat → Value) (p pos : Nat) (hE : E.Ok) (hW : Wd E w g hs bs cs pos) (hS : Stc E g) (hB : Bt E g p pos) (hn : 8 * pos ≤ p + 24) (hp : pos < E.N) :
    Ret 41 [fp E] w fun v w' => v = .nilIface ∧ ∃ g', Wd E w' g' hs bs cs (pos + 1) ∧ Bt E g' p (pos + 1) ∧ Off [2, 3, 4] g g' ∧ Kp E.L w w' := by
  have hI : IS E w g p (8 * pos - p) := ⟨hW.F, hS.r, hB.ro, hB.b, hB.nb, by have := hB.l32; omega, pos, by have := hB.le; omega, hW.rd⟩
  have hle := hB.le
  refine (moreBits_ok E w g p _ hE hI (by omega) (by omega)).mono ?_
  rintro e w' ⟨v, rfl, rfl, g', hI', ho, kp⟩
  obtain ⟨pos', h1, h2⟩ := hI'.rd
  obtain rfl : pos' = pos + 1 := by omega
  refine ⟨_, rfl, rfl, g', hW.setFR hE hI'.blk h2 kp, ⟨hI'.ro, ?_, ?_, by omega, by omega⟩, ho, kp.mono (by simp [Env.L])⟩
  · rw [hI'.fb, show 8 * pos - p + 8 = 8 * (pos + 1) - p by omega]
  · rw [hI'.fn, show 8 * pos - p + 8 = 8 * (pos + 1) - p by omega]
theorem more_short (E : Env) (w : World) (g hs bs cs : Nat → Value) (p pos : Nat) (hE : E.Ok) (hW : Wd E w g hs bs cs pos) (hS : Stc E g) (hB : Bt E g p pos) (hp : pos = E.N) :
    Ret 41 [fp E] w fun v w' => v = UEOFv E ∧ Wd E w' g hs bs cs pos ∧ Kp E.L w w' := by
  have hI : IS E w g p (8 * pos - p) := ⟨hW.F, hS.r, hB.ro, hB.b, hB.nb, by have := hB.l32; omega, pos, by have := hB.le; omega, hW.rd⟩
  have hle := hB.le
  refine (moreBits_short E w g p _ hE hW.gl hI (by omega)).mono ?_
  rintro e w' ⟨v, rfl, rfl, hI', kp⟩
  obtain ⟨pos', h1, h2⟩ := hI'.rd
  obtain rfl : pos' = pos := by omega
  exact ⟨_, rfl, rfl, hW.setFR hE hI'.blk h2 kp, kp.mono (by simp [Env.L])⟩
end Go.Proofs.YtejeloeaklpinaaDoor
