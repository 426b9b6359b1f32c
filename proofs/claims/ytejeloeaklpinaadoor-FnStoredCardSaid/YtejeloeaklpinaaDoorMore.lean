/- The bits that a reader holds, and the fetching of eight more. Its walks are printed by gen/g_more.py. -/
import Derived.Test.YtejeloeaklpinaaDoorLeaf
namespace Go.Proofs.YtejeloeaklpinaaDoor
attribute [local irreducible] wpList wpStill Code.wp Calls fr
def Env.D (E : Env) : Nat := dnum E.d E.N
/-- The reader's own block, and the bits that it holds: nb of them from place p on. -/
structure IS (E : Env) (w : World) (g : Nat → Value) (p nb : Nat) : Prop where
  blk : Bk w E.F 1054 95 g
  r : g 0 = .iface 43 (.pointer (some ⟨E.R, 0, none⟩))
  ro : ∃ n, g 2 = .int .i64 n
  fb : g 3 = .int .u32 (bv E.D p nb)
  fn : g 4 = .int .u64 nb
  nb32 : nb ≤ 32
  rd : ∃ pos, p + nb = 8 * pos ∧ Rd E w pos
theorem IS.drew {E : Env} {w : World} {g : Nat → Value} {p nb : Nat} (h : IS E w g p nb) : IS E w.drew g p nb :=
  ⟨h.blk.drew, h.r, h.ro, h.fb, h.fn, h.nb32, by obtain ⟨q, h1, h2⟩ := h.rd; exact ⟨q, h1, h2.drew⟩⟩
theorem IS.kp {E : Env} {w w' : World} {g : Nat → Value} {p nb : Nat} {L : List Nat} (h : IS E w g p nb) (k : Kp L w w') (hF : E.F ∉ L) (hR : E.R ∉ L) (hS : E.S ∉ L) : IS E w' g p nb :=
  ⟨h.blk.kp k hF, h.r, h.ro, h.fb, h.fn, h.nb32, by obtain ⟨q, h1, h2⟩ := h.rd; exact ⟨q, h1, h2.kp k hR hS⟩⟩
theorem meth_rb (a : Addr) (w : World) : (method (158 + Made.depth) 43 (.pointer (some a)) "ReadByte").run Tryd.prog w = .ok (82, .pointer (some a)) w := by kernel_rfl
theorem nFR {E : Env} (h : E.Ok) : E.F ∉ [E.R] := by simp; exact h.FR
theorem nRF {E : Env} (h : E.Ok) : E.R ∉ [E.F] := by simp; exact fun e => h.FR e.symm
theorem nSF {E : Env} (h : E.Ok) : E.S ∉ [E.F] := by simp; exact fun e => h.FS e.symm
theorem nSR {E : Env} (h : E.Ok) : E.S ∉ [E.R] := by simp; exact fun e => h.RS e.symm

theorem moreBits_ok (E : Env) (w : World) (g : Nat → Value) (p nb : Nat) (hE : E.Ok) (hI : IS E w g p nb) (hnb : nb ≤ 24) (hp : p + nb < 8 * E.N) :
    Ret 41 [.pointer (some ⟨E.F, 0, none⟩)] w fun v w' => v = .nilIface ∧ ∃ g', IS E w' g' p (nb + 8) ∧ Off [2, 3, 4] g g' ∧ Kp [E.F, E.R] w w' := by
  obtain ⟨hF, i0, ⟨ro, i2⟩, i3, i4, -, pos, hpos, hrd⟩ := hI
  have kp := Kp.refl [E.F, E.R] w
  have hlt : pos < E.N := by omega
  have h2 : 2 ^ nb ≤ 2 ^ 24 := Nat.pow_le_pow_right (by omega) hnb
  have hbv := bv_lt E.D p nb
  have hd8 := hE.d8 pos
  have hw : E.d pos * 2 ^ nb < 4294967296 := Nat.lt_of_le_of_lt (Nat.mul_le_mul (Nat.le_of_lt_succ hd8) h2) (by decide)
  have hN := hE.N47
  refine calls_fr (N := 45) Tryd.func41 rfl rfl (by simp) rfl ?_
  -- region 0
  refine wp_seq (reg_lit ?_)
  refine L1 (asg (v := .nilIface) rfl) ?_
  refine nil_then ?_
  -- region 1
  refine wp_seq (reg_lit ?_)
  refine L1 (mv (v := .pointer _) rfl) ?_
  refine L1 (nilP rfl) ?_
  refine L1 (fa95_0 rfl) ?_
  refine L1 (ld80 rfl (hF.cellv (by decide) i0)) ?_
  refine LC (inv0 has82 rfl (meth_rb _)) (readByte_ok E _ pos hE hrd hlt) ?_
  rintro v w1 ⟨rfl, hrd, kp1⟩
  have hF := hF.kp kp1 (nFR hE)
  have kp := kp.trans (kp1.mono (by simp))
  refine L1 (mv (v := .tuple _) rfl) ?_
  refine L1 (ext2_0 rfl) ?_
  refine L1 (ext2_1 rfl) ?_
  refine L1 (asg (v := .int _ _) rfl) ?_
  refine L1 (asg (v := .nilIface) rfl) ?_
  refine nil_then ?_
  refine wp_seq ?_
  -- region 2
  refine wp_seq (reg_lit ?_)
  refine L1 (mv (v := .nilIface) rfl) ?_
  refine L1 (en_nil rfl rfl) ?_
  refine nil_then ?_
  refine cond_f rfl ?_
  refine wp_skip ?_
  refine then_n ?_
  -- region 4
  refine wp_seq (reg_lit ?_)
  refine L1 (mv (v := .pointer _) rfl) ?_
  refine L1 (nilP rfl) ?_
  refine L1 (fa95_2 rfl) ?_
  refine L1 (ld2 rfl (hF.cellv (by decide) i2)) ?_
  refine L1 (bi rfl rfl (bn_addw)) ?_
  refine L1 (nilP rfl) ?_
  refine L1 (fa95_2 rfl) ?_
  refine Lst2 (v := .int _ _) rfl rfl rfl hF (by decide) ?_
  intro w1 hF kp1
  have hrd := hrd.kp kp1 (nRF hE) (nSF hE)
  have kp := kp.trans (kp1.mono (by simp))
  refine nil_then ?_
  -- region 5 (its order is open)
  refine wp_seq (reg_tail 11 mixed (by kernel_rfl) ?_)
  refine S1 (mv (v := .pointer _) rfl) ?_
  refine S1 (nilP rfl) ?_
  refine S1 (fa95_3 rfl) ?_
  refine S1 (ld82 rfl (hF.cellv (by decide) i3)) ?_
  refine S1 (mv (v := .int _ _) rfl) ?_
  refine S1 (cv5_82 rfl (wrap_u32n _ (by omega) (by omega))) ?_
  refine S1 (mv (v := .pointer _) rfl) ?_
  refine S1 (nilP rfl) ?_
  refine S1 (fa95_4 rfl) ?_
  refine S1 (ld38 rfl (hF.cellv (by decide) i4)) ?_
  refine S1 (bi rfl rfl (bn_shl32 rfl rfl (by omega) hw)) ?_
  refine still_nil ?_
  have kp := kp.drew
  have hF := hF.drew
  have hrd := hrd.drew
  refine L1 (bi rfl rfl (bn_or32 rfl rfl (by omega) hw)) ?_
  refine L1 (nilP rfl) ?_
  refine L1 (fa95_3 rfl) ?_
  refine Lst82 (v := .int _ _) rfl rfl rfl hF (by decide) ?_
  intro w1 hF kp1
  have hrd := hrd.kp kp1 (nRF hE) (nSF hE)
  have kp := kp.trans (kp1.mono (by simp))
  refine nil_then ?_
  -- region 6
  refine wp_seq (reg_lit ?_)
  refine L1 (mv (v := .pointer _) rfl) ?_
  refine L1 (nilP rfl) ?_
  refine L1 (fa95_4 rfl) ?_
  refine L1 (ld38 rfl (hF.cellv (by decide) i4)) ?_
  refine L1 (bi rfl rfl (bn_addu rfl (by omega) (by omega))) ?_
  refine L1 (nilP rfl) ?_
  refine L1 (fa95_4 rfl) ?_
  refine Lst38 (v := .int _ _) rfl rfl rfl hF (by decide) ?_
  intro w1 hF kp1
  have hrd := hrd.kp kp1 (nRF hE) (nSF hE)
  have kp := kp.trans (kp1.mono (by simp))
  refine nil_then ?_
  -- region 7
  refine wp_seq (reg_lit ?_)
  refine L1 (asg (v := .nilIface) rfl) ?_
  refine nil_then ?_
  refine wp_ret ?_
  refine ret1 rfl rfl ?_
  refine ⟨_, rfl, rfl, _, ⟨hF, i0, ⟨_, rfl⟩, ?_, rfl, by omega, pos + 1, by omega, hrd⟩, ?_, kp⟩
  · show Value.int .u32 _ = Value.int .u32 _
    rw [or_high _ _ _ hbv, Env.D, bv_more E.d hE.d8 E.N p nb pos hpos hlt]
  · exact (((Off.refl _ g).upd (by simp) _).upd (by simp) _).upd (by simp) _
theorem moreBits_short (E : Env) (w : World) (g : Nat → Value) (p nb : Nat) (hE : E.Ok) (hG : Gl E w) (hI : IS E w g p nb) (hp : p + nb = 8 * E.N) :
    Ret 41 [.pointer (some ⟨E.F, 0, none⟩)] w fun v w' => v = UEOFv E ∧ IS E w' g p nb ∧ Kp [E.F, E.R] w w' := by
  have hI0 := hI
  have hL : ∀ b, b ∈ [E.F, E.R] → E.B ≤ b := by simp; exact ⟨hE.bF, hE.bR⟩
  obtain ⟨hF, i0, ⟨ro, i2⟩, i3, i4, -, pos, hpos, hrd⟩ := hI
  have kp := Kp.refl [E.F, E.R] w
  refine calls_fr (N := 45) Tryd.func41 rfl rfl (by simp) rfl ?_
  -- region 0
  refine wp_seq (reg_lit ?_)
  refine L1 (asg (v := .nilIface) rfl) ?_
  refine nil_then ?_
  -- region 1
  refine wp_seq (reg_lit ?_)
  refine L1 (mv (v := .pointer _) rfl) ?_
  refine L1 (nilP rfl) ?_
  refine L1 (fa95_0 rfl) ?_
  refine L1 (ld80 rfl (hF.cellv (by decide) i0)) ?_
  refine LC (inv0 has82 rfl (meth_rb _)) (readByte_eof E _ pos hE hG hrd (by omega)) ?_
  rintro v w1 ⟨rfl, hrd, kp1⟩
  have hF := hF.kp kp1 (nFR hE)
  have kp := kp.trans (kp1.mono (by simp))
  refine L1 (mv (v := .tuple _) rfl) ?_
  refine L1 (ext2_0 rfl) ?_
  refine L1 (ext2_1 rfl) ?_
  refine L1 (asg (v := .int _ _) rfl) ?_
  refine L1 (asg rfl) ?_
  refine nil_then ?_
  refine wp_seq ?_
  -- region 2
  refine wp_seq (reg_lit ?_)
  refine L1 (mv rfl) ?_
  refine L1 (en_held (u := 131) rfl rfl) ?_
  refine nil_then ?_
  refine cond_t rfl ?_
  -- region 3
  refine wp_seq (reg_lit ?_)
  refine L1 (mv rfl) ?_
  refine LC (cl1 has48 rfl rfl) (noEOF_eof E _ (hG.kp kp hL)) ?_
  rintro v w1 ⟨rfl, rfl⟩
  refine L1 (asg rfl) ?_
  refine nil_then ?_
  refine wp_ret ?_
  refine then_r ?_
  refine ret1 rfl rfl ?_
  exact ⟨_, rfl, rfl, ⟨hF, i0, ⟨_, i2⟩, i3, i4, hI0.nb32, pos, hpos, hrd⟩, kp⟩
end Go.Proofs.YtejeloeaklpinaaDoor
