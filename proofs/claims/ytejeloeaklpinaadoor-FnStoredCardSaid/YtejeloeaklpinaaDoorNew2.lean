/- A reader laid anew: NewReader, NewReaderDict. Its walks are printed by gen/g_new2.py. -/
import Derived.Test.YtejeloeaklpinaaDoorNew1
namespace Go.Proofs.YtejeloeaklpinaaDoor
attribute [local irreducible] wpList wpStill wpMix Code.wp Calls fr
theorem init_n (w : World) (F : Nat) (g : Nat → Value) (hF : Bk w F 1054 95 g) (h37 : g 1037 = .slice none 0 0) (dv : Value) (xs : List Nat) (hS : Sl w dv xs) (hx : ∀ x ∈ xs, x < 256) (h47 : xs.length ≤ 140737488355328) (hDF : ∀ k, dv.ownBlock = some k → k ≠ F) :
    Ret 36 [.pointer (some ⟨F, 1037, none⟩), .int .i64 32768, dv] w fun v w' => v = .tuple #[] ∧ ∃ H, w.heap.size ≤ H ∧ InitP F H w' g xs ∧ Kp [F] w w' := by
  by_cases h0 : xs = []
  · subst h0
    obtain ⟨a, c, rfl⟩ := hS.val
    exact init_n_none w F g hF h37 a c
  · rcases hS with ⟨_, h⟩ | ⟨b, cap, dg, rfl, hD, hxc, hcm, hdg⟩
    · exact absurd h h0
    · have hbF : b ≠ F := hDF b rfl
      rcases Nat.lt_trichotomy xs.length 32768 with h | h | h
      · exact init_n_small w F g hF h37 xs b cap cap dg hD hbF hxc hxc hx hdg h47 h
      · exact init_n_exact w F g hF h37 xs b cap cap dg hD hbF hxc hxc hx hdg h47 h
      · exact init_n_great w F g hF h37 xs b cap cap dg hD hbF hxc hxc hx hdg h47 h
theorem init_r (w : World) (F : Nat) (g : Nat → Value) (hF : Bk w F 1054 95 g) (H : Nat) (hs0 : Nat → Value) (hFH : F ≠ H) (hH : Bk w H 32768 5 hs0) (hb0 : ∀ k, k < 32768 → ∃ c : Nat, c < 256 ∧ hs0 k = .int .u8 c) (h37 : g 1037 = .slice (some ⟨H, 0, none⟩) 32768 32768)
    (dv : Value) (xs : List Nat) (hS : Sl w dv xs) (hx : ∀ x ∈ xs, x < 256) (h47 : xs.length ≤ 140737488355328) (hDF : ∀ k, dv.ownBlock = some k → k ≠ F ∧ k ≠ H) :
    Ret 36 [.pointer (some ⟨F, 1037, none⟩), .int .i64 32768, dv] w fun v w' => v = .tuple #[] ∧ InitP F H w' g xs ∧ Kp [F, H] w w' := by
  by_cases h0 : xs = []
  · subst h0
    obtain ⟨a, c, rfl⟩ := hS.val
    exact init_r_none w F g hF H hs0 hFH hH hb0 h37 a c
  · rcases hS with ⟨_, h⟩ | ⟨b, cap, dg, rfl, hD, hxc, hcm, hdg⟩
    · exact absurd h h0
    · obtain ⟨hbF, hbH⟩ := hDF b rfl
      rcases Nat.lt_trichotomy xs.length 32768 with h | h | h
      · exact init_r_small w F g hF H hs0 hFH hH hb0 h37 xs b cap cap dg hD hbF hbH hxc hxc hx hdg h47 h
      · exact init_r_exact w F g hF H hs0 hFH hH hb0 h37 xs b cap cap dg hD hbF hbH hxc hxc hx hdg h47 h
      · exact init_r_great w F g hF H hs0 hFH hH hb0 h37 xs b cap cap dg hD hbF hbH hxc hxc hx hdg h47 h
/-- The reader's cells ahead of init. -/
def gI (R bt cb : Nat) : Nat → Value := upd (upd (upd (upd (upd g95 1 (.pointer none)) 0 (.iface 43 (.pointer (some ⟨R, 0, none⟩)))) 1035 (.pointer (some ⟨bt, 0, none⟩))) 1036 (.pointer (some ⟨cb, 0, none⟩))) 1045 (fnv 35)

theorem nr_raw (w : World) (R : Nat) :
    Ret 24 [.iface 43 (.pointer (some ⟨R, 0, none⟩))] w fun v w' => ∃ F H bt cb, v = .iface 99 (.pointer (some ⟨F, 0, none⟩)) ∧ w.heap.size ≤ F ∧ F < bt ∧ bt < cb ∧ cb < H ∧ InitP F H w' (gI R bt cb) [] ∧ Bk w' bt 316 97 (fun _ => .int .i64 0) ∧ Bk w' cb 19 98 (fun _ => .int .i64 0) ∧ Kp [] w w' := by
  have kp := Kp.refl [] w
  refine calls_fr (N := 14) Tryd.func24 rfl rfl (by simp) rfl ?_
  refine wp_seq ?_
  -- region 0
  refine reg_lit ?_
  refine L1 (asg (v := .nilIface) rfl) ?_
  refine wpList_nil ?_
  refine then_n ?_
  refine wp_seq ?_
  -- region 1
  refine reg_lit ?_
  refine Lal95 ?_
  intro F w1 heF hF kp1 hszF
  skip
  have hszk := kp.size
  have kp := kp.trans kp1
  clear kp1
  refine wpList_nil ?_
  refine then_n ?_
  refine wp_seq ?_
  -- region 2
  refine reg_lit ?_
  refine L1 (mv (v := .iface _ _) rfl) ?_
  refine LC (cl2 has34 rfl rfl rfl) (makeReader_c _ F R g95 hF) ?_
  rintro v w1 ⟨rfl, hF, kp1⟩
  skip
  have hsz1 := kp1.size
  have kp := kp.transNew kp1 (by simp; omega)
  clear kp1
  refine wpList_nil ?_
  refine then_n ?_
  refine wp_seq ?_
  -- region 3
  refine reg_lit ?_
  refine Lal97 ?_
  intro bt w1 hebt hbt kp1 hszbt
  have hF := hF.kp kp1 (by simp)
  skip
  have hszk := kp.size
  have kp := kp.trans kp1
  clear kp1
  refine L1 (fa95_7 rfl) ?_
  refine Lst87 (v := .pointer _) rfl rfl rfl hF (by decide) ?_
  intro w1 hF kp1
  have hbt := hbt.kp kp1 (by simp; omega)
  skip
  have hsz1 := kp1.size
  have kp := kp.transNew kp1 (by simp; omega)
  clear kp1
  refine wpList_nil ?_
  refine then_n ?_
  refine wp_seq ?_
  -- region 4
  refine reg_lit ?_
  refine Lal98 ?_
  intro cb w1 hecb hcb kp1 hszcb
  have hF := hF.kp kp1 (by simp)
  have hbt := hbt.kp kp1 (by simp)
  skip
  have hszk := kp.size
  have kp := kp.trans kp1
  clear kp1
  refine L1 (fa95_8 rfl) ?_
  refine Lst88 (v := .pointer _) rfl rfl rfl hF (by decide) ?_
  intro w1 hF kp1
  have hbt := hbt.kp kp1 (by simp; omega)
  have hcb := hcb.kp kp1 (by simp; omega)
  skip
  have hsz1 := kp1.size
  have kp := kp.transNew kp1 (by simp; omega)
  clear kp1
  refine wpList_nil ?_
  refine then_n ?_
  refine wp_seq ?_
  -- region 5
  refine reg_lit ?_
  refine L1 (fa95_11 rfl) ?_
  refine Lst92 (v := fnv 35) rfl rfl rfl hF (by decide) ?_
  intro w1 hF kp1
  have hbt := hbt.kp kp1 (by simp; omega)
  have hcb := hcb.kp kp1 (by simp; omega)
  skip
  have hsz1 := kp1.size
  have kp := kp.transNew kp1 (by simp; omega)
  clear kp1
  refine wpList_nil ?_
  refine then_n ?_
  refine wp_seq ?_
  -- region 6
  refine reg_lit ?_
  refine L1 (fa95_9 rfl) ?_
  refine LC (cl3 has36 rfl rfl rfl rfl) (init_n _ F (gI R bt cb) hF rfl (.slice none 0 0) [] (Sl.nil _) (by simp) (by simp) (by intro k hk; cases hk)) ?_
  rintro v w1 ⟨rfl, H, hHs, hI, kp1⟩
  have hbt := hbt.kp kp1 (by simp; omega)
  have hcb := hcb.kp kp1 (by simp; omega)
  have hltc := hcb.lt
  have hsz1 := kp1.size
  have kp := kp.transNew kp1 (by simp; omega)
  refine wpList_nil ?_
  refine then_n ?_
  refine wp_seq ?_
  -- region 7
  refine reg_lit ?_
  refine L1 (mkI99 rfl) ?_
  refine L1 (asg (v := .iface _ _) rfl) ?_
  refine wpList_nil ?_
  refine then_n ?_
  refine wp_ret ?_
  refine ret1 rfl rfl ?_
  exact ⟨_, rfl, F, H, bt, cb, rfl, by omega, by omega, by omega, by omega, hI, hbt, hcb, kp⟩
theorem nrd_raw (w : World) (R : Nat) (dv : Value) (xs : List Nat) (hS : Sl w dv xs) (hx : ∀ x ∈ xs, x < 256) (h47 : xs.length ≤ 140737488355328) :
    Ret 26 [.iface 43 (.pointer (some ⟨R, 0, none⟩)), dv] w fun v w' => ∃ F H bt cb, v = .iface 99 (.pointer (some ⟨F, 0, none⟩)) ∧ w.heap.size ≤ F ∧ F < bt ∧ bt < cb ∧ cb < H ∧ InitP F H w' (gI R bt cb) xs ∧ Bk w' bt 316 97 (fun _ => .int .i64 0) ∧ Bk w' cb 19 98 (fun _ => .int .i64 0) ∧ Kp [] w w' := by
  have kp := Kp.refl [] w
  have hS0 := hS
  refine calls_fr (N := 17) Tryd.func26 rfl rfl (by simp) rfl ?_
  refine wp_seq ?_
  -- region 0
  refine reg_lit ?_
  refine L1 (asg (v := .nilIface) rfl) ?_
  refine wpList_nil ?_
  refine then_n ?_
  refine wp_seq ?_
  -- region 1
  refine reg_lit ?_
  refine Lal95 ?_
  intro F w1 heF hF kp1 hszF
  have hS := hS.kp kp1 (by simp)
  have hszk := kp.size
  have kp := kp.trans kp1
  clear kp1
  refine wpList_nil ?_
  refine then_n ?_
  refine wp_seq ?_
  -- region 2
  refine reg_lit ?_
  refine L1 (mv (v := .iface _ _) rfl) ?_
  refine LC (cl2 has34 rfl rfl rfl) (makeReader_c _ F R g95 hF) ?_
  rintro v w1 ⟨rfl, hF, kp1⟩
  have hS := hS.kp kp1 (by intro k hk; simp; have := hS0.lt hk; omega)
  have hsz1 := kp1.size
  have kp := kp.transNew kp1 (by simp; omega)
  clear kp1
  refine wpList_nil ?_
  refine then_n ?_
  refine wp_seq ?_
  -- region 3
  refine reg_lit ?_
  refine Lal97 ?_
  intro bt w1 hebt hbt kp1 hszbt
  have hF := hF.kp kp1 (by simp)
  have hS := hS.kp kp1 (by simp)
  have hszk := kp.size
  have kp := kp.trans kp1
  clear kp1
  refine L1 (fa95_7 rfl) ?_
  refine Lst87 (v := .pointer _) rfl rfl rfl hF (by decide) ?_
  intro w1 hF kp1
  have hbt := hbt.kp kp1 (by simp; omega)
  have hS := hS.kp kp1 (by intro k hk; simp; have := hS0.lt hk; omega)
  have hsz1 := kp1.size
  have kp := kp.transNew kp1 (by simp; omega)
  clear kp1
  refine wpList_nil ?_
  refine then_n ?_
  refine wp_seq ?_
  -- region 4
  refine reg_lit ?_
  refine Lal98 ?_
  intro cb w1 hecb hcb kp1 hszcb
  have hF := hF.kp kp1 (by simp)
  have hbt := hbt.kp kp1 (by simp)
  have hS := hS.kp kp1 (by simp)
  have hszk := kp.size
  have kp := kp.trans kp1
  clear kp1
  refine L1 (fa95_8 rfl) ?_
  refine Lst88 (v := .pointer _) rfl rfl rfl hF (by decide) ?_
  intro w1 hF kp1
  have hbt := hbt.kp kp1 (by simp; omega)
  have hcb := hcb.kp kp1 (by simp; omega)
  have hS := hS.kp kp1 (by intro k hk; simp; have := hS0.lt hk; omega)
  have hsz1 := kp1.size
  have kp := kp.transNew kp1 (by simp; omega)
  clear kp1
  refine wpList_nil ?_
  refine then_n ?_
  refine wp_seq ?_
  -- region 5
  refine reg_lit ?_
  refine L1 (fa95_11 rfl) ?_
  refine Lst92 (v := fnv 35) rfl rfl rfl hF (by decide) ?_
  intro w1 hF kp1
  have hbt := hbt.kp kp1 (by simp; omega)
  have hcb := hcb.kp kp1 (by simp; omega)
  have hS := hS.kp kp1 (by intro k hk; simp; have := hS0.lt hk; omega)
  have hsz1 := kp1.size
  have kp := kp.transNew kp1 (by simp; omega)
  clear kp1
  refine wpList_nil ?_
  refine then_n ?_
  refine wp_seq ?_
  -- region 6
  refine reg_lit ?_
  refine L1 (fa95_9 rfl) ?_
  refine L1 (mv (v := dv) rfl) ?_
  refine LC (cl3 has36 rfl rfl rfl rfl) (init_n _ F (gI R bt cb) hF rfl dv xs hS hx h47 (fun k hk => by have := hS0.lt hk; omega)) ?_
  rintro v w1 ⟨rfl, H, hHs, hI, kp1⟩
  have hbt := hbt.kp kp1 (by simp; omega)
  have hcb := hcb.kp kp1 (by simp; omega)
  have hltc := hcb.lt
  have hsz1 := kp1.size
  have kp := kp.transNew kp1 (by simp; omega)
  refine wpList_nil ?_
  refine then_n ?_
  refine wp_seq ?_
  -- region 7
  refine reg_lit ?_
  refine L1 (mkI99 rfl) ?_
  refine L1 (asg (v := .iface _ _) rfl) ?_
  refine wpList_nil ?_
  refine then_n ?_
  refine wp_ret ?_
  refine ret1 rfl rfl ?_
  exact ⟨_, rfl, F, H, bt, cb, rfl, by omega, by omega, by omega, by omega, hI, hbt, hcb, kp⟩
theorem len_c (E : Env) (w : World) (pos : Nat) (hE : E.Ok) (hrd : Rd E w pos) : Ret 18 [.pointer (some ⟨E.R, 0, none⟩)] w fun v w' => v = .int .i64 ((E.N - pos : Nat) : Int) ∧ Kp [] w w' := by
  have hN := hE.N47
  obtain ⟨v, z, r, hR, r0, r1, r2, hle, hd⟩ := hrd
  obtain ⟨sa, sc, rfl⟩ := hd.len
  have kp := Kp.refl [] w
  refine calls_fr (N := 23) Tryd.func18 rfl rfl (by simp) rfl ?_
  refine wp_seq ?_
  -- region 0
  refine reg_lit ?_
  refine L1 (asg (v := .int _ _) rfl) ?_
  refine wpList_nil ?_
  refine then_n ?_
  refine wp_seq ?_
  refine wp_seq ?_
  -- region 1 (its order is open)
  refine reg_still mixed (by kernel_rfl) ?_
  have hR := hR.drew
  have kp := kp.drew
  refine S1 (mv (v := .pointer _) rfl) ?_
  refine S1 (nilP rfl) ?_
  refine S1 (fa70_1 rfl) ?_
  refine S1 (ld2 rfl (hR.cellv (by decide) r1)) ?_
  refine S1 (mv (v := .pointer _) rfl) ?_
  refine S1 (nilP rfl) ?_
  refine S1 (fa70_0 rfl) ?_
  refine S1 (ld22 rfl (hR.cellv (by decide) r0)) ?_
  refine S1 (ln und22 rfl) ?_
  refine S1 (bi rfl rfl (bn_geq (v := decide (E.N ≤ pos)) (decide_eq_decide.2 (by omega)))) ?_
  refine still_nil ?_
  refine then_n ?_
  refine cond_d (p := E.N ≤ pos) rfl (fun hge => ?_) (fun hge => ?_)
  · -- yes
    refine wp_seq ?_
    -- region 2
    refine reg_lit ?_
    refine L1 (asg (v := .int _ _) rfl) ?_
    refine wpList_nil ?_
    refine then_n ?_
    refine wp_ret ?_
    refine then_r ?_
    refine ret1 rfl rfl ?_
    exact ⟨_, rfl, congrArg (fun n : Nat => Value.int .i64 (n : Int)) (show 0 = E.N - pos by omega), kp⟩
  · -- no
    refine wp_skip ?_
    refine then_n ?_
    refine wp_seq ?_
    -- region 3 (its order is open)
    refine reg_still mixed (by kernel_rfl) ?_
    have hR := hR.drew
    have kp := kp.drew
    refine S1 (mv (v := .pointer _) rfl) ?_
    refine S1 (nilP rfl) ?_
    refine S1 (fa70_0 rfl) ?_
    refine S1 (ld22 rfl (hR.cellv (by decide) r0)) ?_
    refine S1 (ln und22 rfl) ?_
    refine S1 (mv (v := .pointer _) rfl) ?_
    refine S1 (nilP rfl) ?_
    refine S1 (fa70_1 rfl) ?_
    refine S1 (ld2 rfl (hR.cellv (by decide) r1)) ?_
    refine S1 (bi rfl rfl (bn_sub (c := ((E.N - pos : Nat) : Int)) (by omega) (by omega) (by omega))) ?_
    refine S1 (asg (v := .int _ _) rfl) ?_
    refine still_nil ?_
    refine then_n ?_
    refine wp_ret ?_
    refine ret1 rfl rfl ?_
    exact ⟨_, rfl, rfl, kp⟩
end Go.Proofs.YtejeloeaklpinaaDoor
