/- A reader laid anew. Its walks are printed by gen/g_new.py. -/
import Derived.Test.YtejeloeaklpinaaDoorApp
namespace Go.Proofs.YtejeloeaklpinaaDoor
attribute [local irreducible] wpList wpStill wpMix Code.wp Calls fr

theorem copied_c (w : World) (v : Value) (xs : List Nat) (hA : Ag w v xs) (hn : xs.length ≤ 140737488355328) :
    Ret 15 [v] w fun v' w' => Sl w' v' xs ∧ Kp [] w w' ∧ ∀ k, v'.ownBlock = some k → w.heap.size ≤ k := by
  refine calls_fr (N := 5) Tryd.func15 rfl rfl (by simp) rfl ?_
  refine wp_seq ?_
  -- region 0
  refine reg_lit ?_
  refine L1 (asg (v := .slice _ _ _) rfl) ?_
  refine wpList_nil ?_
  refine then_n ?_
  refine wp_seq ?_
  -- region 1
  refine reg_lit ?_
  refine L1 (mv (v := v) rfl) ?_
  refine Lapg (v := .slice none 0 0) rfl rfl (Sl.nil w) hA (by simpa using hn) ?_
  intro v' w1 hS kp hown
  refine L1 (asg (v := v') rfl) ?_
  refine wpList_nil ?_
  refine then_n ?_
  refine wp_ret ?_
  refine ret1 rfl rfl ?_
  exact ⟨v', rfl, by simpa using hS, kp.mono (by simp [obk, Value.ownBlock]), fun k hk => (hown k hk).elim (fun h => by cases h) id⟩
theorem newReader_c (w : World) (a : Option Addr) (n c : Nat) :
    Ret 14 [.slice a n c] w fun v' w' => v' = .pointer (some ⟨w.heap.size, 0, none⟩) ∧ Bk w' w.heap.size 3 70 (fun k => if k = 0 then .slice a n c else if k = 1 then .int .i64 0 else .int .i64 (-1)) ∧ Kp [] w w' ∧ w'.heap.size = w.heap.size + 1 := by
  refine calls_fr (N := 6) Tryd.func14 rfl rfl (by simp) rfl ?_
  refine wp_seq ?_
  -- region 0
  refine reg_lit ?_
  refine L1 (asg (v := .pointer _) rfl) ?_
  refine wpList_nil ?_
  refine then_n ?_
  refine wp_seq ?_
  -- region 1
  refine reg_lit ?_
  refine L1 (mv (v := .slice _ _ _) rfl) ?_
  refine L1 (bd70 rfl rfl rfl) ?_
  refine L1 (bx70 rfl) ?_
  refine L1 (asg (v := .pointer _) rfl) ?_
  refine wpList_nil ?_
  refine then_n ?_
  refine wp_ret ?_
  refine ret1 rfl rfl ?_
  refine ⟨_, rfl, rfl, ?_, (Kp.refl [] w).alloc _, by simp⟩
  exact Bk.newOf w _ 70 3 (fun k => if k = 0 then .slice a n c else if k = 1 then .int .i64 0 else .int .i64 (-1)) rfl
theorem makeReader_c (w : World) (F R : Nat) (g : Nat → Value) (hF : Bk w F 1054 95 g) :
    Ret 34 [.pointer (some ⟨F, 0, none⟩), .iface 43 (.pointer (some ⟨R, 0, none⟩))] w fun v w' => v = .tuple #[] ∧ Bk w' F 1054 95 (upd (upd g 1 (.pointer none)) 0 (.iface 43 (.pointer (some ⟨R, 0, none⟩)))) ∧ Kp [F] w w' := by
  have kp := Kp.refl [F] w
  refine calls_fr (N := 43) Tryd.func34 rfl rfl (by simp) rfl ?_
  refine wp_seq ?_
  refine wp_seq ?_
  -- region 0
  refine reg_lit ?_
  refine L1 (mv (v := .iface _ _) rfl) ?_
  refine L1 (ta80 rfl) ?_
  refine L1 (mv (v := .tuple _) rfl) ?_
  refine L1 (ext2_0 rfl) ?_
  refine L1 (ext2_1 rfl) ?_
  refine L1 (asg (v := .iface _ _) rfl) ?_
  refine L1 (asg (v := .bool _) rfl) ?_
  refine wpList_nil ?_
  refine then_n ?_
  refine wp_seq ?_
  -- region 1
  refine reg_lit ?_
  refine L1 (mv (v := .bool _) rfl) ?_
  refine wpList_nil ?_
  refine then_n ?_
  refine cond_t rfl ?_
  refine wp_seq ?_
  -- region 2
  refine reg_lit ?_
  refine L1 (mv (v := .pointer _) rfl) ?_
  refine L1 (nilP rfl) ?_
  refine L1 (fa95_1 rfl) ?_
  refine Lst81 (v := .pointer _) rfl rfl rfl hF (by decide) ?_
  intro w1 hF kp1
  have kp := kp.trans kp1
  clear kp1
  refine wpList_nil ?_
  refine then_n ?_
  refine wp_seq ?_
  -- region 3
  refine reg_lit ?_
  refine L1 (mv (v := .pointer _) rfl) ?_
  refine L1 (mv (v := .iface _ _) rfl) ?_
  refine L1 (nilP rfl) ?_
  refine L1 (fa95_0 rfl) ?_
  refine Lst80 (v := .iface _ _) rfl rfl rfl hF (by decide) ?_
  intro w1 hF kp1
  have kp := kp.trans kp1
  clear kp1
  refine wpList_nil ?_
  refine then_n ?_
  refine wp_ret ?_
  refine then_r ?_
  refine ret0 rfl ?_
  exact ⟨_, rfl, rfl, hF, kp⟩
/-- What init leaves: the last bytes of the dictionary in the window. -/
def InitP (F H : Nat) (w' : World) (g : Nat → Value) (xs : List Nat) : Prop :=
  ∃ g' hs, Bk w' F 1054 95 g' ∧ Bk w' H 32768 5 hs ∧ Off [1037, 1038, 1039, 1040] g g' ∧ g' 1037 = .slice (some ⟨H, 0, none⟩) 32768 32768 ∧
    g' 1038 = .int .i64 ((min xs.length 32768 % 32768 : Nat) : Int) ∧ g' 1039 = .int .i64 ((min xs.length 32768 % 32768 : Nat) : Int) ∧ g' 1040 = .bool (decide (32768 ≤ xs.length)) ∧
    (∀ k, k < 32768 → ∃ c : Nat, c < 256 ∧ hs k = .int .u8 c) ∧ ∀ j, j < min xs.length 32768 → hs j = .int .u8 (xs.getD (xs.length - min xs.length 32768 + j) 0)
theorem initP_mk {F H : Nat} {w' : World} {g g' hs : Nat → Value} {xs : List Nat} {dg : Nat → Value} {o n : Nat} (hn : n = min xs.length 32768) (ho : o = xs.length - n) (hF : Bk w' F 1054 95 g') (hH : Bk w' H 32768 5 (cpg hs dg 0 o n)) (ho' : Off [1037, 1038, 1039, 1040] g g')
    (h1 : g' 1037 = .slice (some ⟨H, 0, none⟩) 32768 32768) (h2 : g' 1038 = .int .i64 ((n % 32768 : Nat) : Int)) (h3 : g' 1039 = .int .i64 ((n % 32768 : Nat) : Int)) (h4 : g' 1040 = .bool (decide (32768 ≤ xs.length)))
    (hb : ∀ k, k < 32768 → ∃ c : Nat, c < 256 ∧ hs k = .int .u8 c) (hx : ∀ x ∈ xs, x < 256) (hd : ∀ k, k < xs.length → dg k = .int .u8 (xs.getD k 0)) : InitP F H w' g xs := by
  subst hn ho
  refine ⟨g', _, hF, hH, ho', h1, h2, h3, h4, fun k hk => ?_, fun j hj => ?_⟩
  · unfold cpg
    split
    · rename_i hh
      have hlt : xs.length - min xs.length 32768 + (k - 0) < xs.length := by omega
      refine ⟨xs.getD (xs.length - min xs.length 32768 + (k - 0)) 0, ?_, hd _ hlt⟩
      rw [List.getD_eq_getElem?_getD, List.getElem?_eq_getElem hlt]
      exact hx _ (List.getElem_mem hlt)
    · exact hb k hk
  · unfold cpg
    rw [if_pos (by omega), hd _ (by omega), Nat.sub_zero]
theorem init_n_none (w : World) (F : Nat) (g : Nat → Value) (hF : Bk w F 1054 95 g) (h37 : g 1037 = .slice none 0 0) (da : Option Addr) (dc : Nat) :
    Ret 36 [.pointer (some ⟨F, 1037, none⟩), .int .i64 32768, .slice da 0 dc] w fun v w' => v = .tuple #[] ∧ ∃ H, w.heap.size ≤ H ∧ InitP F H w' g [] ∧ Kp [F] w w' := by
  have kp := Kp.refl [F] w
  have hFlt := hF.lt
  refine calls_fr (N := 84) Tryd.func36 rfl rfl (by simp) rfl ?_
  refine wp_seq ?_
  -- region 0
  refine reg_lit ?_
  refine L1 (mv (v := .pointer _) rfl) ?_
  refine L1 (mv (v := .pointer _) rfl) ?_
  refine L1 (nilP rfl) ?_
  refine L1 (fd90_0 rfl) ?_
  refine L1 (ld22 rfl (hF.cellv (by decide) h37)) ?_
  refine L1 (bd90 rfl) ?_
  refine L1 (nilP rfl) ?_
  refine Lst90 rfl rfl ⟨rfl, rfl, rfl, rfl⟩ hF (by decide) ?_
  intro w1 hF kp1
  have kp := kp.trans (kp1.mono (by simp))
  clear kp1
  refine wpList_nil ?_
  refine then_n ?_
  refine wp_seq ?_
  refine wp_seq ?_
  -- region 1
  refine reg_lit ?_
  refine L1 (mv (v := .pointer _) rfl) ?_
  refine L1 (nilP rfl) ?_
  refine L1 (fd90_0 rfl) ?_
  refine L1 (ld22 rfl (hF.cellv (v := .slice _ _ _) (by decide) rfl)) ?_
  refine L1 (cp und22 rfl) ?_
  refine L1 (mv (v := .int _ _) rfl) ?_
  refine L1 (bi rfl rfl (bn_lss (v := true) (decide_eq_true (by omega)))) ?_
  refine wpList_nil ?_
  refine then_n ?_
  refine cond_t rfl ?_
  -- region 2
  refine reg_lit ?_
  refine L1 (mv (v := .pointer _) rfl) ?_
  refine L1 (mv (v := .int _ _) rfl) ?_
  refine Lmk (n := 32768) rfl rfl (by decide) ?_
  intro H w1 hHe hH kp1 hsz
  have hle0 := kp.size
  have hFH : F ≠ H := by omega
  have hF := hF.kp kp1 (by simp)
  have kp := kp.trans (kp1.mono (by simp))
  clear kp1
  refine L1 (nilP rfl) ?_
  refine L1 (fd90_0 rfl) ?_
  refine Lst22 (v := .slice _ _ _) rfl rfl rfl hF (by decide) ?_
  intro w1 hF kp1
  have hH := hH.kp kp1 (by simp; exact fun e => hFH e.symm)
  have kp := kp.trans (kp1.mono (by simp))
  clear kp1
  refine wpList_nil ?_
  refine then_n ?_
  refine wp_seq ?_
  -- region 3
  refine reg_lit ?_
  refine L1 (mv (v := .pointer _) rfl) ?_
  refine L1 (mv (v := .pointer _) rfl) ?_
  refine L1 (nilP rfl) ?_
  refine L1 (fd90_0 rfl) ?_
  refine L1 (ld22 rfl (hF.cellv (v := .slice _ _ _) (by decide) rfl)) ?_
  refine L1 (mv (v := .int _ _) rfl) ?_
  refine L1 (sl_h und22 sz5 rfl rfl (h := 32768) rfl (by omega)) ?_
  refine L1 (nilP rfl) ?_
  refine L1 (fd90_0 rfl) ?_
  refine Lst22 (v := .slice _ _ _) rfl rfl rfl hF (by decide) ?_
  intro w1 hF kp1
  have hH := hH.kp kp1 (by simp; exact fun e => hFH e.symm)
  have kp := kp.trans (kp1.mono (by simp))
  clear kp1
  refine wpList_nil ?_
  refine then_n ?_
  refine wp_seq ?_
  refine wp_seq ?_
  -- region 4
  refine reg_lit ?_
  refine L1 (mv (v := .slice _ _ _) rfl) ?_
  refine L1 (ln und22 rfl) ?_
  refine L1 (mv (v := .pointer _) rfl) ?_
  refine L1 (nilP rfl) ?_
  refine L1 (fd90_0 rfl) ?_
  refine L1 (ld22 rfl (hF.cellv (v := .slice _ _ _) (by decide) rfl)) ?_
  refine L1 (ln und22 rfl) ?_
  refine L1 (bi rfl rfl (bn_gtr (v := false) (decide_eq_false (by omega)))) ?_
  refine wpList_nil ?_
  refine then_n ?_
  refine cond_f rfl ?_
  refine wp_skip ?_
  refine then_n ?_
  refine wp_seq ?_
  -- region 6
  refine reg_lit ?_
  refine L1 (mv (v := .pointer _) rfl) ?_
  refine L1 (mv (v := .pointer _) rfl) ?_
  refine L1 (nilP rfl) ?_
  refine L1 (fd90_0 rfl) ?_
  refine L1 (ld22 rfl (hF.cellv (v := .slice _ _ _) (by decide) rfl)) ?_
  refine L1 (mv (v := .slice _ _ _) rfl) ?_
  refine L1 (run_cp0 rfl rfl (by simp)) ?_
  refine L1 (nilP rfl) ?_
  refine L1 (fd90_1 rfl) ?_
  refine Lst3 (v := .int _ _) rfl rfl rfl hF (by decide) ?_
  intro w1 hF kp1
  have hH := hH.kp kp1 (by simp; exact fun e => hFH e.symm)
  have kp := kp.trans (kp1.mono (by simp))
  clear kp1
  refine wpList_nil ?_
  refine then_n ?_
  refine wp_seq ?_
  refine wp_seq ?_
  -- region 7 (its order is open)
  refine reg_still mixed (by kernel_rfl) ?_
  have hF := hF.drew
  have hH := hH.drew
  have kp := kp.drew
  refine S1 (mv (v := .pointer _) rfl) ?_
  refine S1 (nilP rfl) ?_
  refine S1 (fd90_1 rfl) ?_
  refine S1 (ld3 rfl (hF.cellv (v := .int _ _) (by decide) rfl)) ?_
  refine S1 (mv (v := .pointer _) rfl) ?_
  refine S1 (nilP rfl) ?_
  refine S1 (fd90_0 rfl) ?_
  refine S1 (ld22 rfl (hF.cellv (v := .slice _ _ _) (by decide) rfl)) ?_
  refine S1 (ln und22 rfl) ?_
  refine S1 (bi rfl rfl (bn_eql (v := false) (decide_eq_false (by omega)))) ?_
  refine still_nil ?_
  refine then_n ?_
  refine cond_f rfl ?_
  refine wp_skip ?_
  refine then_n ?_
  -- region 10
  refine reg_lit ?_
  refine L1 (mv (v := .pointer _) rfl) ?_
  refine L1 (mv (v := .pointer _) rfl) ?_
  refine L1 (nilP rfl) ?_
  refine L1 (fd90_1 rfl) ?_
  refine L1 (ld3 rfl (hF.cellv (v := .int _ _) (by decide) rfl)) ?_
  refine L1 (nilP rfl) ?_
  refine L1 (fd90_2 rfl) ?_
  refine Lst3 (v := .int _ _) rfl rfl rfl hF (by decide) ?_
  intro w1 hF kp1
  have hH := hH.kp kp1 (by simp; exact fun e => hFH e.symm)
  have kp := kp.trans (kp1.mono (by simp))
  clear kp1
  refine wpList_nil ?_
  refine end0 rfl ?_
  refine ⟨_, rfl, rfl, H, by omega, ?_, kp⟩
  refine ⟨_, _, hF, hH, by repeat (first | exact Off.refl _ _ | refine Off.upd ?_ (by decide) _), rfl, rfl, rfl, rfl, (fun _ _ => ⟨0, by decide, rfl⟩), fun j hj => by simp at hj⟩
theorem init_n_small (w : World) (F : Nat) (g : Nat → Value) (hF : Bk w F 1054 95 g) (h37 : g 1037 = .slice none 0 0) (xs : List Nat) (Db dc dn : Nat) (dg : Nat → Value) (hD : Bk w Db dn 5 dg) (hDF : Db ≠ F) (hdn : xs.length ≤ dn) (hdc : xs.length ≤ dc) (hx : ∀ x ∈ xs, x < 256) (hdg : ∀ k, k < xs.length → dg k = .int .u8 (xs.getD k 0)) (h47 : xs.length ≤ 140737488355328) (hlen : xs.length < 32768) :
    Ret 36 [.pointer (some ⟨F, 1037, none⟩), .int .i64 32768, .slice (some ⟨Db, 0, none⟩) xs.length dc] w fun v w' => v = .tuple #[] ∧ ∃ H, w.heap.size ≤ H ∧ InitP F H w' g xs ∧ Kp [F] w w' := by
  have kp := Kp.refl [F] w
  have hFlt := hF.lt
  have hDlt := hD.lt
  refine calls_fr (N := 84) Tryd.func36 rfl rfl (by simp) rfl ?_
  refine wp_seq ?_
  -- region 0
  refine reg_lit ?_
  refine L1 (mv (v := .pointer _) rfl) ?_
  refine L1 (mv (v := .pointer _) rfl) ?_
  refine L1 (nilP rfl) ?_
  refine L1 (fd90_0 rfl) ?_
  refine L1 (ld22 rfl (hF.cellv (by decide) h37)) ?_
  refine L1 (bd90 rfl) ?_
  refine L1 (nilP rfl) ?_
  refine Lst90 rfl rfl ⟨rfl, rfl, rfl, rfl⟩ hF (by decide) ?_
  intro w1 hF kp1
  have hD := hD.kp kp1 (by simp; exact hDF)
  have kp := kp.trans (kp1.mono (by simp))
  clear kp1
  refine wpList_nil ?_
  refine then_n ?_
  refine wp_seq ?_
  refine wp_seq ?_
  -- region 1
  refine reg_lit ?_
  refine L1 (mv (v := .pointer _) rfl) ?_
  refine L1 (nilP rfl) ?_
  refine L1 (fd90_0 rfl) ?_
  refine L1 (ld22 rfl (hF.cellv (v := .slice _ _ _) (by decide) rfl)) ?_
  refine L1 (cp und22 rfl) ?_
  refine L1 (mv (v := .int _ _) rfl) ?_
  refine L1 (bi rfl rfl (bn_lss (v := true) (decide_eq_true (by omega)))) ?_
  refine wpList_nil ?_
  refine then_n ?_
  refine cond_t rfl ?_
  -- region 2
  refine reg_lit ?_
  refine L1 (mv (v := .pointer _) rfl) ?_
  refine L1 (mv (v := .int _ _) rfl) ?_
  refine Lmk (n := 32768) rfl rfl (by decide) ?_
  intro H w1 hHe hH kp1 hsz
  have hle0 := kp.size
  have hFH : F ≠ H := by omega
  have hF := hF.kp kp1 (by simp)
  have hD := hD.kp kp1 (by simp)
  have hDH : Db ≠ H := by omega
  have kp := kp.trans (kp1.mono (by simp))
  clear kp1
  refine L1 (nilP rfl) ?_
  refine L1 (fd90_0 rfl) ?_
  refine Lst22 (v := .slice _ _ _) rfl rfl rfl hF (by decide) ?_
  intro w1 hF kp1
  have hH := hH.kp kp1 (by simp; exact fun e => hFH e.symm)
  have hD := hD.kp kp1 (by simp; exact hDF)
  have kp := kp.trans (kp1.mono (by simp))
  clear kp1
  refine wpList_nil ?_
  refine then_n ?_
  refine wp_seq ?_
  -- region 3
  refine reg_lit ?_
  refine L1 (mv (v := .pointer _) rfl) ?_
  refine L1 (mv (v := .pointer _) rfl) ?_
  refine L1 (nilP rfl) ?_
  refine L1 (fd90_0 rfl) ?_
  refine L1 (ld22 rfl (hF.cellv (v := .slice _ _ _) (by decide) rfl)) ?_
  refine L1 (mv (v := .int _ _) rfl) ?_
  refine L1 (sl_h und22 sz5 rfl rfl (h := 32768) rfl (by omega)) ?_
  refine L1 (nilP rfl) ?_
  refine L1 (fd90_0 rfl) ?_
  refine Lst22 (v := .slice _ _ _) rfl rfl rfl hF (by decide) ?_
  intro w1 hF kp1
  have hH := hH.kp kp1 (by simp; exact fun e => hFH e.symm)
  have hD := hD.kp kp1 (by simp; exact hDF)
  have kp := kp.trans (kp1.mono (by simp))
  clear kp1
  refine wpList_nil ?_
  refine then_n ?_
  refine wp_seq ?_
  refine wp_seq ?_
  -- region 4
  refine reg_lit ?_
  refine L1 (mv (v := .slice _ _ _) rfl) ?_
  refine L1 (ln und22 rfl) ?_
  refine L1 (mv (v := .pointer _) rfl) ?_
  refine L1 (nilP rfl) ?_
  refine L1 (fd90_0 rfl) ?_
  refine L1 (ld22 rfl (hF.cellv (v := .slice _ _ _) (by decide) rfl)) ?_
  refine L1 (ln und22 rfl) ?_
  refine L1 (bi rfl rfl (bn_gtr (v := false) (decide_eq_false (by omega)))) ?_
  refine wpList_nil ?_
  refine then_n ?_
  refine cond_f rfl ?_
  refine wp_skip ?_
  refine then_n ?_
  refine wp_seq ?_
  -- region 6
  refine reg_lit ?_
  refine L1 (mv (v := .pointer _) rfl) ?_
  refine L1 (mv (v := .pointer _) rfl) ?_
  refine L1 (nilP rfl) ?_
  refine L1 (fd90_0 rfl) ?_
  refine L1 (ld22 rfl (hF.cellv (v := .slice _ _ _) (by decide) rfl)) ?_
  refine L1 (mv (v := .slice _ _ _) rfl) ?_
  refine Lcp rfl rfl hH hD (by omega) (by omega) (fun j hj => by rw [hdg _ (by omega)]; rfl) ?_
  rw [show min xs.length 32768 = xs.length by omega]
  intro w1 hH kp1
  have hF := hF.kp kp1 (by simp; exact hFH)
  have hD := hD.kp kp1 (by simp; exact hDH)
  have kp := kp.transNew kp1 (by simp; omega)
  clear kp1
  refine L1 (nilP rfl) ?_
  refine L1 (fd90_1 rfl) ?_
  refine Lst3 (v := .int _ _) rfl rfl rfl hF (by decide) ?_
  intro w1 hF kp1
  have hH := hH.kp kp1 (by simp; exact fun e => hFH e.symm)
  have hD := hD.kp kp1 (by simp; exact hDF)
  have kp := kp.trans (kp1.mono (by simp))
  clear kp1
  refine wpList_nil ?_
  refine then_n ?_
  refine wp_seq ?_
  refine wp_seq ?_
  -- region 7 (its order is open)
  refine reg_still mixed (by kernel_rfl) ?_
  have hF := hF.drew
  have hH := hH.drew
  have kp := kp.drew
  have hD := hD.drew
  refine S1 (mv (v := .pointer _) rfl) ?_
  refine S1 (nilP rfl) ?_
  refine S1 (fd90_1 rfl) ?_
  refine S1 (ld3 rfl (hF.cellv (v := .int _ _) (by decide) rfl)) ?_
  refine S1 (mv (v := .pointer _) rfl) ?_
  refine S1 (nilP rfl) ?_
  refine S1 (fd90_0 rfl) ?_
  refine S1 (ld22 rfl (hF.cellv (v := .slice _ _ _) (by decide) rfl)) ?_
  refine S1 (ln und22 rfl) ?_
  refine S1 (bi rfl rfl (bn_eql (v := false) (decide_eq_false (by omega)))) ?_
  refine still_nil ?_
  refine then_n ?_
  refine cond_f rfl ?_
  refine wp_skip ?_
  refine then_n ?_
  -- region 10
  refine reg_lit ?_
  refine L1 (mv (v := .pointer _) rfl) ?_
  refine L1 (mv (v := .pointer _) rfl) ?_
  refine L1 (nilP rfl) ?_
  refine L1 (fd90_1 rfl) ?_
  refine L1 (ld3 rfl (hF.cellv (v := .int _ _) (by decide) rfl)) ?_
  refine L1 (nilP rfl) ?_
  refine L1 (fd90_2 rfl) ?_
  refine Lst3 (v := .int _ _) rfl rfl rfl hF (by decide) ?_
  intro w1 hF kp1
  have hH := hH.kp kp1 (by simp; exact fun e => hFH e.symm)
  have hD := hD.kp kp1 (by simp; exact hDF)
  have kp := kp.trans (kp1.mono (by simp))
  clear kp1
  refine wpList_nil ?_
  refine end0 rfl ?_
  refine ⟨_, rfl, rfl, H, by omega, ?_, kp⟩
  refine initP_mk (hs := (fun _ => .int .u8 0)) (dg := dg) (o := 0) (n := xs.length) (by omega) (by omega) hF hH (by repeat (first | exact Off.refl _ _ | refine Off.upd ?_ (by decide) _)) rfl ?_ ?_ ?_ (fun _ _ => ⟨0, by decide, rfl⟩) hx hdg
  · rw [Nat.mod_eq_of_lt (by omega)]; rfl
  · rw [Nat.mod_eq_of_lt (by omega)]; rfl
  · show Value.bool false = _
    rw [decide_eq_false (by omega)]
theorem init_n_exact (w : World) (F : Nat) (g : Nat → Value) (hF : Bk w F 1054 95 g) (h37 : g 1037 = .slice none 0 0) (xs : List Nat) (Db dc dn : Nat) (dg : Nat → Value) (hD : Bk w Db dn 5 dg) (hDF : Db ≠ F) (hdn : xs.length ≤ dn) (hdc : xs.length ≤ dc) (hx : ∀ x ∈ xs, x < 256) (hdg : ∀ k, k < xs.length → dg k = .int .u8 (xs.getD k 0)) (h47 : xs.length ≤ 140737488355328) (hlen : xs.length = 32768) :
    Ret 36 [.pointer (some ⟨F, 1037, none⟩), .int .i64 32768, .slice (some ⟨Db, 0, none⟩) xs.length dc] w fun v w' => v = .tuple #[] ∧ ∃ H, w.heap.size ≤ H ∧ InitP F H w' g xs ∧ Kp [F] w w' := by
  have kp := Kp.refl [F] w
  have hFlt := hF.lt
  have hDlt := hD.lt
  refine calls_fr (N := 84) Tryd.func36 rfl rfl (by simp) rfl ?_
  refine wp_seq ?_
  -- region 0
  refine reg_lit ?_
  refine L1 (mv (v := .pointer _) rfl) ?_
  refine L1 (mv (v := .pointer _) rfl) ?_
  refine L1 (nilP rfl) ?_
  refine L1 (fd90_0 rfl) ?_
  refine L1 (ld22 rfl (hF.cellv (by decide) h37)) ?_
  refine L1 (bd90 rfl) ?_
  refine L1 (nilP rfl) ?_
  refine Lst90 rfl rfl ⟨rfl, rfl, rfl, rfl⟩ hF (by decide) ?_
  intro w1 hF kp1
  have hD := hD.kp kp1 (by simp; exact hDF)
  have kp := kp.trans (kp1.mono (by simp))
  clear kp1
  refine wpList_nil ?_
  refine then_n ?_
  refine wp_seq ?_
  refine wp_seq ?_
  -- region 1
  refine reg_lit ?_
  refine L1 (mv (v := .pointer _) rfl) ?_
  refine L1 (nilP rfl) ?_
  refine L1 (fd90_0 rfl) ?_
  refine L1 (ld22 rfl (hF.cellv (v := .slice _ _ _) (by decide) rfl)) ?_
  refine L1 (cp und22 rfl) ?_
  refine L1 (mv (v := .int _ _) rfl) ?_
  refine L1 (bi rfl rfl (bn_lss (v := true) (decide_eq_true (by omega)))) ?_
  refine wpList_nil ?_
  refine then_n ?_
  refine cond_t rfl ?_
  -- region 2
  refine reg_lit ?_
  refine L1 (mv (v := .pointer _) rfl) ?_
  refine L1 (mv (v := .int _ _) rfl) ?_
  refine Lmk (n := 32768) rfl rfl (by decide) ?_
  intro H w1 hHe hH kp1 hsz
  have hle0 := kp.size
  have hFH : F ≠ H := by omega
  have hF := hF.kp kp1 (by simp)
  have hD := hD.kp kp1 (by simp)
  have hDH : Db ≠ H := by omega
  have kp := kp.trans (kp1.mono (by simp))
  clear kp1
  refine L1 (nilP rfl) ?_
  refine L1 (fd90_0 rfl) ?_
  refine Lst22 (v := .slice _ _ _) rfl rfl rfl hF (by decide) ?_
  intro w1 hF kp1
  have hH := hH.kp kp1 (by simp; exact fun e => hFH e.symm)
  have hD := hD.kp kp1 (by simp; exact hDF)
  have kp := kp.trans (kp1.mono (by simp))
  clear kp1
  refine wpList_nil ?_
  refine then_n ?_
  refine wp_seq ?_
  -- region 3
  refine reg_lit ?_
  refine L1 (mv (v := .pointer _) rfl) ?_
  refine L1 (mv (v := .pointer _) rfl) ?_
  refine L1 (nilP rfl) ?_
  refine L1 (fd90_0 rfl) ?_
  refine L1 (ld22 rfl (hF.cellv (v := .slice _ _ _) (by decide) rfl)) ?_
  refine L1 (mv (v := .int _ _) rfl) ?_
  refine L1 (sl_h und22 sz5 rfl rfl (h := 32768) rfl (by omega)) ?_
  refine L1 (nilP rfl) ?_
  refine L1 (fd90_0 rfl) ?_
  refine Lst22 (v := .slice _ _ _) rfl rfl rfl hF (by decide) ?_
  intro w1 hF kp1
  have hH := hH.kp kp1 (by simp; exact fun e => hFH e.symm)
  have hD := hD.kp kp1 (by simp; exact hDF)
  have kp := kp.trans (kp1.mono (by simp))
  clear kp1
  refine wpList_nil ?_
  refine then_n ?_
  refine wp_seq ?_
  refine wp_seq ?_
  -- region 4
  refine reg_lit ?_
  refine L1 (mv (v := .slice _ _ _) rfl) ?_
  refine L1 (ln und22 rfl) ?_
  refine L1 (mv (v := .pointer _) rfl) ?_
  refine L1 (nilP rfl) ?_
  refine L1 (fd90_0 rfl) ?_
  refine L1 (ld22 rfl (hF.cellv (v := .slice _ _ _) (by decide) rfl)) ?_
  refine L1 (ln und22 rfl) ?_
  refine L1 (bi rfl rfl (bn_gtr (v := false) (decide_eq_false (by omega)))) ?_
  refine wpList_nil ?_
  refine then_n ?_
  refine cond_f rfl ?_
  refine wp_skip ?_
  refine then_n ?_
  refine wp_seq ?_
  -- region 6
  refine reg_lit ?_
  refine L1 (mv (v := .pointer _) rfl) ?_
  refine L1 (mv (v := .pointer _) rfl) ?_
  refine L1 (nilP rfl) ?_
  refine L1 (fd90_0 rfl) ?_
  refine L1 (ld22 rfl (hF.cellv (v := .slice _ _ _) (by decide) rfl)) ?_
  refine L1 (mv (v := .slice _ _ _) rfl) ?_
  refine Lcp rfl rfl hH hD (by omega) (by omega) (fun j hj => by rw [hdg _ (by omega)]; rfl) ?_
  rw [show min xs.length 32768 = 32768 by omega]
  intro w1 hH kp1
  have hF := hF.kp kp1 (by simp; exact hFH)
  have hD := hD.kp kp1 (by simp; exact hDH)
  have kp := kp.transNew kp1 (by simp; omega)
  clear kp1
  refine L1 (nilP rfl) ?_
  refine L1 (fd90_1 rfl) ?_
  refine Lst3 (v := .int _ _) rfl rfl rfl hF (by decide) ?_
  intro w1 hF kp1
  have hH := hH.kp kp1 (by simp; exact fun e => hFH e.symm)
  have hD := hD.kp kp1 (by simp; exact hDF)
  have kp := kp.trans (kp1.mono (by simp))
  clear kp1
  refine wpList_nil ?_
  refine then_n ?_
  refine wp_seq ?_
  refine wp_seq ?_
  -- region 7 (its order is open)
  refine reg_still mixed (by kernel_rfl) ?_
  have hF := hF.drew
  have hH := hH.drew
  have kp := kp.drew
  have hD := hD.drew
  refine S1 (mv (v := .pointer _) rfl) ?_
  refine S1 (nilP rfl) ?_
  refine S1 (fd90_1 rfl) ?_
  refine S1 (ld3 rfl (hF.cellv (v := .int _ _) (by decide) rfl)) ?_
  refine S1 (mv (v := .pointer _) rfl) ?_
  refine S1 (nilP rfl) ?_
  refine S1 (fd90_0 rfl) ?_
  refine S1 (ld22 rfl (hF.cellv (v := .slice _ _ _) (by decide) rfl)) ?_
  refine S1 (ln und22 rfl) ?_
  refine S1 (bi rfl rfl (bn_eql (v := true) (decide_eq_true (by omega)))) ?_
  refine still_nil ?_
  refine then_n ?_
  refine cond_t rfl ?_
  refine wp_seq ?_
  -- region 8
  refine reg_lit ?_
  refine L1 (mv (v := .pointer _) rfl) ?_
  refine L1 (nilP rfl) ?_
  refine L1 (fd90_1 rfl) ?_
  refine Lst3 (v := .int _ _) rfl rfl rfl hF (by decide) ?_
  intro w1 hF kp1
  have hH := hH.kp kp1 (by simp; exact fun e => hFH e.symm)
  have hD := hD.kp kp1 (by simp; exact hDF)
  have kp := kp.trans (kp1.mono (by simp))
  clear kp1
  refine wpList_nil ?_
  refine then_n ?_
  -- region 9
  refine reg_lit ?_
  refine L1 (mv (v := .pointer _) rfl) ?_
  refine L1 (nilP rfl) ?_
  refine L1 (fd90_3 rfl) ?_
  refine Lst4 (v := .bool _) rfl rfl rfl hF (by decide) ?_
  intro w1 hF kp1
  have hH := hH.kp kp1 (by simp; exact fun e => hFH e.symm)
  have hD := hD.kp kp1 (by simp; exact hDF)
  have kp := kp.trans (kp1.mono (by simp))
  clear kp1
  refine wpList_nil ?_
  refine then_n ?_
  -- region 10
  refine reg_lit ?_
  refine L1 (mv (v := .pointer _) rfl) ?_
  refine L1 (mv (v := .pointer _) rfl) ?_
  refine L1 (nilP rfl) ?_
  refine L1 (fd90_1 rfl) ?_
  refine L1 (ld3 rfl (hF.cellv (v := .int _ _) (by decide) rfl)) ?_
  refine L1 (nilP rfl) ?_
  refine L1 (fd90_2 rfl) ?_
  refine Lst3 (v := .int _ _) rfl rfl rfl hF (by decide) ?_
  intro w1 hF kp1
  have hH := hH.kp kp1 (by simp; exact fun e => hFH e.symm)
  have hD := hD.kp kp1 (by simp; exact hDF)
  have kp := kp.trans (kp1.mono (by simp))
  clear kp1
  refine wpList_nil ?_
  refine end0 rfl ?_
  refine ⟨_, rfl, rfl, H, by omega, ?_, kp⟩
  refine initP_mk (hs := (fun _ => .int .u8 0)) (dg := dg) (o := 0) (n := 32768) (by omega) (by omega) hF hH (by repeat (first | exact Off.refl _ _ | refine Off.upd ?_ (by decide) _)) rfl ?_ ?_ ?_ (fun _ _ => ⟨0, by decide, rfl⟩) hx hdg
  · rfl
  · rfl
  · show Value.bool true = _
    rw [decide_eq_true (by omega)]
theorem init_n_great (w : World) (F : Nat) (g : Nat → Value) (hF : Bk w F 1054 95 g) (h37 : g 1037 = .slice none 0 0) (xs : List Nat) (Db dc dn : Nat) (dg : Nat → Value) (hD : Bk w Db dn 5 dg) (hDF : Db ≠ F) (hdn : xs.length ≤ dn) (hdc : xs.length ≤ dc) (hx : ∀ x ∈ xs, x < 256) (hdg : ∀ k, k < xs.length → dg k = .int .u8 (xs.getD k 0)) (h47 : xs.length ≤ 140737488355328) (hlen : 32768 < xs.length) :
    Ret 36 [.pointer (some ⟨F, 1037, none⟩), .int .i64 32768, .slice (some ⟨Db, 0, none⟩) xs.length dc] w fun v w' => v = .tuple #[] ∧ ∃ H, w.heap.size ≤ H ∧ InitP F H w' g xs ∧ Kp [F] w w' := by
  have kp := Kp.refl [F] w
  have hFlt := hF.lt
  have hDlt := hD.lt
  obtain ⟨oo, hoo⟩ : ∃ oo, xs.length = oo + 32768 := ⟨xs.length - 32768, by omega⟩
  have hlc : oo < dc := by omega
  have hle : oo ≤ xs.length := by omega
  refine calls_fr (N := 84) Tryd.func36 rfl rfl (by simp) rfl ?_
  refine wp_seq ?_
  -- region 0
  refine reg_lit ?_
  refine L1 (mv (v := .pointer _) rfl) ?_
  refine L1 (mv (v := .pointer _) rfl) ?_
  refine L1 (nilP rfl) ?_
  refine L1 (fd90_0 rfl) ?_
  refine L1 (ld22 rfl (hF.cellv (by decide) h37)) ?_
  refine L1 (bd90 rfl) ?_
  refine L1 (nilP rfl) ?_
  refine Lst90 rfl rfl ⟨rfl, rfl, rfl, rfl⟩ hF (by decide) ?_
  intro w1 hF kp1
  have hD := hD.kp kp1 (by simp; exact hDF)
  have kp := kp.trans (kp1.mono (by simp))
  clear kp1
  refine wpList_nil ?_
  refine then_n ?_
  refine wp_seq ?_
  refine wp_seq ?_
  -- region 1
  refine reg_lit ?_
  refine L1 (mv (v := .pointer _) rfl) ?_
  refine L1 (nilP rfl) ?_
  refine L1 (fd90_0 rfl) ?_
  refine L1 (ld22 rfl (hF.cellv (v := .slice _ _ _) (by decide) rfl)) ?_
  refine L1 (cp und22 rfl) ?_
  refine L1 (mv (v := .int _ _) rfl) ?_
  refine L1 (bi rfl rfl (bn_lss (v := true) (decide_eq_true (by omega)))) ?_
  refine wpList_nil ?_
  refine then_n ?_
  refine cond_t rfl ?_
  -- region 2
  refine reg_lit ?_
  refine L1 (mv (v := .pointer _) rfl) ?_
  refine L1 (mv (v := .int _ _) rfl) ?_
  refine Lmk (n := 32768) rfl rfl (by decide) ?_
  intro H w1 hHe hH kp1 hsz
  have hle0 := kp.size
  have hFH : F ≠ H := by omega
  have hF := hF.kp kp1 (by simp)
  have hD := hD.kp kp1 (by simp)
  have hDH : Db ≠ H := by omega
  have kp := kp.trans (kp1.mono (by simp))
  clear kp1
  refine L1 (nilP rfl) ?_
  refine L1 (fd90_0 rfl) ?_
  refine Lst22 (v := .slice _ _ _) rfl rfl rfl hF (by decide) ?_
  intro w1 hF kp1
  have hH := hH.kp kp1 (by simp; exact fun e => hFH e.symm)
  have hD := hD.kp kp1 (by simp; exact hDF)
  have kp := kp.trans (kp1.mono (by simp))
  clear kp1
  refine wpList_nil ?_
  refine then_n ?_
  refine wp_seq ?_
  -- region 3
  refine reg_lit ?_
  refine L1 (mv (v := .pointer _) rfl) ?_
  refine L1 (mv (v := .pointer _) rfl) ?_
  refine L1 (nilP rfl) ?_
  refine L1 (fd90_0 rfl) ?_
  refine L1 (ld22 rfl (hF.cellv (v := .slice _ _ _) (by decide) rfl)) ?_
  refine L1 (mv (v := .int _ _) rfl) ?_
  refine L1 (sl_h und22 sz5 rfl rfl (h := 32768) rfl (by omega)) ?_
  refine L1 (nilP rfl) ?_
  refine L1 (fd90_0 rfl) ?_
  refine Lst22 (v := .slice _ _ _) rfl rfl rfl hF (by decide) ?_
  intro w1 hF kp1
  have hH := hH.kp kp1 (by simp; exact fun e => hFH e.symm)
  have hD := hD.kp kp1 (by simp; exact hDF)
  have kp := kp.trans (kp1.mono (by simp))
  clear kp1
  refine wpList_nil ?_
  refine then_n ?_
  refine wp_seq ?_
  refine wp_seq ?_
  -- region 4
  refine reg_lit ?_
  refine L1 (mv (v := .slice _ _ _) rfl) ?_
  refine L1 (ln und22 rfl) ?_
  refine L1 (mv (v := .pointer _) rfl) ?_
  refine L1 (nilP rfl) ?_
  refine L1 (fd90_0 rfl) ?_
  refine L1 (ld22 rfl (hF.cellv (v := .slice _ _ _) (by decide) rfl)) ?_
  refine L1 (ln und22 rfl) ?_
  refine L1 (bi rfl rfl (bn_gtr (v := true) (decide_eq_true (by omega)))) ?_
  refine wpList_nil ?_
  refine then_n ?_
  refine cond_t rfl ?_
  -- region 5
  refine reg_lit ?_
  refine L1 (mv (v := .slice _ _ _) rfl) ?_
  refine L1 (mv (v := .slice _ _ _) rfl) ?_
  refine L1 (ln und22 rfl) ?_
  refine L1 (mv (v := .pointer _) rfl) ?_
  refine L1 (nilP rfl) ?_
  refine L1 (fd90_0 rfl) ?_
  refine L1 (ld22 rfl (hF.cellv (v := .slice _ _ _) (by decide) rfl)) ?_
  refine L1 (ln und22 rfl) ?_
  refine L1 (bi rfl rfl (bn_sub (c := ((oo : Nat) : Int)) (by omega) (by omega) (by omega))) ?_
  refine L1 (slb_l und22 sz5 rfl rfl (l := oo) rfl hle hlc) ?_
  refine L1 (asg (v := .slice _ _ _) rfl) ?_
  refine wpList_nil ?_
  refine then_n ?_
  refine wp_seq ?_
  -- region 6
  refine reg_lit ?_
  refine L1 (mv (v := .pointer _) rfl) ?_
  refine L1 (mv (v := .pointer _) rfl) ?_
  refine L1 (nilP rfl) ?_
  refine L1 (fd90_0 rfl) ?_
  refine L1 (ld22 rfl (hF.cellv (v := .slice _ _ _) (by decide) rfl)) ?_
  refine L1 (mv (v := .slice _ _ _) rfl) ?_
  refine Lcp rfl rfl hH hD (by omega) (by omega) (fun j hj => by rw [hdg _ (by omega)]; rfl) ?_
  rw [show min (xs.length - oo) 32768 = 32768 by omega]
  intro w1 hH kp1
  have hF := hF.kp kp1 (by simp; exact hFH)
  have hD := hD.kp kp1 (by simp; exact hDH)
  have kp := kp.transNew kp1 (by simp; omega)
  clear kp1
  refine L1 (nilP rfl) ?_
  refine L1 (fd90_1 rfl) ?_
  refine Lst3 (v := .int _ _) rfl rfl rfl hF (by decide) ?_
  intro w1 hF kp1
  have hH := hH.kp kp1 (by simp; exact fun e => hFH e.symm)
  have hD := hD.kp kp1 (by simp; exact hDF)
  have kp := kp.trans (kp1.mono (by simp))
  clear kp1
  refine wpList_nil ?_
  refine then_n ?_
  refine wp_seq ?_
  refine wp_seq ?_
  -- region 7 (its order is open)
  refine reg_still mixed (by kernel_rfl) ?_
  have hF := hF.drew
  have hH := hH.drew
  have kp := kp.drew
  have hD := hD.drew
  refine S1 (mv (v := .pointer _) rfl) ?_
  refine S1 (nilP rfl) ?_
  refine S1 (fd90_1 rfl) ?_
  refine S1 (ld3 rfl (hF.cellv (v := .int _ _) (by decide) rfl)) ?_
  refine S1 (mv (v := .pointer _) rfl) ?_
  refine S1 (nilP rfl) ?_
  refine S1 (fd90_0 rfl) ?_
  refine S1 (ld22 rfl (hF.cellv (v := .slice _ _ _) (by decide) rfl)) ?_
  refine S1 (ln und22 rfl) ?_
  refine S1 (bi rfl rfl (bn_eql (v := true) (decide_eq_true (by omega)))) ?_
  refine still_nil ?_
  refine then_n ?_
  refine cond_t rfl ?_
  refine wp_seq ?_
  -- region 8
  refine reg_lit ?_
  refine L1 (mv (v := .pointer _) rfl) ?_
  refine L1 (nilP rfl) ?_
  refine L1 (fd90_1 rfl) ?_
  refine Lst3 (v := .int _ _) rfl rfl rfl hF (by decide) ?_
  intro w1 hF kp1
  have hH := hH.kp kp1 (by simp; exact fun e => hFH e.symm)
  have hD := hD.kp kp1 (by simp; exact hDF)
  have kp := kp.trans (kp1.mono (by simp))
  clear kp1
  refine wpList_nil ?_
  refine then_n ?_
  -- region 9
  refine reg_lit ?_
  refine L1 (mv (v := .pointer _) rfl) ?_
  refine L1 (nilP rfl) ?_
  refine L1 (fd90_3 rfl) ?_
  refine Lst4 (v := .bool _) rfl rfl rfl hF (by decide) ?_
  intro w1 hF kp1
  have hH := hH.kp kp1 (by simp; exact fun e => hFH e.symm)
  have hD := hD.kp kp1 (by simp; exact hDF)
  have kp := kp.trans (kp1.mono (by simp))
  clear kp1
  refine wpList_nil ?_
  refine then_n ?_
  -- region 10
  refine reg_lit ?_
  refine L1 (mv (v := .pointer _) rfl) ?_
  refine L1 (mv (v := .pointer _) rfl) ?_
  refine L1 (nilP rfl) ?_
  refine L1 (fd90_1 rfl) ?_
  refine L1 (ld3 rfl (hF.cellv (v := .int _ _) (by decide) rfl)) ?_
  refine L1 (nilP rfl) ?_
  refine L1 (fd90_2 rfl) ?_
  refine Lst3 (v := .int _ _) rfl rfl rfl hF (by decide) ?_
  intro w1 hF kp1
  have hH := hH.kp kp1 (by simp; exact fun e => hFH e.symm)
  have hD := hD.kp kp1 (by simp; exact hDF)
  have kp := kp.trans (kp1.mono (by simp))
  clear kp1
  refine wpList_nil ?_
  refine end0 rfl ?_
  refine ⟨_, rfl, rfl, H, by omega, ?_, kp⟩
  refine initP_mk (hs := (fun _ => .int .u8 0)) (dg := dg) (o := oo) (n := 32768) (by omega) (by omega) hF (by simpa using hH) (by repeat (first | exact Off.refl _ _ | refine Off.upd ?_ (by decide) _)) rfl ?_ ?_ ?_ (fun _ _ => ⟨0, by decide, rfl⟩) hx hdg
  · rfl
  · rfl
  · show Value.bool true = _
    rw [decide_eq_true (by omega)]
theorem init_r_none (w : World) (F : Nat) (g : Nat → Value) (hF : Bk w F 1054 95 g) (H : Nat) (hs0 : Nat → Value) (hFH : F ≠ H) (hH : Bk w H 32768 5 hs0) (hb0 : ∀ k, k < 32768 → ∃ c : Nat, c < 256 ∧ hs0 k = .int .u8 c) (h37 : g 1037 = .slice (some ⟨H, 0, none⟩) 32768 32768) (da : Option Addr) (dc : Nat) :
    Ret 36 [.pointer (some ⟨F, 1037, none⟩), .int .i64 32768, .slice da 0 dc] w fun v w' => v = .tuple #[] ∧ InitP F H w' g [] ∧ Kp [F, H] w w' := by
  have kp := Kp.refl [F, H] w
  have hFlt := hF.lt
  refine calls_fr (N := 84) Tryd.func36 rfl rfl (by simp) rfl ?_
  refine wp_seq ?_
  -- region 0
  refine reg_lit ?_
  refine L1 (mv (v := .pointer _) rfl) ?_
  refine L1 (mv (v := .pointer _) rfl) ?_
  refine L1 (nilP rfl) ?_
  refine L1 (fd90_0 rfl) ?_
  refine L1 (ld22 rfl (hF.cellv (by decide) h37)) ?_
  refine L1 (bd90 rfl) ?_
  refine L1 (nilP rfl) ?_
  refine Lst90 rfl rfl ⟨rfl, rfl, rfl, rfl⟩ hF (by decide) ?_
  intro w1 hF kp1
  have hH := hH.kp kp1 (by simp; exact fun e => hFH e.symm)
  have kp := kp.trans (kp1.mono (by simp))
  clear kp1
  refine wpList_nil ?_
  refine then_n ?_
  refine wp_seq ?_
  refine wp_seq ?_
  -- region 1
  refine reg_lit ?_
  refine L1 (mv (v := .pointer _) rfl) ?_
  refine L1 (nilP rfl) ?_
  refine L1 (fd90_0 rfl) ?_
  refine L1 (ld22 rfl (hF.cellv (v := .slice _ _ _) (by decide) rfl)) ?_
  refine L1 (cp und22 rfl) ?_
  refine L1 (mv (v := .int _ _) rfl) ?_
  refine L1 (bi rfl rfl (bn_lss (v := false) (decide_eq_false (by omega)))) ?_
  refine wpList_nil ?_
  refine then_n ?_
  refine cond_f rfl ?_
  refine wp_skip ?_
  refine then_n ?_
  refine wp_seq ?_
  -- region 3
  refine reg_lit ?_
  refine L1 (mv (v := .pointer _) rfl) ?_
  refine L1 (mv (v := .pointer _) rfl) ?_
  refine L1 (nilP rfl) ?_
  refine L1 (fd90_0 rfl) ?_
  refine L1 (ld22 rfl (hF.cellv (v := .slice _ _ _) (by decide) rfl)) ?_
  refine L1 (mv (v := .int _ _) rfl) ?_
  refine L1 (sl_h und22 sz5 rfl rfl (h := 32768) rfl (by omega)) ?_
  refine L1 (nilP rfl) ?_
  refine L1 (fd90_0 rfl) ?_
  refine Lst22 (v := .slice _ _ _) rfl rfl rfl hF (by decide) ?_
  intro w1 hF kp1
  have hH := hH.kp kp1 (by simp; exact fun e => hFH e.symm)
  have kp := kp.trans (kp1.mono (by simp))
  clear kp1
  refine wpList_nil ?_
  refine then_n ?_
  refine wp_seq ?_
  refine wp_seq ?_
  -- region 4
  refine reg_lit ?_
  refine L1 (mv (v := .slice _ _ _) rfl) ?_
  refine L1 (ln und22 rfl) ?_
  refine L1 (mv (v := .pointer _) rfl) ?_
  refine L1 (nilP rfl) ?_
  refine L1 (fd90_0 rfl) ?_
  refine L1 (ld22 rfl (hF.cellv (v := .slice _ _ _) (by decide) rfl)) ?_
  refine L1 (ln und22 rfl) ?_
  refine L1 (bi rfl rfl (bn_gtr (v := false) (decide_eq_false (by omega)))) ?_
  refine wpList_nil ?_
  refine then_n ?_
  refine cond_f rfl ?_
  refine wp_skip ?_
  refine then_n ?_
  refine wp_seq ?_
  -- region 6
  refine reg_lit ?_
  refine L1 (mv (v := .pointer _) rfl) ?_
  refine L1 (mv (v := .pointer _) rfl) ?_
  refine L1 (nilP rfl) ?_
  refine L1 (fd90_0 rfl) ?_
  refine L1 (ld22 rfl (hF.cellv (v := .slice _ _ _) (by decide) rfl)) ?_
  refine L1 (mv (v := .slice _ _ _) rfl) ?_
  refine L1 (run_cp0 rfl rfl (by simp)) ?_
  refine L1 (nilP rfl) ?_
  refine L1 (fd90_1 rfl) ?_
  refine Lst3 (v := .int _ _) rfl rfl rfl hF (by decide) ?_
  intro w1 hF kp1
  have hH := hH.kp kp1 (by simp; exact fun e => hFH e.symm)
  have kp := kp.trans (kp1.mono (by simp))
  clear kp1
  refine wpList_nil ?_
  refine then_n ?_
  refine wp_seq ?_
  refine wp_seq ?_
  -- region 7 (its order is open)
  refine reg_still mixed (by kernel_rfl) ?_
  have hF := hF.drew
  have hH := hH.drew
  have kp := kp.drew
  refine S1 (mv (v := .pointer _) rfl) ?_
  refine S1 (nilP rfl) ?_
  refine S1 (fd90_1 rfl) ?_
  refine S1 (ld3 rfl (hF.cellv (v := .int _ _) (by decide) rfl)) ?_
  refine S1 (mv (v := .pointer _) rfl) ?_
  refine S1 (nilP rfl) ?_
  refine S1 (fd90_0 rfl) ?_
  refine S1 (ld22 rfl (hF.cellv (v := .slice _ _ _) (by decide) rfl)) ?_
  refine S1 (ln und22 rfl) ?_
  refine S1 (bi rfl rfl (bn_eql (v := false) (decide_eq_false (by omega)))) ?_
  refine still_nil ?_
  refine then_n ?_
  refine cond_f rfl ?_
  refine wp_skip ?_
  refine then_n ?_
  -- region 10
  refine reg_lit ?_
  refine L1 (mv (v := .pointer _) rfl) ?_
  refine L1 (mv (v := .pointer _) rfl) ?_
  refine L1 (nilP rfl) ?_
  refine L1 (fd90_1 rfl) ?_
  refine L1 (ld3 rfl (hF.cellv (v := .int _ _) (by decide) rfl)) ?_
  refine L1 (nilP rfl) ?_
  refine L1 (fd90_2 rfl) ?_
  refine Lst3 (v := .int _ _) rfl rfl rfl hF (by decide) ?_
  intro w1 hF kp1
  have hH := hH.kp kp1 (by simp; exact fun e => hFH e.symm)
  have kp := kp.trans (kp1.mono (by simp))
  clear kp1
  refine wpList_nil ?_
  refine end0 rfl ?_
  refine ⟨_, rfl, rfl, ?_, kp⟩
  refine ⟨_, _, hF, hH, by repeat (first | exact Off.refl _ _ | refine Off.upd ?_ (by decide) _), rfl, rfl, rfl, rfl, hb0, fun j hj => by simp at hj⟩
theorem init_r_small (w : World) (F : Nat) (g : Nat → Value) (hF : Bk w F 1054 95 g) (H : Nat) (hs0 : Nat → Value) (hFH : F ≠ H) (hH : Bk w H 32768 5 hs0) (hb0 : ∀ k, k < 32768 → ∃ c : Nat, c < 256 ∧ hs0 k = .int .u8 c) (h37 : g 1037 = .slice (some ⟨H, 0, none⟩) 32768 32768) (xs : List Nat) (Db dc dn : Nat) (dg : Nat → Value) (hD : Bk w Db dn 5 dg) (hDF : Db ≠ F) (hDH : Db ≠ H) (hdn : xs.length ≤ dn) (hdc : xs.length ≤ dc) (hx : ∀ x ∈ xs, x < 256) (hdg : ∀ k, k < xs.length → dg k = .int .u8 (xs.getD k 0)) (h47 : xs.length ≤ 140737488355328) (hlen : xs.length < 32768) :
    Ret 36 [.pointer (some ⟨F, 1037, none⟩), .int .i64 32768, .slice (some ⟨Db, 0, none⟩) xs.length dc] w fun v w' => v = .tuple #[] ∧ InitP F H w' g xs ∧ Kp [F, H] w w' := by
  have kp := Kp.refl [F, H] w
  have hFlt := hF.lt
  have hDlt := hD.lt
  refine calls_fr (N := 84) Tryd.func36 rfl rfl (by simp) rfl ?_
  refine wp_seq ?_
  -- region 0
  refine reg_lit ?_
  refine L1 (mv (v := .pointer _) rfl) ?_
  refine L1 (mv (v := .pointer _) rfl) ?_
  refine L1 (nilP rfl) ?_
  refine L1 (fd90_0 rfl) ?_
  refine L1 (ld22 rfl (hF.cellv (by decide) h37)) ?_
  refine L1 (bd90 rfl) ?_
  refine L1 (nilP rfl) ?_
  refine Lst90 rfl rfl ⟨rfl, rfl, rfl, rfl⟩ hF (by decide) ?_
  intro w1 hF kp1
  have hH := hH.kp kp1 (by simp; exact fun e => hFH e.symm)
  have hD := hD.kp kp1 (by simp; exact hDF)
  have kp := kp.trans (kp1.mono (by simp))
  clear kp1
  refine wpList_nil ?_
  refine then_n ?_
  refine wp_seq ?_
  refine wp_seq ?_
  -- region 1
  refine reg_lit ?_
  refine L1 (mv (v := .pointer _) rfl) ?_
  refine L1 (nilP rfl) ?_
  refine L1 (fd90_0 rfl) ?_
  refine L1 (ld22 rfl (hF.cellv (v := .slice _ _ _) (by decide) rfl)) ?_
  refine L1 (cp und22 rfl) ?_
  refine L1 (mv (v := .int _ _) rfl) ?_
  refine L1 (bi rfl rfl (bn_lss (v := false) (decide_eq_false (by omega)))) ?_
  refine wpList_nil ?_
  refine then_n ?_
  refine cond_f rfl ?_
  refine wp_skip ?_
  refine then_n ?_
  refine wp_seq ?_
  -- region 3
  refine reg_lit ?_
  refine L1 (mv (v := .pointer _) rfl) ?_
  refine L1 (mv (v := .pointer _) rfl) ?_
  refine L1 (nilP rfl) ?_
  refine L1 (fd90_0 rfl) ?_
  refine L1 (ld22 rfl (hF.cellv (v := .slice _ _ _) (by decide) rfl)) ?_
  refine L1 (mv (v := .int _ _) rfl) ?_
  refine L1 (sl_h und22 sz5 rfl rfl (h := 32768) rfl (by omega)) ?_
  refine L1 (nilP rfl) ?_
  refine L1 (fd90_0 rfl) ?_
  refine Lst22 (v := .slice _ _ _) rfl rfl rfl hF (by decide) ?_
  intro w1 hF kp1
  have hH := hH.kp kp1 (by simp; exact fun e => hFH e.symm)
  have hD := hD.kp kp1 (by simp; exact hDF)
  have kp := kp.trans (kp1.mono (by simp))
  clear kp1
  refine wpList_nil ?_
  refine then_n ?_
  refine wp_seq ?_
  refine wp_seq ?_
  -- region 4
  refine reg_lit ?_
  refine L1 (mv (v := .slice _ _ _) rfl) ?_
  refine L1 (ln und22 rfl) ?_
  refine L1 (mv (v := .pointer _) rfl) ?_
  refine L1 (nilP rfl) ?_
  refine L1 (fd90_0 rfl) ?_
  refine L1 (ld22 rfl (hF.cellv (v := .slice _ _ _) (by decide) rfl)) ?_
  refine L1 (ln und22 rfl) ?_
  refine L1 (bi rfl rfl (bn_gtr (v := false) (decide_eq_false (by omega)))) ?_
  refine wpList_nil ?_
  refine then_n ?_
  refine cond_f rfl ?_
  refine wp_skip ?_
  refine then_n ?_
  refine wp_seq ?_
  -- region 6
  refine reg_lit ?_
  refine L1 (mv (v := .pointer _) rfl) ?_
  refine L1 (mv (v := .pointer _) rfl) ?_
  refine L1 (nilP rfl) ?_
  refine L1 (fd90_0 rfl) ?_
  refine L1 (ld22 rfl (hF.cellv (v := .slice _ _ _) (by decide) rfl)) ?_
  refine L1 (mv (v := .slice _ _ _) rfl) ?_
  refine Lcp rfl rfl hH hD (by omega) (by omega) (fun j hj => by rw [hdg _ (by omega)]; rfl) ?_
  rw [show min xs.length 32768 = xs.length by omega]
  intro w1 hH kp1
  have hF := hF.kp kp1 (by simp; exact hFH)
  have hD := hD.kp kp1 (by simp; exact hDH)
  have kp := kp.trans (kp1.mono (by simp))
  clear kp1
  refine L1 (nilP rfl) ?_
  refine L1 (fd90_1 rfl) ?_
  refine Lst3 (v := .int _ _) rfl rfl rfl hF (by decide) ?_
  intro w1 hF kp1
  have hH := hH.kp kp1 (by simp; exact fun e => hFH e.symm)
  have hD := hD.kp kp1 (by simp; exact hDF)
  have kp := kp.trans (kp1.mono (by simp))
  clear kp1
  refine wpList_nil ?_
  refine then_n ?_
  refine wp_seq ?_
  refine wp_seq ?_
  -- region 7 (its order is open)
  refine reg_still mixed (by kernel_rfl) ?_
  have hF := hF.drew
  have hH := hH.drew
  have kp := kp.drew
  have hD := hD.drew
  refine S1 (mv (v := .pointer _) rfl) ?_
  refine S1 (nilP rfl) ?_
  refine S1 (fd90_1 rfl) ?_
  refine S1 (ld3 rfl (hF.cellv (v := .int _ _) (by decide) rfl)) ?_
  refine S1 (mv (v := .pointer _) rfl) ?_
  refine S1 (nilP rfl) ?_
  refine S1 (fd90_0 rfl) ?_
  refine S1 (ld22 rfl (hF.cellv (v := .slice _ _ _) (by decide) rfl)) ?_
  refine S1 (ln und22 rfl) ?_
  refine S1 (bi rfl rfl (bn_eql (v := false) (decide_eq_false (by omega)))) ?_
  refine still_nil ?_
  refine then_n ?_
  refine cond_f rfl ?_
  refine wp_skip ?_
  refine then_n ?_
  -- region 10
  refine reg_lit ?_
  refine L1 (mv (v := .pointer _) rfl) ?_
  refine L1 (mv (v := .pointer _) rfl) ?_
  refine L1 (nilP rfl) ?_
  refine L1 (fd90_1 rfl) ?_
  refine L1 (ld3 rfl (hF.cellv (v := .int _ _) (by decide) rfl)) ?_
  refine L1 (nilP rfl) ?_
  refine L1 (fd90_2 rfl) ?_
  refine Lst3 (v := .int _ _) rfl rfl rfl hF (by decide) ?_
  intro w1 hF kp1
  have hH := hH.kp kp1 (by simp; exact fun e => hFH e.symm)
  have hD := hD.kp kp1 (by simp; exact hDF)
  have kp := kp.trans (kp1.mono (by simp))
  clear kp1
  refine wpList_nil ?_
  refine end0 rfl ?_
  refine ⟨_, rfl, rfl, ?_, kp⟩
  refine initP_mk (hs := hs0) (dg := dg) (o := 0) (n := xs.length) (by omega) (by omega) hF hH (by repeat (first | exact Off.refl _ _ | refine Off.upd ?_ (by decide) _)) rfl ?_ ?_ ?_ hb0 hx hdg
  · rw [Nat.mod_eq_of_lt (by omega)]; rfl
  · rw [Nat.mod_eq_of_lt (by omega)]; rfl
  · show Value.bool false = _
    rw [decide_eq_false (by omega)]
theorem init_r_exact (w : World) (F : Nat) (g : Nat → Value) (hF : Bk w F 1054 95 g) (H : Nat) (hs0 : Nat → Value) (hFH : F ≠ H) (hH : Bk w H 32768 5 hs0) (hb0 : ∀ k, k < 32768 → ∃ c : Nat, c < 256 ∧ hs0 k = .int .u8 c) (h37 : g 1037 = .slice (some ⟨H, 0, none⟩) 32768 32768) (xs : List Nat) (Db dc dn : Nat) (dg : Nat → Value) (hD : Bk w Db dn 5 dg) (hDF : Db ≠ F) (hDH : Db ≠ H) (hdn : xs.length ≤ dn) (hdc : xs.length ≤ dc) (hx : ∀ x ∈ xs, x < 256) (hdg : ∀ k, k < xs.length → dg k = .int .u8 (xs.getD k 0)) (h47 : xs.length ≤ 140737488355328) (hlen : xs.length = 32768) :
    Ret 36 [.pointer (some ⟨F, 1037, none⟩), .int .i64 32768, .slice (some ⟨Db, 0, none⟩) xs.length dc] w fun v w' => v = .tuple #[] ∧ InitP F H w' g xs ∧ Kp [F, H] w w' := by
  have kp := Kp.refl [F, H] w
  have hFlt := hF.lt
  have hDlt := hD.lt
  refine calls_fr (N := 84) Tryd.func36 rfl rfl (by simp) rfl ?_
  refine wp_seq ?_
  -- region 0
  refine reg_lit ?_
  refine L1 (mv (v := .pointer _) rfl) ?_
  refine L1 (mv (v := .pointer _) rfl) ?_
  refine L1 (nilP rfl) ?_
  refine L1 (fd90_0 rfl) ?_
  refine L1 (ld22 rfl (hF.cellv (by decide) h37)) ?_
  refine L1 (bd90 rfl) ?_
  refine L1 (nilP rfl) ?_
  refine Lst90 rfl rfl ⟨rfl, rfl, rfl, rfl⟩ hF (by decide) ?_
  intro w1 hF kp1
  have hH := hH.kp kp1 (by simp; exact fun e => hFH e.symm)
  have hD := hD.kp kp1 (by simp; exact hDF)
  have kp := kp.trans (kp1.mono (by simp))
  clear kp1
  refine wpList_nil ?_
  refine then_n ?_
  refine wp_seq ?_
  refine wp_seq ?_
  -- region 1
  refine reg_lit ?_
  refine L1 (mv (v := .pointer _) rfl) ?_
  refine L1 (nilP rfl) ?_
  refine L1 (fd90_0 rfl) ?_
  refine L1 (ld22 rfl (hF.cellv (v := .slice _ _ _) (by decide) rfl)) ?_
  refine L1 (cp und22 rfl) ?_
  refine L1 (mv (v := .int _ _) rfl) ?_
  refine L1 (bi rfl rfl (bn_lss (v := false) (decide_eq_false (by omega)))) ?_
  refine wpList_nil ?_
  refine then_n ?_
  refine cond_f rfl ?_
  refine wp_skip ?_
  refine then_n ?_
  refine wp_seq ?_
  -- region 3
  refine reg_lit ?_
  refine L1 (mv (v := .pointer _) rfl) ?_
  refine L1 (mv (v := .pointer _) rfl) ?_
  refine L1 (nilP rfl) ?_
  refine L1 (fd90_0 rfl) ?_
  refine L1 (ld22 rfl (hF.cellv (v := .slice _ _ _) (by decide) rfl)) ?_
  refine L1 (mv (v := .int _ _) rfl) ?_
  refine L1 (sl_h und22 sz5 rfl rfl (h := 32768) rfl (by omega)) ?_
  refine L1 (nilP rfl) ?_
  refine L1 (fd90_0 rfl) ?_
  refine Lst22 (v := .slice _ _ _) rfl rfl rfl hF (by decide) ?_
  intro w1 hF kp1
  have hH := hH.kp kp1 (by simp; exact fun e => hFH e.symm)
  have hD := hD.kp kp1 (by simp; exact hDF)
  have kp := kp.trans (kp1.mono (by simp))
  clear kp1
  refine wpList_nil ?_
  refine then_n ?_
  refine wp_seq ?_
  refine wp_seq ?_
  -- region 4
  refine reg_lit ?_
  refine L1 (mv (v := .slice _ _ _) rfl) ?_
  refine L1 (ln und22 rfl) ?_
  refine L1 (mv (v := .pointer _) rfl) ?_
  refine L1 (nilP rfl) ?_
  refine L1 (fd90_0 rfl) ?_
  refine L1 (ld22 rfl (hF.cellv (v := .slice _ _ _) (by decide) rfl)) ?_
  refine L1 (ln und22 rfl) ?_
  refine L1 (bi rfl rfl (bn_gtr (v := false) (decide_eq_false (by omega)))) ?_
  refine wpList_nil ?_
  refine then_n ?_
  refine cond_f rfl ?_
  refine wp_skip ?_
  refine then_n ?_
  refine wp_seq ?_
  -- region 6
  refine reg_lit ?_
  refine L1 (mv (v := .pointer _) rfl) ?_
  refine L1 (mv (v := .pointer _) rfl) ?_
  refine L1 (nilP rfl) ?_
  refine L1 (fd90_0 rfl) ?_
  refine L1 (ld22 rfl (hF.cellv (v := .slice _ _ _) (by decide) rfl)) ?_
  refine L1 (mv (v := .slice _ _ _) rfl) ?_
  refine Lcp rfl rfl hH hD (by omega) (by omega) (fun j hj => by rw [hdg _ (by omega)]; rfl) ?_
  rw [show min xs.length 32768 = 32768 by omega]
  intro w1 hH kp1
  have hF := hF.kp kp1 (by simp; exact hFH)
  have hD := hD.kp kp1 (by simp; exact hDH)
  have kp := kp.trans (kp1.mono (by simp))
  clear kp1
  refine L1 (nilP rfl) ?_
  refine L1 (fd90_1 rfl) ?_
  refine Lst3 (v := .int _ _) rfl rfl rfl hF (by decide) ?_
  intro w1 hF kp1
  have hH := hH.kp kp1 (by simp; exact fun e => hFH e.symm)
  have hD := hD.kp kp1 (by simp; exact hDF)
  have kp := kp.trans (kp1.mono (by simp))
  clear kp1
  refine wpList_nil ?_
  refine then_n ?_
  refine wp_seq ?_
  refine wp_seq ?_
  -- region 7 (its order is open)
  refine reg_still mixed (by kernel_rfl) ?_
  have hF := hF.drew
  have hH := hH.drew
  have kp := kp.drew
  have hD := hD.drew
  refine S1 (mv (v := .pointer _) rfl) ?_
  refine S1 (nilP rfl) ?_
  refine S1 (fd90_1 rfl) ?_
  refine S1 (ld3 rfl (hF.cellv (v := .int _ _) (by decide) rfl)) ?_
  refine S1 (mv (v := .pointer _) rfl) ?_
  refine S1 (nilP rfl) ?_
  refine S1 (fd90_0 rfl) ?_
  refine S1 (ld22 rfl (hF.cellv (v := .slice _ _ _) (by decide) rfl)) ?_
  refine S1 (ln und22 rfl) ?_
  refine S1 (bi rfl rfl (bn_eql (v := true) (decide_eq_true (by omega)))) ?_
  refine still_nil ?_
  refine then_n ?_
  refine cond_t rfl ?_
  refine wp_seq ?_
  -- region 8
  refine reg_lit ?_
  refine L1 (mv (v := .pointer _) rfl) ?_
  refine L1 (nilP rfl) ?_
  refine L1 (fd90_1 rfl) ?_
  refine Lst3 (v := .int _ _) rfl rfl rfl hF (by decide) ?_
  intro w1 hF kp1
  have hH := hH.kp kp1 (by simp; exact fun e => hFH e.symm)
  have hD := hD.kp kp1 (by simp; exact hDF)
  have kp := kp.trans (kp1.mono (by simp))
  clear kp1
  refine wpList_nil ?_
  refine then_n ?_
  -- region 9
  refine reg_lit ?_
  refine L1 (mv (v := .pointer _) rfl) ?_
  refine L1 (nilP rfl) ?_
  refine L1 (fd90_3 rfl) ?_
  refine Lst4 (v := .bool _) rfl rfl rfl hF (by decide) ?_
  intro w1 hF kp1
  have hH := hH.kp kp1 (by simp; exact fun e => hFH e.symm)
  have hD := hD.kp kp1 (by simp; exact hDF)
  have kp := kp.trans (kp1.mono (by simp))
  clear kp1
  refine wpList_nil ?_
  refine then_n ?_
  -- region 10
  refine reg_lit ?_
  refine L1 (mv (v := .pointer _) rfl) ?_
  refine L1 (mv (v := .pointer _) rfl) ?_
  refine L1 (nilP rfl) ?_
  refine L1 (fd90_1 rfl) ?_
  refine L1 (ld3 rfl (hF.cellv (v := .int _ _) (by decide) rfl)) ?_
  refine L1 (nilP rfl) ?_
  refine L1 (fd90_2 rfl) ?_
  refine Lst3 (v := .int _ _) rfl rfl rfl hF (by decide) ?_
  intro w1 hF kp1
  have hH := hH.kp kp1 (by simp; exact fun e => hFH e.symm)
  have hD := hD.kp kp1 (by simp; exact hDF)
  have kp := kp.trans (kp1.mono (by simp))
  clear kp1
  refine wpList_nil ?_
  refine end0 rfl ?_
  refine ⟨_, rfl, rfl, ?_, kp⟩
  refine initP_mk (hs := hs0) (dg := dg) (o := 0) (n := 32768) (by omega) (by omega) hF hH (by repeat (first | exact Off.refl _ _ | refine Off.upd ?_ (by decide) _)) rfl ?_ ?_ ?_ hb0 hx hdg
  · rfl
  · rfl
  · show Value.bool true = _
    rw [decide_eq_true (by omega)]
theorem init_r_great (w : World) (F : Nat) (g : Nat → Value) (hF : Bk w F 1054 95 g) (H : Nat) (hs0 : Nat → Value) (hFH : F ≠ H) (hH : Bk w H 32768 5 hs0) (hb0 : ∀ k, k < 32768 → ∃ c : Nat, c < 256 ∧ hs0 k = .int .u8 c) (h37 : g 1037 = .slice (some ⟨H, 0, none⟩) 32768 32768) (xs : List Nat) (Db dc dn : Nat) (dg : Nat → Value) (hD : Bk w Db dn 5 dg) (hDF : Db ≠ F) (hDH : Db ≠ H) (hdn : xs.length ≤ dn) (hdc : xs.length ≤ dc) (hx : ∀ x ∈ xs, x < 256) (hdg : ∀ k, k < xs.length → dg k = .int .u8 (xs.getD k 0)) (h47 : xs.length ≤ 140737488355328) (hlen : 32768 < xs.length) :
    Ret 36 [.pointer (some ⟨F, 1037, none⟩), .int .i64 32768, .slice (some ⟨Db, 0, none⟩) xs.length dc] w fun v w' => v = .tuple #[] ∧ InitP F H w' g xs ∧ Kp [F, H] w w' := by
  have kp := Kp.refl [F, H] w
  have hFlt := hF.lt
  have hDlt := hD.lt
  obtain ⟨oo, hoo⟩ : ∃ oo, xs.length = oo + 32768 := ⟨xs.length - 32768, by omega⟩
  have hlc : oo < dc := by omega
  have hle : oo ≤ xs.length := by omega
  refine calls_fr (N := 84) Tryd.func36 rfl rfl (by simp) rfl ?_
  refine wp_seq ?_
  -- region 0
  refine reg_lit ?_
  refine L1 (mv (v := .pointer _) rfl) ?_
  refine L1 (mv (v := .pointer _) rfl) ?_
  refine L1 (nilP rfl) ?_
  refine L1 (fd90_0 rfl) ?_
  refine L1 (ld22 rfl (hF.cellv (by decide) h37)) ?_
  refine L1 (bd90 rfl) ?_
  refine L1 (nilP rfl) ?_
  refine Lst90 rfl rfl ⟨rfl, rfl, rfl, rfl⟩ hF (by decide) ?_
  intro w1 hF kp1
  have hH := hH.kp kp1 (by simp; exact fun e => hFH e.symm)
  have hD := hD.kp kp1 (by simp; exact hDF)
  have kp := kp.trans (kp1.mono (by simp))
  clear kp1
  refine wpList_nil ?_
  refine then_n ?_
  refine wp_seq ?_
  refine wp_seq ?_
  -- region 1
  refine reg_lit ?_
  refine L1 (mv (v := .pointer _) rfl) ?_
  refine L1 (nilP rfl) ?_
  refine L1 (fd90_0 rfl) ?_
  refine L1 (ld22 rfl (hF.cellv (v := .slice _ _ _) (by decide) rfl)) ?_
  refine L1 (cp und22 rfl) ?_
  refine L1 (mv (v := .int _ _) rfl) ?_
  refine L1 (bi rfl rfl (bn_lss (v := false) (decide_eq_false (by omega)))) ?_
  refine wpList_nil ?_
  refine then_n ?_
  refine cond_f rfl ?_
  refine wp_skip ?_
  refine then_n ?_
  refine wp_seq ?_
  -- region 3
  refine reg_lit ?_
  refine L1 (mv (v := .pointer _) rfl) ?_
  refine L1 (mv (v := .pointer _) rfl) ?_
  refine L1 (nilP rfl) ?_
  refine L1 (fd90_0 rfl) ?_
  refine L1 (ld22 rfl (hF.cellv (v := .slice _ _ _) (by decide) rfl)) ?_
  refine L1 (mv (v := .int _ _) rfl) ?_
  refine L1 (sl_h und22 sz5 rfl rfl (h := 32768) rfl (by omega)) ?_
  refine L1 (nilP rfl) ?_
  refine L1 (fd90_0 rfl) ?_
  refine Lst22 (v := .slice _ _ _) rfl rfl rfl hF (by decide) ?_
  intro w1 hF kp1
  have hH := hH.kp kp1 (by simp; exact fun e => hFH e.symm)
  have hD := hD.kp kp1 (by simp; exact hDF)
  have kp := kp.trans (kp1.mono (by simp))
  clear kp1
  refine wpList_nil ?_
  refine then_n ?_
  refine wp_seq ?_
  refine wp_seq ?_
  -- region 4
  refine reg_lit ?_
  refine L1 (mv (v := .slice _ _ _) rfl) ?_
  refine L1 (ln und22 rfl) ?_
  refine L1 (mv (v := .pointer _) rfl) ?_
  refine L1 (nilP rfl) ?_
  refine L1 (fd90_0 rfl) ?_
  refine L1 (ld22 rfl (hF.cellv (v := .slice _ _ _) (by decide) rfl)) ?_
  refine L1 (ln und22 rfl) ?_
  refine L1 (bi rfl rfl (bn_gtr (v := true) (decide_eq_true (by omega)))) ?_
  refine wpList_nil ?_
  refine then_n ?_
  refine cond_t rfl ?_
  -- region 5
  refine reg_lit ?_
  refine L1 (mv (v := .slice _ _ _) rfl) ?_
  refine L1 (mv (v := .slice _ _ _) rfl) ?_
  refine L1 (ln und22 rfl) ?_
  refine L1 (mv (v := .pointer _) rfl) ?_
  refine L1 (nilP rfl) ?_
  refine L1 (fd90_0 rfl) ?_
  refine L1 (ld22 rfl (hF.cellv (v := .slice _ _ _) (by decide) rfl)) ?_
  refine L1 (ln und22 rfl) ?_
  refine L1 (bi rfl rfl (bn_sub (c := ((oo : Nat) : Int)) (by omega) (by omega) (by omega))) ?_
  refine L1 (slb_l und22 sz5 rfl rfl (l := oo) rfl hle hlc) ?_
  refine L1 (asg (v := .slice _ _ _) rfl) ?_
  refine wpList_nil ?_
  refine then_n ?_
  refine wp_seq ?_
  -- region 6
  refine reg_lit ?_
  refine L1 (mv (v := .pointer _) rfl) ?_
  refine L1 (mv (v := .pointer _) rfl) ?_
  refine L1 (nilP rfl) ?_
  refine L1 (fd90_0 rfl) ?_
  refine L1 (ld22 rfl (hF.cellv (v := .slice _ _ _) (by decide) rfl)) ?_
  refine L1 (mv (v := .slice _ _ _) rfl) ?_
  refine Lcp rfl rfl hH hD (by omega) (by omega) (fun j hj => by rw [hdg _ (by omega)]; rfl) ?_
  rw [show min (xs.length - oo) 32768 = 32768 by omega]
  intro w1 hH kp1
  have hF := hF.kp kp1 (by simp; exact hFH)
  have hD := hD.kp kp1 (by simp; exact hDH)
  have kp := kp.trans (kp1.mono (by simp))
  clear kp1
  refine L1 (nilP rfl) ?_
  refine L1 (fd90_1 rfl) ?_
  refine Lst3 (v := .int _ _) rfl rfl rfl hF (by decide) ?_
  intro w1 hF kp1
  have hH := hH.kp kp1 (by simp; exact fun e => hFH e.symm)
  have hD := hD.kp kp1 (by simp; exact hDF)
  have kp := kp.trans (kp1.mono (by simp))
  clear kp1
  refine wpList_nil ?_
  refine then_n ?_
  refine wp_seq ?_
  refine wp_seq ?_
  -- region 7 (its order is open)
  refine reg_still mixed (by kernel_rfl) ?_
  have hF := hF.drew
  have hH := hH.drew
  have kp := kp.drew
  have hD := hD.drew
  refine S1 (mv (v := .pointer _) rfl) ?_
  refine S1 (nilP rfl) ?_
  refine S1 (fd90_1 rfl) ?_
  refine S1 (ld3 rfl (hF.cellv (v := .int _ _) (by decide) rfl)) ?_
  refine S1 (mv (v := .pointer _) rfl) ?_
  refine S1 (nilP rfl) ?_
  refine S1 (fd90_0 rfl) ?_
  refine S1 (ld22 rfl (hF.cellv (v := .slice _ _ _) (by decide) rfl)) ?_
  refine S1 (ln und22 rfl) ?_
  refine S1 (bi rfl rfl (bn_eql (v := true) (decide_eq_true (by omega)))) ?_
  refine still_nil ?_
  refine then_n ?_
  refine cond_t rfl ?_
  refine wp_seq ?_
  -- region 8
  refine reg_lit ?_
  refine L1 (mv (v := .pointer _) rfl) ?_
  refine L1 (nilP rfl) ?_
  refine L1 (fd90_1 rfl) ?_
  refine Lst3 (v := .int _ _) rfl rfl rfl hF (by decide) ?_
  intro w1 hF kp1
  have hH := hH.kp kp1 (by simp; exact fun e => hFH e.symm)
  have hD := hD.kp kp1 (by simp; exact hDF)
  have kp := kp.trans (kp1.mono (by simp))
  clear kp1
  refine wpList_nil ?_
  refine then_n ?_
  -- region 9
  refine reg_lit ?_
  refine L1 (mv (v := .pointer _) rfl) ?_
  refine L1 (nilP rfl) ?_
  refine L1 (fd90_3 rfl) ?_
  refine Lst4 (v := .bool _) rfl rfl rfl hF (by decide) ?_
  intro w1 hF kp1
  have hH := hH.kp kp1 (by simp; exact fun e => hFH e.symm)
  have hD := hD.kp kp1 (by simp; exact hDF)
  have kp := kp.trans (kp1.mono (by simp))
  clear kp1
  refine wpList_nil ?_
  refine then_n ?_
  -- region 10
  refine reg_lit ?_
  refine L1 (mv (v := .pointer _) rfl) ?_
  refine L1 (mv (v := .pointer _) rfl) ?_
  refine L1 (nilP rfl) ?_
  refine L1 (fd90_1 rfl) ?_
  refine L1 (ld3 rfl (hF.cellv (v := .int _ _) (by decide) rfl)) ?_
  refine L1 (nilP rfl) ?_
  refine L1 (fd90_2 rfl) ?_
  refine Lst3 (v := .int _ _) rfl rfl rfl hF (by decide) ?_
  intro w1 hF kp1
  have hH := hH.kp kp1 (by simp; exact fun e => hFH e.symm)
  have hD := hD.kp kp1 (by simp; exact hDF)
  have kp := kp.trans (kp1.mono (by simp))
  clear kp1
  refine wpList_nil ?_
  refine end0 rfl ?_
  refine ⟨_, rfl, rfl, ?_, kp⟩
  refine initP_mk (hs := hs0) (dg := dg) (o := oo) (n := 32768) (by omega) (by omega) hF (by simpa using hH) (by repeat (first | exact Off.refl _ _ | refine Off.upd ?_ (by decide) _)) rfl ?_ ?_ ?_ hb0 hx hdg
  · rfl
  · rfl
  · show Value.bool true = _
    rw [decide_eq_true (by omega)]
end Go.Proofs.YtejeloeaklpinaaDoor
