/- A block of the fourth kind is refused. -/
import Derived.Test.YtejeloeaklpinaaDoorClose2
namespace Go.Proofs.YtejeloeaklpinaaDoor
open Go.ChangeShapes Go.WideShapes Go.ChangeAt Go.RowKit
section
variable {ρ : Operand → Value} {d : Option Nat} {x y z : Operand} {ty : TypeId} {pos : String} {af : Array Edge} {gd : Option (Nat × Bool)} {w : World}
theorem bs1 {h : Int} (hx : ρ x = .int .u8 h) : (execOp ρ ⟨d, .buildSlice 22 1 #[(0, x)], ty, pos, af, gd⟩).run Tryd.prog w = .ok (.value (.slice (some ⟨w.heap.size, 0, none⟩) 1 1)) (w.alloc (.cells #[.int .u8 h] 5)) := by
  simp only [execOp, List.map_toArray, List.map_cons, List.map_nil, hx]
  kernel_rfl
end
theorem sl1 (w : World) (h : Nat) : Sl (w.alloc (.cells #[.int .u8 (h : Int)] 5)) (.slice (some ⟨w.heap.size, 0, none⟩) 1 1) [h] := by
  refine .inr ⟨w.heap.size, 1, fun _ => .int .u8 h, rfl, Bk.newOf w _ 5 1 _ rfl, Nat.le_refl _, by decide, fun k hk => ?_⟩
  have : k = 0 := by simp at hk; omega
  subst this
  rfl
theorem Ag.nil (w : World) : Ag w (.slice none 0 0) [] := ⟨none, 0, rfl, fun j hj => by simp at hj⟩
theorem Bytes.nil : Bytes [] := ⟨by simp, by simp⟩
/-- The first bits of a stream. -/
theorem bv_head (h : Nat) (more : List Nat) (hb : ∀ x ∈ h :: more, x < 256) (n : Nat) (hn : n ≤ 8) : bv (srcOf (h :: more)).D 0 n = h % 2 ^ n := by
  have h0 : bv (srcOf (h :: more)).D (8 * 0) 8 = h := by
    have e := dnum_byte (fun k => (h :: more).getD k 0) (fun k => getD_lt hb k) (h :: more).length 0 (by simp)
    rw [pow256] at e
    exact e
  have := bv_mod (srcOf (h :: more)).D 0 8 n hn
  rw [← this]
  rw [Nat.mul_zero] at h0
  rw [h0]
def kindB (h : Nat) (more : List Nat) : A := ((A0 []).headed (srcOf (h :: more))).bad
theorem kind_mic (h : Nat) (more : List Nat) (hb : ∀ x ∈ h :: more, x < 256) (hh : h % 8 / 2 = 3) : mic (srcOf (h :: more)) (A0 []) = (kindB h more, true) := by
  rw [mic_next rfl]
  unfold mNext
  have hbv := bv_head h more hb 3 (by decide)
  have hN : (srcOf (h :: more)).N = more.length + 1 := by simp [srcOf]
  have hp : (A0 []).p = 0 := rfl
  rw [hp, hN, if_neg (by omega), hbv]
  simp only
  rw [if_neg (by omega), if_neg (by omega), if_neg (by omega)]
  unfold kindB A.headed
  rw [hp, hbv]
theorem kind_runs {h : Nat} {more : List Nat} (hb : ∀ x ∈ h :: more, x < 256) (hh : h % 8 / 2 = 3) {b : A} (hr : Runs (srcOf (h :: more)) (A0 []) b) : b = kindB h more :=
  hr.det (.stop (kind_mic h more hb hh))
theorem lastW_nil : lastW [] = [] := by unfold lastW; rfl
theorem kind_law {h : Nat} {more : List Nat} (hb : ∀ x ∈ h :: more, x < 256) (hh : h % 8 / 2 = 3) {r : List Nat} {c left : Nat} (hI : InfR (h :: more) [] [] r c left) : c = 1 ∧ r = [] := by
  obtain ⟨a, hd, _⟩ := hI
  have ho : (kindB h more).out = [] := lastW_nil
  have hl : (kindB h more).late = (kindB h more).flush := by unfold A.late; rw [if_pos ⟨by show (3 : Nat) ≠ 0; decide, rfl⟩]
  have hrd : Reads (srcOf (h :: more)) (szAt [] 0) (A0 []) 0 3 (kindB h more).flush := by
    refine .step rfl rfl (.stop (kind_mic h more hb hh)) ?_
    rw [hl]
    refine .done ?_ (by show (3 : Nat) ≠ 0; decide)
    show (lastW []).length = (kindB h more).out.length
    rw [ho, lastW_nil]
  have key : ∀ k er a', Reads (srcOf (h :: more)) (szAt [] 0) (A0 []) k er a' → k = 0 ∧ er = 3 := fun k er a' hx => by
    obtain ⟨h1, h2, _⟩ := hx.det hrd
    exact ⟨h1, h2⟩
  cases hd with
  | stop h0 => omega
  | over _ hx h3 => obtain ⟨rfl, rfl⟩ := key _ _ _ hx; simp at h3
  | fin _ hx h3 h4 => obtain ⟨rfl, rfl⟩ := key _ _ _ hx; exact ⟨rfl, by simp⟩
  | next _ hx h3 h4 => have := (key _ _ _ hx).2; omega
theorem kind_hc {h : Nat} {more : List Nat} (hb : ∀ x ∈ h :: more, x < 256) (hh : h % 8 / 2 = 3) : HCof (h :: more) [] := by
  intro a hfar hn
  have key : ∀ b c, Far (srcOf (h :: more)) b c → b = A0 [] ∨ b.err ≠ 0 → c = A0 [] ∨ c.err ≠ 0 := by
    intro b c hf
    induction hf with
    | refl => exact id
    | step h1 h2 h3 _ ih =>
      rintro (rfl | h0)
      · refine ih (.inr ?_)
        rw [kind_runs hb hh h3]
        unfold A.late
        split
        · exact (by decide : (3 : Nat) ≠ 0)
        · exact (by decide : (3 : Nat) ≠ 0)
      · exact absurd h2 h0
    | take k h1 _ ih =>
      rintro (rfl | h0)
      · have hk : k = 0 := by
          have e : (A0 []).e = (A0 []).fl := rfl
          omega
        subst hk
        exact ih (.inl rfl)
      · exact ih (.inr h0)
  rcases key _ _ hfar (.inl rfl) with rfl | h0
  · exfalso
    have h2 := hn.2.2
    have hbv := bv_head h more hb 3 (by decide)
    have hp : (A0 []).p = 0 := rfl
    rw [hp, hbv] at h2
    omega
  · exact absurd hn.1 h0
attribute [local irreducible] wpList wpStill wpMix Code.wp Calls fr

theorem fnKind_w (E0 : Env) (w : World) (hG : Gl E0 w) (uv : Value) (more : List Nat) (last : Bool) (hA : Ag w uv more) (hB : ∀ x ∈ more, x < 256) (hL : more.length + 1 ≤ 140737488355328) :
    Ret 6 [uv, .bool last] w fun v w' => v = .bool true ∧ Kp [] w w' := by
  have hd : ∀ h, h < 256 → Bytes (h :: more) := fun h hh => ⟨by simpa using ⟨hh, hB⟩, by simpa using hL⟩
  refine calls_fr (N := 26) Tryd.func6 rfl rfl (by simp) rfl ?_
  refine wp_seq ?_
  -- region 0
  refine reg_lit ?_
  refine L1 (asg (v := .bool _) rfl) ?_
  refine wpList_nil ?_
  refine then_n ?_
  refine wp_seq ?_
  -- region 1
  refine reg_lit ?_
  refine L1 (asg (v := .int _ _) rfl) ?_
  refine wpList_nil ?_
  refine then_n ?_
  refine wp_seq ?_
  refine wp_seq ?_
  -- region 2
  refine reg_lit ?_
  refine L1 (mv (v := .bool _) rfl) ?_
  refine wpList_nil ?_
  refine then_n ?_
  cases last
  · skip
    refine cond_f rfl ?_
    obtain ⟨hh, hhe, h256, hmod⟩ : ∃ hh : Nat, hh = 6 ∧ hh < 256 ∧ hh % 8 / 2 = 3 := ⟨_, rfl, by decide, by decide⟩
    refine wp_skip ?_
    refine then_n ?_
    refine wp_seq ?_
    -- region 4
    refine reg_lit ?_
    refine L1 (mv (v := .int .u8 (hh : Int)) (by rw [hhe]; rfl)) ?_
    refine L1 (bs1 rfl) ?_
    have kp1 := (Kp.refl [] w).alloc (.cells #[.int .u8 (hh : Int)] 5)
    have hs1 := sl1 w hh
    refine L1 (mv (v := uv) rfl) ?_
    refine Lapg (v := .slice _ 1 1) rfl rfl hs1 (hA.kp kp1) (by simp; omega) ?_
    intro v2 w2 hSl kp2 hown2
    have kp := kp1.transNew kp2 (by simp [obk, Value.ownBlock])
    simp only [List.singleton_append] at hSl
    refine LC (cl3 has9 rfl rfl rfl rfl) (inflate_c E0 _ (hG.kp kp (by simp)) v2 (.slice none 0 0) (hh :: more) [] hSl.ag (hd hh h256) (Ag.nil _) Bytes.nil none 0 [] (by simp) (by simp) (kind_hc (hd hh h256).1 hmod)) ?_
    rintro v w3 ⟨r, c, left, ov, rfl, hSl3, hI, kp3, hown3⟩
    obtain ⟨rfl, rfl⟩ := kind_law (hd hh h256).1 hmod hI
    obtain ⟨oa, oc, rfl⟩ := hSl3.val
    have kp := kp.trans kp3
    refine L1 (mv (v := .tuple _) rfl) ?_
    refine L1 (ext3_0 rfl) ?_
    refine L1 (ext3_1 rfl) ?_
    refine L1 (ext3_2 rfl) ?_
    refine L1 (asg (v := .slice _ _ _) rfl) ?_
    refine L1 (asg (v := .int _ _) rfl) ?_
    refine L1 (asg (v := .int _ _) rfl) ?_
    refine wpList_nil ?_
    refine then_n ?_
    refine wp_seq ?_
    -- region 5
    refine reg_lit ?_
    refine L1 (mv (v := .int _ _) rfl) ?_
    refine L1 (bi rfl rfl (bn_eql (v := true) (decide_eq_true rfl))) ?_
    refine L1 (mv (v := .bool _) rfl) ?_
    refine L1g (t := 21) (b := true) rfl (by decide) rfl (mv (v := .slice _ _ _) rfl) ?_
    refine L1g (t := 21) (b := true) rfl (by decide) rfl (ln und22 rfl) ?_
    refine L1g (t := 21) (b := true) rfl (by decide) rfl (bi rfl rfl (bn_eql (v := true) (decide_eq_true rfl))) ?_
    refine L1 (pk_t rfl rfl) ?_
    refine L1 (asg (v := .bool _) rfl) ?_
    refine wpList_nil ?_
    refine then_n ?_
    refine wp_ret ?_
    refine ret1 rfl rfl ?_
    exact ⟨_, rfl, rfl, kp⟩
  · skip
    refine cond_t rfl ?_
    obtain ⟨hh, hhe, h256, hmod⟩ : ∃ hh : Nat, hh = 7 ∧ hh < 256 ∧ hh % 8 / 2 = 3 := ⟨_, rfl, by decide, by decide⟩
    -- region 3
    refine reg_lit ?_
    refine L1 (asg (v := .int _ _) rfl) ?_
    refine wpList_nil ?_
    refine then_n ?_
    refine wp_seq ?_
    -- region 4
    refine reg_lit ?_
    refine L1 (mv (v := .int .u8 (hh : Int)) (by rw [hhe]; rfl)) ?_
    refine L1 (bs1 rfl) ?_
    have kp1 := (Kp.refl [] w).alloc (.cells #[.int .u8 (hh : Int)] 5)
    have hs1 := sl1 w hh
    refine L1 (mv (v := uv) rfl) ?_
    refine Lapg (v := .slice _ 1 1) rfl rfl hs1 (hA.kp kp1) (by simp; omega) ?_
    intro v2 w2 hSl kp2 hown2
    have kp := kp1.transNew kp2 (by simp [obk, Value.ownBlock])
    simp only [List.singleton_append] at hSl
    refine LC (cl3 has9 rfl rfl rfl rfl) (inflate_c E0 _ (hG.kp kp (by simp)) v2 (.slice none 0 0) (hh :: more) [] hSl.ag (hd hh h256) (Ag.nil _) Bytes.nil none 0 [] (by simp) (by simp) (kind_hc (hd hh h256).1 hmod)) ?_
    rintro v w3 ⟨r, c, left, ov, rfl, hSl3, hI, kp3, hown3⟩
    obtain ⟨rfl, rfl⟩ := kind_law (hd hh h256).1 hmod hI
    obtain ⟨oa, oc, rfl⟩ := hSl3.val
    have kp := kp.trans kp3
    refine L1 (mv (v := .tuple _) rfl) ?_
    refine L1 (ext3_0 rfl) ?_
    refine L1 (ext3_1 rfl) ?_
    refine L1 (ext3_2 rfl) ?_
    refine L1 (asg (v := .slice _ _ _) rfl) ?_
    refine L1 (asg (v := .int _ _) rfl) ?_
    refine L1 (asg (v := .int _ _) rfl) ?_
    refine wpList_nil ?_
    refine then_n ?_
    refine wp_seq ?_
    -- region 5
    refine reg_lit ?_
    refine L1 (mv (v := .int _ _) rfl) ?_
    refine L1 (bi rfl rfl (bn_eql (v := true) (decide_eq_true rfl))) ?_
    refine L1 (mv (v := .bool _) rfl) ?_
    refine L1g (t := 21) (b := true) rfl (by decide) rfl (mv (v := .slice _ _ _) rfl) ?_
    refine L1g (t := 21) (b := true) rfl (by decide) rfl (ln und22 rfl) ?_
    refine L1g (t := 21) (b := true) rfl (by decide) rfl (bi rfl rfl (bn_eql (v := true) (decide_eq_true rfl))) ?_
    refine L1 (pk_t rfl rfl) ?_
    refine L1 (asg (v := .bool _) rfl) ?_
    refine wpList_nil ?_
    refine then_n ?_
    refine wp_ret ?_
    refine ret1 rfl rfl ?_
    exact ⟨_, rfl, rfl, kp⟩
end Go.Proofs.YtejeloeaklpinaaDoor
