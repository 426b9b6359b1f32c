/- FnStored: its walk (printed by gen/g_st.py). -/
import Derived.Test.YtejeloeaklpinaaDoorStLaw
import Derived.Laws.BytesString
namespace Go.Proofs.YtejeloeaklpinaaDoor
open Go.ChangeShapes Go.WideShapes Go.ChangeAt Go.RowKit
/-- Bytes as a string. -/
def bstr (xs : List Nat) : ByteArray := (xs.map fun c : Nat => (c : Int)).foldl (fun r n => r.push (UInt8.ofNat n.toNat)) ByteArray.empty
theorem und9 : Tryd.prog.underlying 9 = some .string := by kernel_rfl
theorem wrap_u8m (n : Nat) : IntKind.u8.wrap ((n : Nat) : Int) = ((n % 256 : Nat) : Int) := by
  show (n : Int) % 256 = _
  omega
section
variable {ρ : Operand → Value} {d : Option Nat} {x y z u v : Operand} {ty : TypeId} {pos : String} {af : Array Edge} {gd : Option (Nat × Bool)} {w : World}
theorem ixg {t e : TypeId} {ad : Addr} {n c j : Nat} {k : IntKind} {i : Int} (ht : Tryd.prog.underlying t = some (.slice e)) (he : ∀ w, (sizeOf e).run Tryd.prog w = .ok 1 w) (hx : ρ x = .slice (some ad) n c) (hy : ρ y = .int k i) (hi : i = (j : Int)) (hj : j < n) :
    (execOp ρ ⟨d, .indexAddr t x y, ty, pos, af, gd⟩).run Tryd.prog w = .ok (.value (.pointer (some (ad.add j)))) w := by
  subst hi
  have h0 : (0 : Int) ≤ (j : Int) ∧ (j : Int) < (n : Int) := by omega
  simp [execOp, hx, hy, Instr.indexAt, asIntOf, run_underlying ht, h0, he]
  intro h; omega
theorem bs0 : (execOp ρ ⟨d, .buildSlice 22 0 #[], ty, pos, af, gd⟩).run Tryd.prog w = .ok (.value (.slice (some ⟨w.heap.size, 0, none⟩) 0 0)) (w.alloc (.cells #[] 5)) := by
  simp only [execOp, List.map_toArray, List.map_nil]
  kernel_rfl
theorem bs5 {h0 h1 h2 h3 h4 : Int} (hx : ρ x = .int .u8 h0) (hy : ρ y = .int .u8 h1) (hz : ρ z = .int .u8 h2) (hu : ρ u = .int .u8 h3) (hv : ρ v = .int .u8 h4) : (execOp ρ ⟨d, .buildSlice 22 5 #[(0, x), (1, y), (2, z), (3, u), (4, v)], ty, pos, af, gd⟩).run Tryd.prog w = .ok (.value (.slice (some ⟨w.heap.size, 0, none⟩) 5 5)) (w.alloc (.cells #[.int .u8 h0, .int .u8 h1, .int .u8 h2, .int .u8 h3, .int .u8 h4] 5)) := by
  simp only [execOp, List.map_toArray, List.map_cons, List.map_nil, hx, hy, hz, hu, hv]
  kernel_rfl
theorem un_xor8 {t : TypeId} {n : Nat} (hx : ρ x = .int .u8 (n : Int)) (hn : n < 256) : (execOp ρ ⟨d, .unOp .xor t x, ty, pos, af, gd⟩).run Tryd.prog w = .ok (.value (.int .u8 ((255 - n : Nat) : Int))) w := by
  have e : (BitVec.ofInt 8 (-1) ^^^ BitVec.ofInt 8 (n : Int)).toNat = 255 - n := by
    have h1 : BitVec.ofInt 8 (-1) = BitVec.allOnes 8 := by decide
    have h2 : (BitVec.ofInt 8 (n : Int)).toNat = n := by rw [BitVec.toNat_ofInt]; omega
    rw [h1, BitVec.allOnes_xor, BitVec.toNat_not, h2]
  have hr : Op.unary .xor (.int .u8 (n : Int)) = pure (.int .u8 ((255 - n : Nat) : Int)) := by
    show Op.intBits .xor .u8 (-1) (n : Int) = _
    show pure (Value.int .u8 (IntKind.u8.wrap ((BitVec.ofInt 8 (-1) ^^^ BitVec.ofInt 8 (n : Int)).toNat : Int))) = _
    rw [e, wrap_u8n _ (by omega) (by omega)]
  simp only [execOp, hx, hr]
  rfl
theorem cvs {v0 : Value} {xs : List Nat} (hx : ρ x = v0) (hA : Ag w v0 xs) : (execOp ρ ⟨d, .convert 22 9 x, ty, pos, af, gd⟩).run Tryd.prog w = .ok (.value (.string (bstr xs))) w := by
  obtain ⟨a, c, rfl, h⟩ := hA
  have hr : (convert 22 9 (.slice a xs.length c)).run Tryd.prog w = .ok (.string (bstr xs)) w := by
    rw [run_convert_bytes_string w 22 9 5 a xs.length c und22 Tryd.underlying5 und9]
    cases a with
    | none =>
      have h0 : xs = [] := by
        cases xs with
        | nil => rfl
        | cons y ys => obtain ⟨ad, h1, _⟩ := h 0 (by simp); cases h1
      subst h0
      simp [Conv.bytesToString, bstr]
    | some ad =>
      refine run_bytesToString w ad xs.length c (xs.map fun c : Nat => (c : Int)) ?_
      have h1 := run_loadCells_list (P := Tryd.prog) (w := w) ad (xs.map fun c : Nat => Value.int .u8 (c : Int)) (fun j v hv => by
        have hj : j < xs.length := by have := (List.getElem?_eq_some_iff.1 hv).1; simpa using this
        obtain ⟨ad', he, h2⟩ := h j hj
        cases he
        rw [map_get xs j hj] at hv
        cases hv
        exact h2)
      rw [List.length_map] at h1
      rw [h1, List.map_map]
      rfl
  simp [execOp, hx, hr]
theorem bis {a b : ByteArray} {v : Bool} (hx : ρ x = .string a) (hy : ρ y = .string b) (h : a = b) : (execOp ρ ⟨d, .binOp .eql 9 x y 9, ty, pos, af, gd⟩).run Tryd.prog w = .ok (.value (.bool true)) w := by
  subst h
  have he : eqGuard .eql 9 x y (.string a) (.string a) = pure () := rfl
  simp only [execOp, hx, hy, he]
  simp [binOp, Op.stringOp]
theorem bib {a b : Bool} (hx : ρ x = .bool a) (hy : ρ y = .bool b) (h : a = b) : (execOp ρ ⟨d, .binOp .eql 4 x y 4, ty, pos, af, gd⟩).run Tryd.prog w = .ok (.value (.bool true)) w := by
  subst h
  have he : eqGuard .eql 4 x y (.bool a) (.bool a) = pure () := rfl
  simp only [execOp, hx, hy, he]
  have hr : (binOp .eql 4 (.bool a) (.bool a)).run Tryd.prog w = .ok (.bool true) w := by cases a <;> kernel_rfl
  simp [hr]
end
theorem sl0 (w : World) : Sl (w.alloc (.cells #[] 5)) (.slice (some ⟨w.heap.size, 0, none⟩) 0 0) [] :=
  .inr ⟨w.heap.size, 0, fun _ => .int .u8 0, rfl, Bk.newOf w _ 5 0 _ rfl, Nat.le_refl _, by decide, fun k hk => by simp at hk⟩
theorem sl5 (w : World) (h0 h1 h2 h3 h4 : Nat) : Sl (w.alloc (.cells #[.int .u8 (h0 : Int), .int .u8 (h1 : Int), .int .u8 (h2 : Int), .int .u8 (h3 : Int), .int .u8 (h4 : Int)] 5)) (.slice (some ⟨w.heap.size, 0, none⟩) 5 5) [h0, h1, h2, h3, h4] := by
  refine .inr ⟨w.heap.size, 5, fun k => .int .u8 (([h0, h1, h2, h3, h4].getD k 0 : Nat) : Int), rfl, Bk.newOf w _ 5 5 _ rfl, Nat.le_refl _, by decide, fun k hk => rfl⟩
/-- The pieces that came in. -/
def AgP (w : World) (pa : Option Addr) (ps : List (List Nat)) : Prop := ∀ j, j < ps.length → ∃ ad u, pa = some ad ∧ w.cell? (ad.add j) = some u ∧ Ag w u (ps.getD j [])
theorem obk_ge {v : Value} {n : Nat} (h : ∀ k, v.ownBlock = some k → n ≤ k) : ∀ i, i ∈ obk v → i < n → i ∈ ([] : List Nat) := by
  intro i hi hlt
  unfold obk at hi
  split at hi
  · rename_i b hb; simp at hi; have := h b hb; omega
  · simp at hi
theorem obk_ne {v u : Value} (h : ∀ k, v.ownBlock = some k → u.ownBlock ≠ some k) : ∀ b, u.ownBlock = some b → b ∉ obk v := by
  intro b hb hm
  unfold obk at hm
  split at hm
  · rename_i c hc; simp at hm; subst hm; exact h _ hc hb
  · simp at hm
attribute [local irreducible] wpList wpStill wpMix Code.wp Calls fr

theorem st_small {ps : List (List Nat)} (h : (whUp ps ps.length).length ≤ 60000) (k : Nat) : (ps.getD k []).length < 65536 := by
  by_cases hk : k < ps.length
  · have := wh_len hk; omega
  · rw [List.getD_eq_getElem?_getD, List.getElem?_eq_none (by omega)]; decide
theorem fnStored_w (E0 : Env) (w : World) (hG : Gl E0 w) (pa : Option Addr) (pc : Nat) (ps : List (List Nat)) (bad : Nat) (hP : AgP w pa ps) (hb : ∀ k, ∀ x ∈ ps.getD k [], x < 256) (hl : ∀ k, (ps.getD k []).length ≤ 140737488355328) (hbad : bad < 65536) :
    Ret 7 [.slice pa ps.length pc, .int .u16 (bad : Int)] w fun v w' => v = .bool true ∧ Kp [] w w' := by
  have kp := Kp.refl [] w
  refine calls_fr (N := 108) Tryd.func7 rfl rfl (by simp) rfl ?_
  refine wp_seq ?_
  -- region 0
  refine reg_lit ?_
  refine L1 (asg (v := .bool _) rfl) ?_
  refine wpList_nil ?_
  refine then_n ?_
  refine wp_seq ?_
  refine wp_seq ?_
  -- region 1
  refine reg_lit ?_
  refine L1 (mv (v := .slice _ _ _) rfl) ?_
  refine L1 (ln und36 rfl) ?_
  refine L1 (bi rfl rfl (bn_gtr (v := decide (2000 < ps.length)) (decide_eq_decide.2 (by omega)))) ?_
  refine wpList_nil ?_
  refine then_n ?_
  refine cond_d (p := 2000 < ps.length) rfl (fun hn => ?_) (fun hn => ?_)
  · -- yes
    refine wp_seq ?_
    -- region 2
    refine reg_lit ?_
    refine L1 (asg (v := .bool _) rfl) ?_
    refine wpList_nil ?_
    refine then_n ?_
    refine wp_ret ?_
    refine then_r ?_
    refine ret1 rfl rfl ?_
    exact ⟨_, rfl, rfl, kp⟩
  · -- no
    refine wp_skip ?_
    refine then_n ?_
    refine wp_seq ?_
    -- region 3
    refine reg_lit ?_
    refine L1 bs0 ?_
    have kp := kp.alloc (.cells #[] 5)
    refine L1 (asg (v := .slice _ _ _) rfl) ?_
    refine wpList_nil ?_
    refine then_n ?_
    refine wp_seq ?_
    -- region 4
    refine reg_lit ?_
    refine L1 bs0 ?_
    have kp := kp.alloc (.cells #[] 5)
    refine L1 (asg (v := .slice _ _ _) rfl) ?_
    refine wpList_nil ?_
    refine then_n ?_
    refine wp_seq ?_
    refine wp_seq ?_
    -- region 5
    refine reg_lit ?_
    refine L1 (mv (v := .slice _ _ _) rfl) ?_
    refine L1 (ln und36 rfl) ?_
    refine L1 (mv (v := .int _ _) rfl) ?_
    refine wpList_nil ?_
    refine then_n ?_
    refine wp_block ?_
    refine loop_fr (fun k f w' => f 0 = .slice pa ps.length pc ∧ f 1 = .int .u16 (bad : Int) ∧ f 21 = .slice pa ps.length pc ∧ f 22 = .int .i64 (ps.length : Int) ∧ ∃ (i : Nat) (sa : Option Addr) (sc : Nat) (wa : Option Addr) (wc : Nat), f 23 = .int .i64 (i : Int) ∧ f 5 = .slice sa (stUp ps i).length sc ∧ f 6 = .slice wa (whUp ps i).length wc ∧ i ≤ ps.length ∧ k = ps.length - i ∧ Sl w' (.slice sa (stUp ps i).length sc) (stUp ps i) ∧ Sl w' (.slice wa (whUp ps i).length wc) (whUp ps i) ∧ (whUp ps i).length ≤ 60000 ∧ (∀ x, (Value.slice sa (stUp ps i).length sc).ownBlock = some x → w.heap.size ≤ x ∧ (Value.slice wa (whUp ps i).length wc).ownBlock ≠ some x) ∧ (∀ x, (Value.slice wa (whUp ps i).length wc).ownBlock = some x → w.heap.size ≤ x) ∧ Kp [] w w') ps.length ⟨rfl, rfl, rfl, rfl, 0, some ⟨w.heap.size, 0, none⟩, 0, some ⟨(w.alloc (.cells #[] 5)).heap.size, 0, none⟩, 0, rfl, rfl, rfl, Nat.zero_le _, rfl, (sl0 w).kp ((Kp.refl [] _).alloc _) (by simp), sl0 _, by simp [whUp], ?_, ?_, kp⟩ ?_
    · intro x hx; simp only [Value.ownBlock, Option.some.injEq] at hx; subst hx; exact ⟨Nat.le_refl _, by simp [Value.ownBlock]⟩
    · intro x hx; simp only [Value.ownBlock, Option.some.injEq] at hx; subst hx; simp
    clear kp
    intro k f w1 HJ
    obtain ⟨s0, s1, s21, s22, i, sa, sc, wa, wc, s23, s5, s6, hi, rfl, hS, hW, hw6, hso, hwo, kp⟩ := HJ
    refine slots (fc s0 (fc s1 (fc s5 (fc s6 (fc s21 (fc s22 (fc s23 fnil))))))) ?_
    refine wp_seq ?_
    -- region 6
    refine reg_lit ?_
    refine L1 (bi rfl rfl (bn_lss (v := decide (i < ps.length)) (decide_eq_decide.2 (by omega)))) ?_
    refine wpList_nil ?_
    refine then_n ?_
    refine wp_seq ?_
    refine cond_d (p := i < ps.length) rfl (fun hlt => ?_) (fun hlt => ?_)
    · skip
      obtain ⟨ad, u, rfl, hcell, hAi⟩ := hP i hlt
      obtain ⟨qa, qc, rfl, hq⟩ := id hAi
      have hl48 := hl i
      have hsl := stUp_len ps i
      refine wp_skip ?_
      refine then_n ?_
      refine wp_seq ?_
      refine wp_block ?_
      refine wp_seq ?_
      -- region 7
      refine reg_lit ?_
      refine L1 (mv (v := .int _ _) rfl) ?_
      refine L1 (ixg und36 sz22 rfl rfl rfl hlt) ?_
      refine L1 (ld22 (v := .slice qa (ps.getD i []).length qc) rfl (kp.cell hcell (by simp))) ?_
      refine L1 (asg (v := .int _ _) rfl) ?_
      refine L1 (asg (v := (.slice qa (ps.getD i []).length qc)) rfl) ?_
      refine wpList_nil ?_
      refine then_n ?_
      refine wp_seq ?_
      refine wp_seq ?_
      -- region 8
      refine reg_lit ?_
      refine L1 (mv (v := (.slice qa (ps.getD i []).length qc)) rfl) ?_
      refine L1 (ln und22 rfl) ?_
      refine L1 (mv (v := .slice _ _ _) rfl) ?_
      refine L1 (ln und22 rfl) ?_
      refine L1 (bi rfl rfl (bn_add rfl (by omega) (by omega))) ?_
      refine L1 (bi rfl rfl (bn_gtr (v := decide (60000 < (ps.getD i []).length + (whUp ps i).length)) (decide_eq_decide.2 (by omega)))) ?_
      refine wpList_nil ?_
      refine then_n ?_
      refine cond_d (p := 60000 < (ps.getD i []).length + (whUp ps i).length) rfl (fun h60 => ?_) (fun h60 => ?_)
      · -- yes
        refine wp_seq ?_
        -- region 9
        refine reg_lit ?_
        refine L1 (asg (v := .bool _) rfl) ?_
        refine wpList_nil ?_
        refine then_n ?_
        refine wp_ret ?_
        refine then_r ?_
        refine inb_r ?_
        refine then_r ?_
        refine then_r ?_
        refine inb_r ?_
        refine then_r ?_
        refine ret1 rfl rfl ?_
        exact ⟨_, rfl, rfl, kp⟩
      · -- no
        refine wp_skip ?_
        refine then_n ?_
        refine wp_seq ?_
        -- region 10
        refine reg_lit ?_
        refine L1 (asg (v := .int _ _) rfl) ?_
        refine wpList_nil ?_
        refine then_n ?_
        refine wp_seq ?_
        refine wp_seq ?_
        -- region 11
        refine reg_lit ?_
        refine L1 (mv (v := .int _ _) rfl) ?_
        refine L1 (mv (v := .slice _ _ _) rfl) ?_
        refine L1 (ln und36 rfl) ?_
        refine L1 (bi rfl rfl (bn_sub rfl (by omega) (by omega))) ?_
        refine L1 (bi rfl rfl (bn_eql (v := decide (i + 1 = ps.length)) (decide_eq_decide.2 (by omega)))) ?_
        refine wpList_nil ?_
        refine then_n ?_
        refine cond_d (p := i + 1 = ps.length) rfl (fun hla => ?_) (fun hla => ?_)
        · skip
          have hh : (if decide (i + 1 = ps.length) = true then 1 else 0 : Nat) = 1 := by simp [hla]
          have hla0 := hla
          clear hla
          -- region 12
          refine reg_lit ?_
          refine L1 (asg (v := .int _ _) rfl) ?_
          refine wpList_nil ?_
          refine then_n ?_
          refine wp_seq ?_
          -- region 13
          refine reg_lit ?_
          refine L1 (mv (v := .slice _ _ _) rfl) ?_
          refine L1 (mv (v := .int .u8 ((if decide (i + 1 = ps.length) = true then 1 else 0 : Nat) : Int)) (by rw [hh]; rfl)) ?_
          refine L1 (mv (v := (.slice qa (ps.getD i []).length qc)) rfl) ?_
          refine L1 (ln und22 rfl) ?_
          refine L1 (cv3_5 rfl (wrap_u8m _)) ?_
          refine L1 (mv (v := (.slice qa (ps.getD i []).length qc)) rfl) ?_
          refine L1 (ln und22 rfl) ?_
          refine L1 (bi rfl rfl (bn_shr (x := (ps.getD i []).length) (n := 8) rfl rfl (by decide))) ?_
          refine L1 (cv3_5 rfl (wrap_u8m _)) ?_
          refine L1 (mv (v := (.slice qa (ps.getD i []).length qc)) rfl) ?_
          refine L1 (ln und22 rfl) ?_
          refine L1 (cv3_5 rfl (wrap_u8m _)) ?_
          refine L1 (un_xor8 rfl (Nat.mod_lt _ (by decide))) ?_
          refine L1 (mv (v := (.slice qa (ps.getD i []).length qc)) rfl) ?_
          refine L1 (ln und22 rfl) ?_
          refine L1 (bi rfl rfl (bn_shr (x := (ps.getD i []).length) (n := 8) rfl rfl (by decide))) ?_
          refine L1 (cv3_5 rfl (wrap_u8m _)) ?_
          refine L1 (un_xor8 rfl (Nat.mod_lt _ (by decide))) ?_
          refine L1 (bs5 rfl rfl rfl rfl rfl) ?_
          have hb5 := sl5 w1 (if decide (i + 1 = ps.length) = true then 1 else 0) ((ps.getD i []).length % 256) ((ps.getD i []).length / 256 % 256) (255 - (ps.getD i []).length % 256) (255 - (ps.getD i []).length / 256 % 256)
          have hkp1 := kp
          have kp := kp.alloc (.cells #[.int .u8 ((if decide (i + 1 = ps.length) = true then 1 else 0 : Nat) : Int), .int .u8 (((ps.getD i []).length % 256 : Nat) : Int), .int .u8 (((ps.getD i []).length / 256 % 256 : Nat) : Int), .int .u8 ((255 - (ps.getD i []).length % 256 : Nat) : Int), .int .u8 ((255 - (ps.getD i []).length / 256 % 256 : Nat) : Int)] 5)
          have hS1 := hS.kp ((Kp.refl [] w1).alloc (.cells #[.int .u8 ((if decide (i + 1 = ps.length) = true then 1 else 0 : Nat) : Int), .int .u8 (((ps.getD i []).length % 256 : Nat) : Int), .int .u8 (((ps.getD i []).length / 256 % 256 : Nat) : Int), .int .u8 ((255 - (ps.getD i []).length % 256 : Nat) : Int), .int .u8 ((255 - (ps.getD i []).length / 256 % 256 : Nat) : Int)] 5)) (by simp)
          have hW1 := hW.kp ((Kp.refl [] w1).alloc (.cells #[.int .u8 ((if decide (i + 1 = ps.length) = true then 1 else 0 : Nat) : Int), .int .u8 (((ps.getD i []).length % 256 : Nat) : Int), .int .u8 (((ps.getD i []).length / 256 % 256 : Nat) : Int), .int .u8 ((255 - (ps.getD i []).length % 256 : Nat) : Int), .int .u8 ((255 - (ps.getD i []).length / 256 % 256 : Nat) : Int)] 5)) (by simp)
          refine Lapg (v := .slice _ _ _) rfl rfl hS1 hb5.ag (by simp; omega) ?_
          intro v2 w2 hS2 kp2 hown2
          have hkp2 := kp
          have kp := kp.transNew kp2 (obk_ge fun x hx => (hso x hx).1)
          have hW2 := hW1.kp kp2 (obk_ne fun x hx => (hso x hx).2)
          refine L1 (asg (v := v2) rfl) ?_
          refine wpList_nil ?_
          refine then_n ?_
          refine wp_seq ?_
          -- region 14
          refine reg_lit ?_
          refine L1 (mv (v := v2) rfl) ?_
          refine L1 (mv (v := (.slice qa (ps.getD i []).length qc)) rfl) ?_
          refine Lapg (v := v2) rfl rfl hS2 (hAi.kp kp) (by rw [List.length_append]; simp only [List.length_cons, List.length_nil]; omega) ?_
          intro v3 w3 hS3 kp3 hown3
          have hge2 : ∀ x, v2.ownBlock = some x → w.heap.size ≤ x ∧ (Value.slice wa (whUp ps i).length wc).ownBlock ≠ some x := by
            intro x hx
            rcases hown2 x hx with h | h
            · exact hso x h
            · simp at h; exact ⟨by have := hkp1.size; omega, fun h3 => by have h4 := hW.lt h3; omega⟩
          have kp := kp.transNew kp3 (obk_ge fun x hx => (hge2 x hx).1)
          have hW3 := hW2.kp kp3 (obk_ne fun x hx => (hge2 x hx).2)
          have hge3 : ∀ x, v3.ownBlock = some x → w.heap.size ≤ x ∧ (Value.slice wa (whUp ps i).length wc).ownBlock ≠ some x ∧ x < w3.heap.size := by
            intro x hx
            rcases hown3 x hx with h | h
            · exact ⟨(hge2 x h).1, (hge2 x h).2, hS3.lt hx⟩
            · have hz1 := hkp1.size
              have hz2 := kp2.size
              simp at hz2
              exact ⟨by omega, fun h3 => by have h4 := hW.lt h3; omega, hS3.lt hx⟩
          refine L1 (asg (v := v3) rfl) ?_
          refine wpList_nil ?_
          refine then_n ?_
          -- region 15
          refine reg_lit ?_
          refine L1 (mv (v := .slice _ _ _) rfl) ?_
          refine L1 (mv (v := (.slice qa (ps.getD i []).length qc)) rfl) ?_
          refine Lapg (v := .slice _ _ _) rfl rfl hW3 (hAi.kp kp) (by omega) ?_
          intro v4 w4 hW4 kp4 hown4
          have kp := kp.transNew kp4 (obk_ge fun x hx => hwo x hx)
          have hS4 := hS3.kp kp4 (obk_ne fun x hx h3 => (hge3 x h3).2.1 hx)
          have hstr : stUp ps i ++ [if decide (i + 1 = ps.length) = true then 1 else 0, (ps.getD i []).length % 256, (ps.getD i []).length / 256 % 256, 255 - (ps.getD i []).length % 256, 255 - (ps.getD i []).length / 256 % 256] ++ ps.getD i [] = stUp ps (i + 1) := by simp only [stUp, stBlk, stHead, List.append_assoc]
          rw [hstr] at hS4
          have hwh : whUp ps i ++ ps.getD i [] = whUp ps (i + 1) := rfl
          rw [hwh] at hW4
          obtain ⟨sa4, sc4, rfl⟩ := hS4.val
          obtain ⟨wa4, wc4, rfl⟩ := hW4.val
          refine L1 (asg (v := .slice _ _ _) rfl) ?_
          refine wpList_nil ?_
          refine inb_n ?_
          refine then_n ?_
          -- region 16
          refine reg_lit ?_
          refine L1 (bi rfl rfl (bn_add rfl (by omega) (by omega))) ?_
          refine L1 (mv (v := .int _ _) rfl) ?_
          refine wpList_nil ?_
          refine then_n ?_
          refine ⟨ps.length - (i + 1), _, by omega, rfl, rfl, rfl, rfl, rfl, i + 1, sa4, sc4, wa4, wc4, rfl, rfl, rfl, by omega, rfl, hS4, hW4, by rw [← hwh, List.length_append]; omega, ?_, ?_, kp⟩
          · intro x hx
            have hx3 := hge3 x hx
            refine ⟨hx3.1, fun h => ?_⟩
            rcases hown4 x h with h | h
            · exact hx3.2.1 h
            · omega
          · intro x hx
            rcases hown4 x hx with h | h
            · exact hwo x h
            · have hz1 := hkp1.size; have hz2 := kp2.size; have hz3 := kp3.size; simp at hz2; omega
        · skip
          have hh : (if decide (i + 1 = ps.length) = true then 1 else 0 : Nat) = 0 := by simp [hla]
          have hla0 := hla
          clear hla
          refine wp_skip ?_
          refine then_n ?_
          refine wp_seq ?_
          -- region 13
          refine reg_lit ?_
          refine L1 (mv (v := .slice _ _ _) rfl) ?_
          refine L1 (mv (v := .int .u8 ((if decide (i + 1 = ps.length) = true then 1 else 0 : Nat) : Int)) (by rw [hh]; rfl)) ?_
          refine L1 (mv (v := (.slice qa (ps.getD i []).length qc)) rfl) ?_
          refine L1 (ln und22 rfl) ?_
          refine L1 (cv3_5 rfl (wrap_u8m _)) ?_
          refine L1 (mv (v := (.slice qa (ps.getD i []).length qc)) rfl) ?_
          refine L1 (ln und22 rfl) ?_
          refine L1 (bi rfl rfl (bn_shr (x := (ps.getD i []).length) (n := 8) rfl rfl (by decide))) ?_
          refine L1 (cv3_5 rfl (wrap_u8m _)) ?_
          refine L1 (mv (v := (.slice qa (ps.getD i []).length qc)) rfl) ?_
          refine L1 (ln und22 rfl) ?_
          refine L1 (cv3_5 rfl (wrap_u8m _)) ?_
          refine L1 (un_xor8 rfl (Nat.mod_lt _ (by decide))) ?_
          refine L1 (mv (v := (.slice qa (ps.getD i []).length qc)) rfl) ?_
          refine L1 (ln und22 rfl) ?_
          refine L1 (bi rfl rfl (bn_shr (x := (ps.getD i []).length) (n := 8) rfl rfl (by decide))) ?_
          refine L1 (cv3_5 rfl (wrap_u8m _)) ?_
          refine L1 (un_xor8 rfl (Nat.mod_lt _ (by decide))) ?_
          refine L1 (bs5 rfl rfl rfl rfl rfl) ?_
          have hb5 := sl5 w1 (if decide (i + 1 = ps.length) = true then 1 else 0) ((ps.getD i []).length % 256) ((ps.getD i []).length / 256 % 256) (255 - (ps.getD i []).length % 256) (255 - (ps.getD i []).length / 256 % 256)
          have hkp1 := kp
          have kp := kp.alloc (.cells #[.int .u8 ((if decide (i + 1 = ps.length) = true then 1 else 0 : Nat) : Int), .int .u8 (((ps.getD i []).length % 256 : Nat) : Int), .int .u8 (((ps.getD i []).length / 256 % 256 : Nat) : Int), .int .u8 ((255 - (ps.getD i []).length % 256 : Nat) : Int), .int .u8 ((255 - (ps.getD i []).length / 256 % 256 : Nat) : Int)] 5)
          have hS1 := hS.kp ((Kp.refl [] w1).alloc (.cells #[.int .u8 ((if decide (i + 1 = ps.length) = true then 1 else 0 : Nat) : Int), .int .u8 (((ps.getD i []).length % 256 : Nat) : Int), .int .u8 (((ps.getD i []).length / 256 % 256 : Nat) : Int), .int .u8 ((255 - (ps.getD i []).length % 256 : Nat) : Int), .int .u8 ((255 - (ps.getD i []).length / 256 % 256 : Nat) : Int)] 5)) (by simp)
          have hW1 := hW.kp ((Kp.refl [] w1).alloc (.cells #[.int .u8 ((if decide (i + 1 = ps.length) = true then 1 else 0 : Nat) : Int), .int .u8 (((ps.getD i []).length % 256 : Nat) : Int), .int .u8 (((ps.getD i []).length / 256 % 256 : Nat) : Int), .int .u8 ((255 - (ps.getD i []).length % 256 : Nat) : Int), .int .u8 ((255 - (ps.getD i []).length / 256 % 256 : Nat) : Int)] 5)) (by simp)
          refine Lapg (v := .slice _ _ _) rfl rfl hS1 hb5.ag (by simp; omega) ?_
          intro v2 w2 hS2 kp2 hown2
          have hkp2 := kp
          have kp := kp.transNew kp2 (obk_ge fun x hx => (hso x hx).1)
          have hW2 := hW1.kp kp2 (obk_ne fun x hx => (hso x hx).2)
          refine L1 (asg (v := v2) rfl) ?_
          refine wpList_nil ?_
          refine then_n ?_
          refine wp_seq ?_
          -- region 14
          refine reg_lit ?_
          refine L1 (mv (v := v2) rfl) ?_
          refine L1 (mv (v := (.slice qa (ps.getD i []).length qc)) rfl) ?_
          refine Lapg (v := v2) rfl rfl hS2 (hAi.kp kp) (by rw [List.length_append]; simp only [List.length_cons, List.length_nil]; omega) ?_
          intro v3 w3 hS3 kp3 hown3
          have hge2 : ∀ x, v2.ownBlock = some x → w.heap.size ≤ x ∧ (Value.slice wa (whUp ps i).length wc).ownBlock ≠ some x := by
            intro x hx
            rcases hown2 x hx with h | h
            · exact hso x h
            · simp at h; exact ⟨by have := hkp1.size; omega, fun h3 => by have h4 := hW.lt h3; omega⟩
          have kp := kp.transNew kp3 (obk_ge fun x hx => (hge2 x hx).1)
          have hW3 := hW2.kp kp3 (obk_ne fun x hx => (hge2 x hx).2)
          have hge3 : ∀ x, v3.ownBlock = some x → w.heap.size ≤ x ∧ (Value.slice wa (whUp ps i).length wc).ownBlock ≠ some x ∧ x < w3.heap.size := by
            intro x hx
            rcases hown3 x hx with h | h
            · exact ⟨(hge2 x h).1, (hge2 x h).2, hS3.lt hx⟩
            · have hz1 := hkp1.size
              have hz2 := kp2.size
              simp at hz2
              exact ⟨by omega, fun h3 => by have h4 := hW.lt h3; omega, hS3.lt hx⟩
          refine L1 (asg (v := v3) rfl) ?_
          refine wpList_nil ?_
          refine then_n ?_
          -- region 15
          refine reg_lit ?_
          refine L1 (mv (v := .slice _ _ _) rfl) ?_
          refine L1 (mv (v := (.slice qa (ps.getD i []).length qc)) rfl) ?_
          refine Lapg (v := .slice _ _ _) rfl rfl hW3 (hAi.kp kp) (by omega) ?_
          intro v4 w4 hW4 kp4 hown4
          have kp := kp.transNew kp4 (obk_ge fun x hx => hwo x hx)
          have hS4 := hS3.kp kp4 (obk_ne fun x hx h3 => (hge3 x h3).2.1 hx)
          have hstr : stUp ps i ++ [if decide (i + 1 = ps.length) = true then 1 else 0, (ps.getD i []).length % 256, (ps.getD i []).length / 256 % 256, 255 - (ps.getD i []).length % 256, 255 - (ps.getD i []).length / 256 % 256] ++ ps.getD i [] = stUp ps (i + 1) := by simp only [stUp, stBlk, stHead, List.append_assoc]
          rw [hstr] at hS4
          have hwh : whUp ps i ++ ps.getD i [] = whUp ps (i + 1) := rfl
          rw [hwh] at hW4
          obtain ⟨sa4, sc4, rfl⟩ := hS4.val
          obtain ⟨wa4, wc4, rfl⟩ := hW4.val
          refine L1 (asg (v := .slice _ _ _) rfl) ?_
          refine wpList_nil ?_
          refine inb_n ?_
          refine then_n ?_
          -- region 16
          refine reg_lit ?_
          refine L1 (bi rfl rfl (bn_add rfl (by omega) (by omega))) ?_
          refine L1 (mv (v := .int _ _) rfl) ?_
          refine wpList_nil ?_
          refine then_n ?_
          refine ⟨ps.length - (i + 1), _, by omega, rfl, rfl, rfl, rfl, rfl, i + 1, sa4, sc4, wa4, wc4, rfl, rfl, rfl, by omega, rfl, hS4, hW4, by rw [← hwh, List.length_append]; omega, ?_, ?_, kp⟩
          · intro x hx
            have hx3 := hge3 x hx
            refine ⟨hx3.1, fun h => ?_⟩
            rcases hown4 x h with h | h
            · exact hx3.2.1 h
            · omega
          · intro x hx
            rcases hown4 x hx with h | h
            · exact hwo x h
            · have hz1 := hkp1.size; have hz2 := kp2.size; have hz3 := kp3.size; simp at hz2; omega
    · skip
      obtain rfl : i = ps.length := by omega
      have hsl := stUp_len ps ps.length
      refine wp_exit ?_
      refine then_e ?_
      refine then_e ?_
      refine inb_same ?_
      refine then_n ?_
      refine wp_seq ?_
      -- region 17
      refine reg_lit ?_
      refine L1 (mv (v := .slice _ _ _) rfl) ?_
      have hB : Bytes (stUp ps ps.length) := ⟨stUp_byte ps hb ps.length, by omega⟩
      have hhc : HCof (stUp ps ps.length) [] := by
        by_cases h0 : 0 < ps.length
        · exact st_hc hb (fun k => st_small (by omega) k) h0
        · obtain rfl : ps = [] := List.eq_nil_of_length_eq_zero (by omega)
          exact nil_hc
      refine LC (cl3 has9 rfl rfl rfl rfl) (inflate_c E0 _ (hG.kp kp (by simp)) _ (.slice none 0 0) (stUp ps ps.length) [] hS.ag hB (Ag.nil _) Bytes.nil none 0 [] (by simp) (by simp) hhc) ?_
      rintro v w3 ⟨r, c, left, ov, rfl, hSl3, hI, kp3, hown3⟩
      obtain ⟨oa, oc, rfl⟩ := hSl3.val
      have hW := hW.kp kp3 (by simp)
      have kp := kp.trans kp3
      refine L1 (mv (v := .tuple _) rfl) ?_
      refine L1 (ext3_0 rfl) ?_
      refine L1 (ext3_1 rfl) ?_
      refine L1 (ext3_2 rfl) ?_
      refine L1 (asg (v := .slice _ _ _) rfl) ?_
      refine L1 (asg (v := .int _ _) rfl) ?_
      refine L1 (asg (v := .int _ _) rfl) ?_
      refine wpList_nil ?_
      refine then_n ?_
      refine wp_seq ?_
      refine wp_seq ?_
      -- region 18
      refine reg_lit ?_
      refine L1 (mv (v := .slice _ _ _) rfl) ?_
      refine L1 (ln und36 rfl) ?_
      refine L1 (bi rfl rfl (bn_eql (v := decide (ps.length = 0)) (decide_eq_decide.2 (by omega)))) ?_
      refine wpList_nil ?_
      refine then_n ?_
      refine cond_d (p := ps.length = 0) rfl (fun h0 => ?_) (fun h0 => ?_)
      · skip
        obtain rfl : ps = [] := List.eq_nil_of_length_eq_zero h0
        obtain rfl := nil_law hI
        refine wp_seq ?_
        -- region 19
        refine reg_lit ?_
        refine L1 (mv (v := .int _ _) rfl) ?_
        refine L1 (bi rfl rfl (bn_eql (v := true) (decide_eq_true rfl))) ?_
        refine L1 (asg (v := .bool _) rfl) ?_
        refine wpList_nil ?_
        refine then_n ?_
        refine wp_ret ?_
        refine then_r ?_
        refine ret1 rfl rfl ?_
        exact ⟨_, rfl, rfl, kp⟩
      · skip
        obtain ⟨rfl, rfl, rfl⟩ := st_law hb (by omega) (fun k => st_small (by omega) k) (by omega) (by omega) hI
        refine wp_skip ?_
        refine then_n ?_
        refine wp_seq ?_
        -- region 20
        refine reg_lit ?_
        refine L1 (mv (v := .int _ _) rfl) ?_
        refine L1 (cv37_5 rfl (wrap_u8m _)) ?_
        refine L1 (mv (v := .int _ _) rfl) ?_
        refine L1 (bi rfl rfl (bn_shr (x := bad) (n := 8) rfl rfl (by decide))) ?_
        refine L1 (cv37_5 rfl (wrap_u8m _)) ?_
        refine L1 (bs5 rfl rfl rfl rfl rfl) ?_
        have hb5 := sl5 w3 1 0 0 (bad % 256) (bad / 256 % 256)
        have hkx := (Kp.refl [] w3).alloc (.cells #[.int .u8 1, .int .u8 0, .int .u8 0, .int .u8 ((bad % 256 : Nat) : Int), .int .u8 ((bad / 256 % 256 : Nat) : Int)] 5)
        have hSl4 := hSl3.kp hkx (by simp)
        have hW4 := hW.kp hkx (by simp)
        have kp := kp.trans hkx
        have hbs : [1, 0, 0, bad % 256, bad / 256 % 256] = badS bad := by unfold badS; rw [show bad / 256 % 256 = bad / 256 by omega]
        rw [hbs] at hb5
        have hB2 : Bytes (badS bad) := ⟨by intro x hx; simp only [badS, List.mem_cons, List.not_mem_nil, or_false] at hx; omega, by simp [badS]⟩
        have hhc2 : HCof (badS bad) [] := by
          by_cases h5 : bad = 65535
          · subst h5; rw [badS_eq]; exact st_hc (by intro k x hx; cases k <;> simp at hx) (by intro k; cases k <;> simp) (by simp)
          · exact bad_hc (by omega)
        refine LC (cl3 has9 rfl rfl rfl rfl) (inflate_c E0 _ (hG.kp kp (by simp)) _ (.slice none 0 0) (badS bad) [] hb5.ag hB2 (Ag.nil _) Bytes.nil none 0 [] (by simp) (by simp) hhc2) ?_
        rintro v w5 ⟨r2, c2, left2, ov2, rfl, hSl5, hI2, kp5, hown5⟩
        have hc2 : decide ((c2 : Int) = 1) = !decide ((bad : Int) = 65535) := by
          by_cases h5 : bad = 65535
          · subst h5; rw [badS_eq] at hI2; obtain ⟨rfl, _⟩ := st_law (by intro k x hx; cases k <;> simp at hx) (by simp [whUp]) (by intro k; cases k <;> simp) (by simp) (by simp) hI2; rfl
          · obtain rfl := bad_law (by omega) hI2; rw [decide_eq_false (show ¬ (bad : Int) = 65535 by omega)]; rfl
        obtain ⟨oa2, oc2, rfl⟩ := hSl5.val
        have hSl6 := hSl4.kp kp5 (by simp)
        have hW6 := hW4.kp kp5 (by simp)
        have kp := kp.trans kp5
        refine L1 (mv (v := .tuple _) rfl) ?_
        refine L1 (ext3_0 rfl) ?_
        refine L1 (ext3_1 rfl) ?_
        refine L1 (ext3_2 rfl) ?_
        refine L1 (asg (v := .slice _ _ _) rfl) ?_
        refine L1 (asg (v := .int _ _) rfl) ?_
        refine L1 (asg (v := .int _ _) rfl) ?_
        refine wpList_nil ?_
        refine then_n ?_
        refine wp_seq ?_
        -- region 21
        refine reg_lit ?_
        refine L1 (mv (v := .int _ _) rfl) ?_
        refine L1 (bi rfl rfl (bn_eql (v := true) (decide_eq_true rfl))) ?_
        refine L1 (mv (v := .bool _) rfl) ?_
        refine L1g (t := 90) (b := true) rfl (by decide) rfl (mv (v := .int _ _) rfl) ?_
        refine L1g (t := 90) (b := true) rfl (by decide) rfl (bi rfl rfl (bn_eql (v := true) (decide_eq_true rfl))) ?_
        refine L1 (pk_t rfl rfl) ?_
        refine L1 (mv (v := .bool _) rfl) ?_
        refine L1g (t := 94) (b := true) rfl (by decide) rfl (mv (v := .slice _ _ _) rfl) ?_
        refine L1g (t := 94) (b := true) rfl (by decide) rfl (cvs rfl hSl6.ag) ?_
        refine L1g (t := 94) (b := true) rfl (by decide) rfl (mv (v := .slice _ _ _) rfl) ?_
        refine L1g (t := 94) (b := true) rfl (by decide) rfl (cvs rfl hW6.ag) ?_
        refine L1g (t := 94) (b := true) rfl (by decide) rfl (bis (v := true) rfl rfl rfl) ?_
        refine L1 (pk_t rfl rfl) ?_
        refine L1 (mv (v := .bool _) rfl) ?_
        refine L1g (t := 101) (b := true) rfl (by decide) rfl (mv (v := .int _ _) rfl) ?_
        refine L1g (t := 101) (b := true) rfl (by decide) rfl (bi rfl rfl (bn_eql rfl)) ?_
        refine L1g (t := 101) (b := true) rfl (by decide) rfl (mv (v := .int _ _) rfl) ?_
        refine L1g (t := 101) (b := true) rfl (by decide) rfl (bi rfl rfl (bn_neq (v := !decide ((bad : Int) = 65535)) (by simp))) ?_
        refine L1g (t := 101) (b := true) rfl (by decide) rfl (bib rfl rfl hc2) ?_
        refine L1 (pk_t rfl rfl) ?_
        refine L1 (asg (v := .bool _) rfl) ?_
        refine wpList_nil ?_
        refine then_n ?_
        refine wp_ret ?_
        refine ret1 rfl rfl ?_
        exact ⟨_, rfl, rfl, kp⟩
end Go.Proofs.YtejeloeaklpinaaDoor
