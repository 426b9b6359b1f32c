/- Runs of more operations: copy between blocks, append to an own slice, picks, bits of integers, methods by an interface. -/
import Derived.Test.YtejeloeaklpinaaDoorWd
import Derived.Laws.IdiomCopy
import Derived.Laws.AppendOwn
namespace Go.Proofs.YtejeloeaklpinaaDoor
/-- Cells set one by one: the block told by a function. -/
theorem Bk.setCells {w : World} {b n : Nat} {t : TypeId} {g : Nat → Value} (h : Bk w b n t g) : ∀ (vs : List Value) (o : Nat),
    Bk (w.setCells b o vs) b n t (fun j => if o ≤ j ∧ j < o + vs.length then vs.getD (j - o) undef else g j)
  | [], o => by
    refine h.congr fun k _ => ?_
    rw [if_neg (by simp)]
  | v :: r, o => by
    refine (Bk.setCells (h.set o v) r (o + 1)).congr fun k _ => ?_
    by_cases h1 : k = o
    · subst h1
      rw [if_neg (by omega), upd_same, if_pos (by simp)]
      simp
    · rw [upd_ne _ _ _ _ h1]
      by_cases h2 : o + 1 ≤ k ∧ k < o + 1 + r.length
      · rw [if_pos h2, if_pos (by simp only [List.length_cons]; omega), show k - o = (k - (o + 1)) + 1 by omega]
        simp
      · rw [if_neg h2, if_neg (by simp only [List.length_cons]; omega)]
theorem Kp.setCells {L : List Nat} {w w' : World} {b : Nat} (hb : b ∈ L) : ∀ (vs : List Value) (o : Nat), Kp L w w' → Kp L w (w'.setCells b o vs)
  | [], _, h => h
  | v :: r, o, h => by
    simp only [World.setCells]
    have h1 : Kp L w (w'.setCell ⟨b, o, none⟩ v) := h.setCell (a := ⟨b, o, none⟩) hb v
    exact Kp.setCells hb r (o + 1) h1
theorem sz1_5 : (Tryd.prog.info? 5).map (·.size) = some 1 := by kernel_rfl
/-- What a copy leaves in the block. -/
def cpg (g g2 : Nat → Value) (o o2 k : Nat) : Nat → Value := fun j => if o ≤ j ∧ j < o + k then g2 (o2 + (j - o)) else g j
section
variable {ρ : Operand → Value} {d : Option Nat} {x y z : Operand} {ty : TypeId} {pos : String} {af : Array Edge} {gd : Option (Nat × Bool)} {w : World}
theorem run_cp {b o dl dc b2 o2 sl sc n n2 : Nat} {t t2 : TypeId} {g g2 : Nat → Value} (hx : ρ x = .slice (some ⟨b, o, none⟩) dl dc) (hy : ρ y = .slice (some ⟨b2, o2, none⟩) sl sc) (hB : Bk w b n t g) (hB2 : Bk w b2 n2 t2 g2)
    (h1 : o + min sl dl ≤ n) (h2 : o2 + min sl dl ≤ n2) (hone : ∀ j, j < min sl dl → (g2 (o2 + j)).oneCell' = true) :
    ∃ w', (execOp ρ ⟨d, .call ⟨.builtin .copy, #[x, y], #[22, 22]⟩, ty, pos, af, gd⟩).run Tryd.prog w = .ok (.value (.int .i64 (min sl dl : Nat))) w' ∧ Bk w' b n t (cpg g g2 o o2 (min sl dl)) ∧ Kp [b] w w' := by
  have hl : ((List.range (min sl dl)).map (fun j => g2 (o2 + j))).length = min sl dl := by simp
  have hr := run_copy_cells (P := Tryd.prog) w 22 22 ty 5 b o dl dc ⟨b2, o2, none⟩ sl sc ((List.range (min sl dl)).map (fun j => g2 (o2 + j))) und22 sz1_5 hl
    (fun j v hj => by
      rw [List.getElem?_map, Option.map_eq_some_iff] at hj
      obtain ⟨i, hi, rfl⟩ := hj
      obtain ⟨hlt, rfl⟩ := List.getElem?_eq_some_iff.1 hi
      have hlt' : j < min sl dl := by simpa using hlt
      rw [Addr.add_lit]
      simp only [List.getElem_range]
      exact hB2.cell (by omega))
    (fun j hj => by rw [hl] at hj; rw [hB.cell (k := o + j) (by omega)]; rfl)
    (fun j _ => hB.frozen _)
    (fun v hv => by
      rw [List.mem_map] at hv
      obtain ⟨i, hi, rfl⟩ := hv
      exact hone i (List.mem_range.1 hi))
  rw [hl] at hr
  refine ⟨w.setCells b o ((List.range (min sl dl)).map (fun j => g2 (o2 + j))), ?_, (hB.setCells _ o).congr fun k hk => ?_, Kp.setCells (by simp) _ _ (Kp.refl [b] w)⟩
  · simp [execOp, resolve, invoke, builtin, hx, hy, hr, goInt]
  · rw [hl]
    unfold cpg
    split
    · rename_i hh
      have : k - o < min sl dl := by omega
      rw [List.getD_eq_getElem?_getD, List.getElem?_map, List.getElem?_range this]
      rfl
    · rfl
theorem run_cp0 {a a2 : Option Addr} {dl dc sl sc : Nat} (hx : ρ x = .slice a dl dc) (hy : ρ y = .slice a2 sl sc) (h0 : min sl dl = 0) :
    (execOp ρ ⟨d, .call ⟨.builtin .copy, #[x, y], #[22, 22]⟩, ty, pos, af, gd⟩).run Tryd.prog w = .ok (.value (.int .i64 0)) w := by
  have hr := run_copy_none (P := Tryd.prog) w 22 22 ty 5 a a2 dl dc sl sc und22 sz1_5 h0
  simp [execOp, resolve, invoke, builtin, hx, hy, hr, goInt]
theorem pk_t {u : Value} (hx : ρ x = .bool true) (hy : ρ y = u) : (execOp ρ ⟨d, .pick x y z, ty, pos, af, gd⟩).run Tryd.prog w = .ok (.value u) w := pick hx hy rfl
theorem pk_f {u : Value} (hx : ρ x = .bool false) (hz : ρ z = u) : (execOp ρ ⟨d, .pick x y z, ty, pos, af, gd⟩).run Tryd.prog w = .ok (.value u) w := pick hx rfl hz
/-- A method's value of an interface, held against nil. -/
theorem mkM {m : String} {u : Value} (hx : ρ x = u) : (execOp ρ ⟨d, .makeFunc (.method m) #[x] #[], ty, pos, af, gd⟩).run Tryd.prog w = .ok (.value (.func (.method m) #[u] #[])) w := by
  simp [execOp, hx, Instr.makeFunc]
theorem nilM43 {a : Addr} (hx : ρ x = .func (.method "Read") #[.iface 43 (.pointer (some a))] #[]) : (execOp ρ ⟨d, .nilCheck x, ty, pos, af, gd⟩).run Tryd.prog w = .ok (.value (.func (.method "Read") #[.iface 43 (.pointer (some a))] #[])) w := by
  simp only [execOp, hx]
  kernel_rfl
theorem nilM99 {a : Addr} (hx : ρ x = .func (.method "Read") #[.iface 99 (.pointer (some a))] #[]) : (execOp ρ ⟨d, .nilCheck x, ty, pos, af, gd⟩).run Tryd.prog w = .ok (.value (.func (.method "Read") #[.iface 99 (.pointer (some a))] #[])) w := by
  simp only [execOp, hx]
  kernel_rfl
theorem meth_rd (a : Addr) (w : World) : (method (158 + Made.depth) 43 (.pointer (some a)) "Read").run Tryd.prog w = .ok (81, .pointer (some a)) w := by kernel_rfl
theorem meth_rd99 (a : Addr) (w : World) : (method (158 + Made.depth) 99 (.pointer (some a)) "Read").run Tryd.prog w = .ok (90, .pointer (some a)) w := by kernel_rfl
/-- Errors held against nil, by ==. -/
theorem ee_nil (hx : ρ x = .nilIface) (hy : ρ (.const .nilIface) = .nilIface) : (execOp ρ ⟨d, .binOp .eql 62 x (.const .nilIface) 62, ty, pos, af, gd⟩).run Tryd.prog w = .ok (.value (.bool true)) w := by
  have hg : eqGuard .eql 62 x (.const .nilIface) .nilIface .nilIface = pure () := by
    unfold eqGuard; simp
  have he : (Op.equal 62 .nilIface .nilIface).run Tryd.prog w = .ok true w := by kernel_rfl
  simp [execOp, hx, hy, hg, binOp, he]
theorem ee_held {u : TypeId} {v : Value} (hx : ρ x = .iface u v) (hy : ρ y = .nilIface) : (execOp ρ ⟨d, .binOp .eql 62 x y 62, ty, pos, af, gd⟩).run Tryd.prog w = .ok (.value (.bool false)) w := by
  have hg : eqGuard .eql 62 x y (.iface u v) .nilIface = pure () := by
    unfold eqGuard; rfl
  have he : (Op.equal 62 (.iface u v) .nilIface).run Tryd.prog w = .ok false w := by kernel_rfl
  simp [execOp, hx, hy, hg, binOp, he]
/-- The buffer of four bytes as a slice. -/
theorem sl91 {b o : Nat} (h0 : ρ (.const (.int .i64 0)) = .int .i64 0) (h4 : ρ (.const (.int .i64 4)) = .int .i64 4) (hx : ρ x = .pointer (some ⟨b, o, none⟩)) : (execOp ρ ⟨d, .slice 91 x (some (.const (.int .i64 0))) (some (.const (.int .i64 4))) none, ty, pos, af, gd⟩).run Tryd.prog w = .ok (.value (.slice (some ⟨b, o, none⟩) 4 4)) w := by
  simp only [execOp, hx, h0, h4, Option.map_some, Option.map_none]
  kernel_rfl
end
/- The steps of a statement whose order is open and that has an effect. -/
section
variable {P : Program} {ops : Array Oper} {Q : Act → World → Prop} {N : Nat} {L : List (Nat × Value)} {B : Nat → Value} {f : Nat → Value} {w w' : World} {rest : List Oper} {C : World → Prop} {fs : List Bool}
  {d : Nat} {op : Op} {ty : TypeId} {pos : String} {af : Array Edge} {v : Value}
theorem T1 (h : ∀ w, C w → (execOp (ev N (fl L B)) ⟨some d, op, ty, pos, af, none⟩).run P w = .ok (.value v) w) (k : wpMix P ops C Q rest fs (fr N (fl ((d, v) :: L) B)) w) :
    wpMix P ops C Q (⟨some d, op, ty, pos, af, none⟩ :: rest) (false :: fs) (fr N (fl L B)) w := by
  refine ⟨v, fun w' hC => .inl ⟨rfl, .inl ?_⟩, ?_⟩
  · rw [fr_eval]; exact h w' hC
  · rw [fr_put]; exact k
theorem E1 (h : (execOp (ev N (fl L B)) ⟨some d, op, ty, pos, af, none⟩).run P w = .ok (.value v) w') (hC : C w') (k : wpMix P ops C Q rest fs (fr N (fl ((d, v) :: L) B)) w') :
    wpMix P ops C Q (⟨some d, op, ty, pos, af, none⟩ :: rest) (true :: fs) (fr N (fl L B)) w := by
  unfold wpMix eOper
  rw [if_pos (by rfl), fr_eval, h]
  simp only [uponE]
  rw [fr_put]
  exact ⟨hC, k⟩
theorem E0 (h : (execOp (ev N f) ⟨none, op, ty, pos, af, none⟩).run P w = .ok .skip w') (hC : C w') (k : wpMix P ops C Q rest fs (fr N f) w') :
    wpMix P ops C Q (⟨none, op, ty, pos, af, none⟩ :: rest) (true :: fs) (fr N f) w := by
  unfold wpMix eOper
  rw [if_pos (by rfl), fr_eval, h]
  exact ⟨hC, k⟩
theorem EC {g : FuncId} {args : Array Value} {R : Value → World → Prop} (h : (execOp (ev N (fl L B)) ⟨some d, op, ty, pos, af, none⟩).run P w = .ok (.enter g args) w')
    (hc : Calls P g args w' fun e w2 => ∃ v, e = .returned v ∧ R v w2) (k : ∀ v w2, R v w2 → C w2 ∧ wpMix P ops C Q rest fs (fr N (fl ((d, v) :: L) B)) w2) :
    wpMix P ops C Q (⟨some d, op, ty, pos, af, none⟩ :: rest) (true :: fs) (fr N (fl L B)) w := by
  unfold wpMix eOper
  rw [if_pos (by rfl), fr_eval, h]
  simp only [uponE]
  refine hc.mono fun e w2 ⟨v, he, hr⟩ => ⟨v, he, ?_⟩
  rw [fr_put]
  exact k v w2 hr
theorem mix_nil {a : Act} (h : Q a w) : wpMix P ops C Q [] fs a w := by
  unfold wpMix; exact h
end
section
variable {ops : Array Oper} {N : Nat} {L : List (Nat × Value)} {B : Nat → Value} {w : World} {rest : List Oper} {C : World → Prop}
  {dd : Nat} {x y : Operand} {ty : TypeId} {pos : String} {af : Array Edge}
  {b o dl dc b2 o2 sl sc n n2 : Nat} {t t2 : TypeId} {g g2 : Nat → Value}
theorem Lcp {Q : Exit → Act → World → Prop} (hx : ev N (fl L B) x = .slice (some ⟨b, o, none⟩) dl dc) (hy : ev N (fl L B) y = .slice (some ⟨b2, o2, none⟩) sl sc) (hB : Bk w b n t g) (hB2 : Bk w b2 n2 t2 g2)
    (h1 : o + min sl dl ≤ n) (h2 : o2 + min sl dl ≤ n2) (hone : ∀ j, j < min sl dl → (g2 (o2 + j)).oneCell' = true)
    (K : ∀ w1, Bk w1 b n t (cpg g g2 o o2 (min sl dl)) → Kp [b] w w1 → wpList Tryd.prog ops Q rest (fr N (fl ((dd, .int .i64 (min sl dl : Nat)) :: L) B)) w1) :
    wpList Tryd.prog ops Q (⟨some dd, .call ⟨.builtin .copy, #[x, y], #[22, 22]⟩, ty, pos, af, none⟩ :: rest) (fr N (fl L B)) w := by
  obtain ⟨w1, hr, h3, h4⟩ := run_cp (d := some dd) (ty := ty) (pos := pos) (af := af) (gd := none) hx hy hB hB2 h1 h2 hone
  exact L1 hr (K w1 h3 h4)
theorem Ecp {fs : List Bool} {Q : Act → World → Prop} (hx : ev N (fl L B) x = .slice (some ⟨b, o, none⟩) dl dc) (hy : ev N (fl L B) y = .slice (some ⟨b2, o2, none⟩) sl sc) (hB : Bk w b n t g) (hB2 : Bk w b2 n2 t2 g2)
    (h1 : o + min sl dl ≤ n) (h2 : o2 + min sl dl ≤ n2) (hone : ∀ j, j < min sl dl → (g2 (o2 + j)).oneCell' = true)
    (K : ∀ w1, Bk w1 b n t (cpg g g2 o o2 (min sl dl)) → Kp [b] w w1 → C w1 ∧ wpMix Tryd.prog ops C Q rest fs (fr N (fl ((dd, .int .i64 (min sl dl : Nat)) :: L) B)) w1) :
    wpMix Tryd.prog ops C Q (⟨some dd, .call ⟨.builtin .copy, #[x, y], #[22, 22]⟩, ty, pos, af, none⟩ :: rest) (true :: fs) (fr N (fl L B)) w := by
  obtain ⟨w1, hr, h3, h4⟩ := run_cp (d := some dd) (ty := ty) (pos := pos) (af := af) (gd := none) hx hy hB hB2 h1 h2 hone
  exact E1 hr (K w1 h3 h4).1 (K w1 h3 h4).2
end
section
variable {ρ : Operand → Value} {d : Option Nat} {x y z : Operand} {ty : TypeId} {pos : String} {af : Array Edge} {gd : Option (Nat × Bool)} {w : World}
variable {t e : TypeId} {b o len cap l h : Nat} {k k' : IntKind} {i j : Int}
theorem slb_l (ht : Tryd.prog.underlying t = some (.slice e)) (he : ∀ w, (sizeOf e).run Tryd.prog w = .ok 1 w) (hx : ρ x = .slice (some ⟨b, o, none⟩) len cap) (hy : ρ y = .int k i) (hi : i = (l : Int)) (h1 : l ≤ len) (hc : l < cap) :
    (execOp ρ ⟨d, .slice t x (some y) none none, ty, pos, af, gd⟩).run Tryd.prog w = .ok (.value (.slice (some ⟨b, o + l, none⟩) (len - l) (cap - l))) w := by
  rw [sl_l ht he hx hy hi h1, cutA_lt _ _ _ _ hc]
theorem slb_lh (ht : Tryd.prog.underlying t = some (.slice e)) (he : ∀ w, (sizeOf e).run Tryd.prog w = .ok 1 w) (hx : ρ x = .slice (some ⟨b, o, none⟩) len cap) (hy : ρ y = .int k i) (hz : ρ z = .int k' j) (hi : i = (l : Int)) (hj : j = (h : Int)) (h1 : l ≤ h) (h2 : h ≤ cap) (hc : l < cap) :
    (execOp ρ ⟨d, .slice t x (some y) (some z) none, ty, pos, af, gd⟩).run Tryd.prog w = .ok (.value (.slice (some ⟨b, o + l, none⟩) (h - l) (cap - l))) w := by
  rw [sl_lh ht he hx hy hz hi hj h1 h2, cutA_lt _ _ _ _ hc]
end
theorem reg_mix {P : Program} {Q : Exit → Act → World → Prop} {N : Nat} {f : Nat → Value} {w : World} {id : Nat} {l : List Oper} (fs : List Bool) (C : World → Prop) (hm : P.follows .mixedOrders = true) (hB : mixB l.toArray fs = true)
    (hC : C w.drew) (h : wpMix P l.toArray C (Q .normal) l fs (fr N f) w.drew) : (Code.region id l.toArray true).wp P Q (fr N f) w := wp_region_mix fs C hm hB hC h
end Go.Proofs.YtejeloeaklpinaaDoor
