/- A walk over frames that are told by a list of slots over an unknown rest. Nothing of the program's meaning is in it: the steps of single operations, each by its run. -/
import Derived.Test.YtejeloeaklpinaaDoorRows
import Derived.Test.YtejeloeaklpinaaDoorBase
import Derived.StillTail
import Derived.Deep.LoopGhost
namespace Go.Proofs.YtejeloeaklpinaaDoor
open Go.RowKit

/-- The slots of a frame: those listed, else the rest's. -/
def fl : List (Nat × Value) → (Nat → Value) → Nat → Value
  | [], B, t => B t
  | (k, v) :: L, B, t => if t = k then v else fl L B t
/-- A frame of N slots, nothing deferred. -/
def fr (N : Nat) (f : Nat → Value) : Act := { tmps := Array.ofFn (fun i : Fin N => f i.val), defers := [] }
def ev (N : Nat) (f : Nat → Value) : Operand → Value
  | .tmp t => if t < N then f t else undef
  | .const v => v
  | .global g => .pointer (some ⟨g, 0, none⟩)
  | .func k => .func (.func k) #[] #[]

theorem fr_eval (N : Nat) (f : Nat → Value) : (fr N f).eval = ev N f := by
  funext x
  cases x with
  | tmp t =>
    simp only [Act.eval, fr, ev, Array.getD_eq_getD_getElem?, Array.getElem?_ofFn]
    split <;> rfl
  | const v => rfl
  | global g => rfl
  | func k => rfl

theorem fr_put (N : Nat) (L : List (Nat × Value)) (B : Nat → Value) (d : Nat) (v : Value) :
    (fr N (fl L B)).put (some d) v = fr N (fl ((d, v) :: L) B) := by
  simp only [Act.put, fr]
  congr 1
  apply Array.ext
  · simp
  · intro i h1 h2
    simp only [Array.getElem_ofFn, fl]
    by_cases hd : d = i
    · subst hd; simp
    · rw [Array.getElem_setIfInBounds_ne (by simpa using h1) hd, if_neg (fun e => hd e.symm)]
      simp
theorem fr_put_none (N : Nat) (f : Nat → Value) (v : Value) : (fr N f).put none v = fr N f := rfl

/-- What of a frame is kept in sight. -/
theorem fl_self (L : List (Nat × Value)) (B : Nat → Value) (h : ∀ k v, (k, v) ∈ L → B k = v) : fl L B = B := by
  funext t
  induction L with
  | nil => rfl
  | cons p L ih =>
    obtain ⟨k, v⟩ := p
    simp only [fl]
    split
    · rename_i e; subst e; exact (h t v (by simp)).symm
    · exact ih (fun k' v' hm => h k' v' (by simp [hm]))
/-- The list of some slots' values. -/
def sel (f : Nat → Value) : List Nat → List (Nat × Value)
  | [] => []
  | k :: ks => (k, f k) :: sel f ks
theorem fl_sel (f : Nat → Value) (ks : List Nat) : fl (sel f ks) f = f := by
  apply fl_self
  intro k v hm
  induction ks with
  | nil => simp [sel] at hm
  | cons a ks ih =>
    simp only [sel, List.mem_cons, Prod.mk.injEq] at hm
    rcases hm with ⟨rfl, rfl⟩ | hm
    · rfl
    · exact ih hm
theorem keep_slots {X : Act → Prop} {N : Nat} {f : Nat → Value} (ks : List Nat) (h : ∀ B, X (fr N (fl (sel f ks) B))) : X (fr N f) := by
  have := h f
  rwa [fl_sel] at this

section
variable {P : Program} {ops : Array Oper} {Q : Exit → Act → World → Prop} {N : Nat} {L : List (Nat × Value)} {B : Nat → Value} {f : Nat → Value} {w w' : World} {rest : List Oper}
  {d : Nat} {op : Op} {ty : TypeId} {pos : String} {af : Array Edge} {v : Value}

/-- One operation that gives a value. -/
theorem L1 (h : (execOp (ev N (fl L B)) ⟨some d, op, ty, pos, af, none⟩).run P w = .ok (.value v) w') (k : wpList P ops Q rest (fr N (fl ((d, v) :: L) B)) w') :
    wpList P ops Q (⟨some d, op, ty, pos, af, none⟩ :: rest) (fr N (fl L B)) w := by
  refine wpList_plain rfl fun K hK => ?_
  unfold Oper.wp
  rw [fr_eval, h]
  simp only [Oper.upon]
  rw [fr_put]
  exact hK _ _ k
/-- One operation without a slot that gives a value which nobody takes. -/
theorem L1n (h : (execOp (ev N f) ⟨none, op, ty, pos, af, none⟩).run P w = .ok (.value v) w') (k : wpList P ops Q rest (fr N f) w') :
    wpList P ops Q (⟨none, op, ty, pos, af, none⟩ :: rest) (fr N f) w := by
  refine wpList_plain rfl fun K hK => ?_
  unfold Oper.wp
  rw [fr_eval, h]
  exact hK _ _ k
/-- A store. -/
theorem L0 (h : (execOp (ev N f) ⟨none, op, ty, pos, af, none⟩).run P w = .ok .skip w') (k : wpList P ops Q rest (fr N f) w') :
    wpList P ops Q (⟨none, op, ty, pos, af, none⟩ :: rest) (fr N f) w := by
  refine wpList_plain rfl fun K hK => ?_
  unfold Oper.wp
  rw [fr_eval, h]
  exact hK _ _ k
/-- A call that returns. -/
theorem LC {g : FuncId} {args : Array Value} {R : Value → World → Prop} (h : (execOp (ev N (fl L B)) ⟨some d, op, ty, pos, af, none⟩).run P w = .ok (.enter g args) w')
    (hc : Calls P g args w' fun e w2 => ∃ v, e = .returned v ∧ R v w2) (k : ∀ v w2, R v w2 → wpList P ops Q rest (fr N (fl ((d, v) :: L) B)) w2) :
    wpList P ops Q (⟨some d, op, ty, pos, af, none⟩ :: rest) (fr N (fl L B)) w := by
  refine wpList_plain rfl fun K hK => ?_
  unfold Oper.wp
  rw [fr_eval, h]
  simp only [Oper.upon]
  refine hc.mono fun e w2 ⟨v, he, hr⟩ => ?_
  subst he
  simp only []
  rw [fr_put]
  exact hK _ _ (k v w2 hr)
theorem LCn {g : FuncId} {args : Array Value} {R : Value → World → Prop} (h : (execOp (ev N f) ⟨none, op, ty, pos, af, none⟩).run P w = .ok (.enter g args) w')
    (hc : Calls P g args w' fun e w2 => ∃ v, e = .returned v ∧ R v w2) (k : ∀ v w2, R v w2 → wpList P ops Q rest (fr N f) w2) :
    wpList P ops Q (⟨none, op, ty, pos, af, none⟩ :: rest) (fr N f) w := by
  refine wpList_plain rfl fun K hK => ?_
  unfold Oper.wp
  rw [fr_eval, h]
  simp only [Oper.upon]
  refine hc.mono fun e w2 ⟨v, he, hr⟩ => ?_
  subst he
  exact hK _ _ (k v w2 hr)

/-- The value that a guard looks at. -/
theorem yielded_fr (j t : Nat) (b : Bool) (hj : ((ops[j]?).bind (·.dst)) = some t) (ht : t < N) (hb : f t = .bool b) : yielded ops (fr N f).tmps j = some b := by
  simp only [yielded, hj, Option.bind_some, fr, Array.getElem?_ofFn, ht, dif_pos, hb]
/-- A guarded operation that is passed over. -/
theorem Lskip {j t : Nat} {b : Bool} (hj : ((ops[j]?).bind (·.dst)) = some t) (ht : t < N) (hb : fl L B t = .bool (!b))
    (k : wpList P ops Q rest (fr N (fl ((d, undef) :: L) B)) w) : wpList P ops Q (⟨some d, op, ty, pos, af, some (j, b)⟩ :: rest) (fr N (fl L B)) w := by
  refine wpList_skip ?_ ?_
  · simp only [Region.wanted, yielded_fr j t (!b) hj ht hb]
    cases b <;> rfl
  · rw [fr_put]; exact k
/-- A guarded operation that is done. -/
theorem L1g {j t : Nat} {b : Bool} (hj : ((ops[j]?).bind (·.dst)) = some t) (ht : t < N) (hb : fl L B t = .bool b)
    (h : (execOp (ev N (fl L B)) ⟨some d, op, ty, pos, af, some (j, b)⟩).run P w = .ok (.value v) w')
    (k : wpList P ops Q rest (fr N (fl ((d, v) :: L) B)) w') : wpList P ops Q (⟨some d, op, ty, pos, af, some (j, b)⟩ :: rest) (fr N (fl L B)) w := by
  refine wpList_step fun K hK => ?_
  rw [if_pos (by simp only [Region.wanted, yielded_fr j t b hj ht hb]; cases b <;> rfl)]
  unfold Oper.wp
  rw [fr_eval, h]
  simp only [Oper.upon]
  rw [fr_put]
  exact hK _ _ k
theorem LCg {g : FuncId} {args : Array Value} {R : Value → World → Prop} {j t : Nat} {b : Bool} (hj : ((ops[j]?).bind (·.dst)) = some t) (ht : t < N) (hb : fl L B t = .bool b)
    (h : (execOp (ev N (fl L B)) ⟨some d, op, ty, pos, af, some (j, b)⟩).run P w = .ok (.enter g args) w')
    (hc : Calls P g args w' fun e w2 => ∃ v, e = .returned v ∧ R v w2) (k : ∀ v w2, R v w2 → wpList P ops Q rest (fr N (fl ((d, v) :: L) B)) w2) :
    wpList P ops Q (⟨some d, op, ty, pos, af, some (j, b)⟩ :: rest) (fr N (fl L B)) w := by
  refine wpList_step fun K hK => ?_
  rw [if_pos (by simp only [Region.wanted, yielded_fr j t b hj ht hb]; cases b <;> rfl)]
  unfold Oper.wp
  rw [fr_eval, h]
  simp only [Oper.upon]
  refine hc.mono fun e w2 ⟨v, he, hr⟩ => ?_
  subst he
  simp only []
  rw [fr_put]
  exact hK _ _ (k v w2 hr)

/-- The same steps where the world stands still (the head of a statement whose order is open). -/
theorem S1 {Z : Act → Prop} (h : (execOp (ev N (fl L B)) ⟨some d, op, ty, pos, af, none⟩).run P w = .ok (.value v) w) (k : wpStill P ops w Z rest (fr N (fl ((d, v) :: L) B))) :
    wpStill P ops w Z (⟨some d, op, ty, pos, af, none⟩ :: rest) (fr N (fl L B)) := by
  unfold wpStill
  rw [if_pos (by rfl)]
  unfold Oper.still
  rw [fr_eval, h]
  simp only [Oper.stillUpon]
  rw [fr_put]
  exact ⟨trivial, k⟩
theorem S1g {Z : Act → Prop} {j t : Nat} {b : Bool} (hj : ((ops[j]?).bind (·.dst)) = some t) (ht : t < N) (hb : fl L B t = .bool b)
    (h : (execOp (ev N (fl L B)) ⟨some d, op, ty, pos, af, some (j, b)⟩).run P w = .ok (.value v) w) (k : wpStill P ops w Z rest (fr N (fl ((d, v) :: L) B))) :
    wpStill P ops w Z (⟨some d, op, ty, pos, af, some (j, b)⟩ :: rest) (fr N (fl L B)) := by
  unfold wpStill
  rw [if_pos (by simp only [Region.wanted, yielded_fr j t b hj ht hb]; cases b <;> rfl)]
  unfold Oper.still
  rw [fr_eval, h]
  simp only [Oper.stillUpon]
  rw [fr_put]
  exact ⟨trivial, k⟩
theorem Sskip {Z : Act → Prop} {j t : Nat} {b : Bool} (hj : ((ops[j]?).bind (·.dst)) = some t) (ht : t < N) (hb : fl L B t = .bool (!b))
    (k : wpStill P ops w Z rest (fr N (fl ((d, undef) :: L) B))) :
    wpStill P ops w Z (⟨some d, op, ty, pos, af, some (j, b)⟩ :: rest) (fr N (fl L B)) := by
  unfold wpStill
  rw [if_neg (by simp only [Region.wanted, yielded_fr j t (!b) hj ht hb]; cases b <;> decide), fr_put]
  exact k
/-- A quiet call inside such a head. -/
theorem SC {Z : Act → Prop} {g : FuncId} {args : Array Value} (h : (execOp (ev N (fl L B)) ⟨some d, op, ty, pos, af, none⟩).run P w = .ok (.enter g args) w)
    (hc : Calls P g args w fun e w2 => e = .returned v ∧ w2 = w) (k : wpStill P ops w Z rest (fr N (fl ((d, v) :: L) B))) :
    wpStill P ops w Z (⟨some d, op, ty, pos, af, none⟩ :: rest) (fr N (fl L B)) := by
  unfold wpStill
  rw [if_pos (by rfl)]
  unfold Oper.still
  rw [fr_eval, h]
  simp only [Oper.stillUpon]
  exact ⟨trivial, v, hc, by rw [fr_put]; exact k⟩
end

section
variable {P : Program} {Q : Exit → Act → World → Prop} {N : Nat} {f : Nat → Value} {w : World}
theorem reg_lit {id : Nat} {l : List Oper} (h : wpList P l.toArray Q l (fr N f) w) : (Code.region id l.toArray false).wp P Q (fr N f) w := wp_region_lit h
theorem cond_t {c : Operand} {x y : Code} (hc : ev N f c = .bool true) (h : x.wp P Q (fr N f) w) : (Code.cond c x y).wp P Q (fr N f) w :=
  wp_cond_true (by rw [fr_eval]; exact hc) h
theorem cond_f {c : Operand} {x y : Code} (hc : ev N f c = .bool false) (h : y.wp P Q (fr N f) w) : (Code.cond c x y).wp P Q (fr N f) w :=
  wp_cond_false (by rw [fr_eval]; exact hc) h
theorem cond_b {c : Operand} {x y : Code} {b : Bool} (hc : ev N f c = .bool b) (ht : b = true → x.wp P Q (fr N f) w) (hf : b = false → y.wp P Q (fr N f) w) :
    (Code.cond c x y).wp P Q (fr N f) w :=
  wp_cond_split (by rw [fr_eval]; exact hc) ht hf
theorem cond_d {c : Operand} {x y : Code} {p : Prop} [Decidable p] (hc : ev N f c = .bool (decide p)) (ht : p → x.wp P Q (fr N f) w) (hf : ¬ p → y.wp P Q (fr N f) w) :
    (Code.cond c x y).wp P Q (fr N f) w :=
  cond_b hc (fun h => ht (of_decide_eq_true h)) (fun h => hf (of_decide_eq_false h))
/-- The slots that are kept in sight. -/
theorem fnil {f : Nat → Value} : ∀ p, p ∈ ([] : List (Nat × Value)) → f p.1 = p.2 := by simp
theorem fc {f : Nat → Value} {k : Nat} {v : Value} {l : List (Nat × Value)} (h : f k = v) (t : ∀ p, p ∈ l → f p.1 = p.2) : ∀ p, p ∈ (k, v) :: l → f p.1 = p.2 := by
  intro p hp
  rcases List.mem_cons.1 hp with rfl | hp
  · exact h
  · exact t p hp
theorem slots {c : Code} {L : List (Nat × Value)} (h : ∀ p, p ∈ L → f p.1 = p.2) (hx : c.wp P Q (fr N (fl L f)) w) : c.wp P Q (fr N f) w := by
  rwa [fl_self L f (fun k v hm => h (k, v) hm)] at hx
/-- A sequence cut: what holds between its parts. -/
theorem seq_cut {x y : Code} {a : Act} (M : (Nat → Value) → World → Prop) (hx : x.wp P (Exit.then (fun a w => ∃ f, a = fr N f ∧ M f w) Q) a w) (hy : ∀ f w, M f w → y.wp P Q (fr N f) w) : (Code.seq x y).wp P Q a w := by
  refine wp_seq (wp_mono hx ?_)
  intro e a' w' hq
  cases e with
  | normal => obtain ⟨f', rfl, hM⟩ := hq; exact hy f' w' hM
  | exit id => exact hq
  | goto l => exact hq
  | ret => exact hq
  | panic ch => exact hq
  | outgrown => exact hq
/-- A loop: what holds at each round's head, with a number that each round lowers. -/
theorem loop_fr {c : Code} (J : Nat → (Nat → Value) → World → Prop) (n₀ : Nat) (h₀ : J n₀ f w)
    (round : ∀ n f w, J n f w → c.wp P (Exit.then (fun a' w' => ∃ n' f', n' < n ∧ a' = fr N f' ∧ J n' f' w') Q) (fr N f) w) : (Code.loop c).wp P Q (fr N f) w := by
  refine wp_loop_ghost (fun n a w => ∃ f, a = fr N f ∧ J n f w) n₀ ⟨f, rfl, h₀⟩ ?_
  rintro n a w ⟨f, rfl, hJ⟩
  refine wp_mono (round n f w hJ) ?_
  intro e a' w' hq
  cases e with
  | normal => obtain ⟨n', f', hn, rfl, hJ'⟩ := hq; exact ⟨n', hn, f', rfl, hJ'⟩
  | exit id => exact hq
  | goto l => exact hq
  | ret => exact hq
  | panic ch => exact hq
  | outgrown => exact hq
/-- The head of a call: the frame of the arguments. -/
def argsL : Nat → List Value → List (Nat × Value)
  | _, [] => []
  | i, v :: l => (i, v) :: argsL (i + 1) l
theorem fl_argsL : ∀ (l : List Value) (i t : Nat), fl (argsL i l) (fun _ => undef) t = if i ≤ t then l.getD (t - i) undef else undef
  | [], i, t => by simp [argsL, fl]
  | v :: l, i, t => by
    simp only [argsL, fl, fl_argsL l (i + 1) t]
    by_cases h : t = i
    · subst h; simp
    · by_cases h2 : i + 1 ≤ t
      · have h3 : i ≤ t := by omega
        have h4 : t - i = (t - (i + 1)) + 1 := by omega
        simp [h, h2, h3, h4]
      · have h3 : ¬ i ≤ t := by omega
        simp [h, h2, h3]
theorem calls_fr {g : FuncId} {fn : Func} {c : Code} {l : List Value} {L : List (Nat × Value)} {R : Ending → World → Prop} (hf : P.funcs[g]? = some fn) (hb : fn.body = some c) (hn : fn.ntmps = N) (hl : l.length ≤ N) (hL : argsL 0 l = L)
    (h : c.wp P (bodyPost P fn R) (fr N (fl L (fun _ => undef))) w) : Calls P g l.toArray w R := by
  refine calls_of_wp hf hb ?_
  have e : ({ tmps := l.toArray ++ Array.replicate (fn.ntmps - l.toArray.size) undef, defers := [] } : Act) = fr N (fl L (fun _ => undef)) := by
    rw [hn, ← hL]
    simp only [fr]
    congr 1
    apply Array.ext
    · simp; omega
    · intro i h1 h2
      simp only [Array.getElem_ofFn, fl_argsL, Nat.zero_le, if_true, Nat.sub_zero, List.getD_eq_getElem?_getD]
      rw [Array.getElem_append]
      split
      · rename_i hi
        simp at hi
        simp [hi]
      · rename_i hi
        simp at hi
        simp [List.getElem?_eq_none hi]
  rw [e]
  exact h
theorem nil_then {ops : Array Oper} {y : Code} {a : Act} (h : y.wp P Q a w) : wpList P ops (Exit.then (y.wp P Q) Q) [] a w := h
theorem still_nil {ops : Array Oper} {Z : Act → Prop} {a : Act} (h : Z a) : wpStill P ops w Z [] a := h
theorem then_n {a : Act} {X : Act → World → Prop} (h : X a w) : Exit.then X Q .normal a w := h
theorem then_r {a : Act} {X : Act → World → Prop} (h : Q .ret a w) : Exit.then X Q .ret a w := h
theorem then_e {a : Act} {X : Act → World → Prop} {i : Nat} (h : Q (.exit i) a w) : Exit.then X Q (.exit i) a w := h
theorem then_g {a : Act} {X : Act → World → Prop} {i : Nat} (h : Q (.goto i) a w) : Exit.then X Q (.goto i) a w := h
theorem inb_n {a : Act} {i : Nat} (h : Q .normal a w) : Exit.inBlock i Q .normal a w := h
theorem inb_r {a : Act} {i : Nat} (h : Q .ret a w) : Exit.inBlock i Q .ret a w := h
theorem inb_g {a : Act} {i l : Nat} (h : Q (.goto l) a w) : Exit.inBlock i Q (.goto l) a w := h
theorem inb_same {a : Act} {i : Nat} (h : Q .normal a w) : Exit.inBlock i Q (.exit i) a w := by simpa [Exit.inBlock] using h
theorem inb_other {a : Act} {i j : Nat} (hij : j ≠ i) (h : Q (.exit j) a w) : Exit.inBlock i Q (.exit j) a w := by simpa [Exit.inBlock, hij] using h
/-- A statement whose order is open and that only reads. -/
theorem reg_still {id : Nat} {l : List Oper} (hm : P.follows .mixedOrders = true) (hB : Region.lexB .any l.toArray = true)
    (h : wpStill P l.toArray w.drew (fun a' => Q .normal a' w.drew) l (fr N f)) : (Code.region id l.toArray true).wp P Q (fr N f) w := wp_region_still_lit hm hB h
/-- A statement whose order is open: n operations that read, then the rest. -/
theorem reg_tail {id : Nat} {l : List Oper} (n : Nat) (hm : P.follows .mixedOrders = true) (hB : Region.lexTailB .any l.toArray n = true)
    (h : wpStill P l.toArray w.drew (fun a' => wpList P l.toArray Q (l.drop n) a' w.drew) (l.take n) (fr N f)) : (Code.region id l.toArray true).wp P Q (fr N f) w := wp_region_still_tail n hm hB h
theorem ret1 {fn : Func} {R : Ending → World → Prop} {t : Nat} {v : Value} (hr : fn.results = #[.tmp t]) (hv : ev N f (.tmp t) = v) (h : R (.returned v) w) : bodyPost P fn R .ret (fr N f) w := by
  refine bodyPost_ret (results_tmp hr _ _ _) rfl ?_
  have : (fr N f).tmps.getD t undef = v := by rw [← hv, ← fr_eval]; rfl
  rw [this]; exact h
theorem ret2 {fn : Func} {R : Ending → World → Prop} {t u : Nat} {v x : Value} (hr : fn.results = #[.tmp t, .tmp u]) (hv : ev N f (.tmp t) = v) (hx : ev N f (.tmp u) = x)
    (h : R (.returned (.tuple #[v, x])) w) : bodyPost P fn R .ret (fr N f) w := by
  refine bodyPost_ret (results_tmp2 hr _ _ _) rfl ?_
  have e1 : (fr N f).tmps.getD t undef = v := by rw [← hv, ← fr_eval]; rfl
  have e2 : (fr N f).tmps.getD u undef = x := by rw [← hx, ← fr_eval]; rfl
  rw [e1, e2]; exact h
theorem ret3 {fn : Func} {R : Ending → World → Prop} {t u s : Nat} {v x y : Value} (hr : fn.results = #[.tmp t, .tmp u, .tmp s]) (hv : ev N f (.tmp t) = v) (hx : ev N f (.tmp u) = x) (hy : ev N f (.tmp s) = y)
    (h : R (.returned (.tuple #[v, x, y])) w) : bodyPost P fn R .ret (fr N f) w := by
  have e1 : (fr N f).tmps.getD t undef = v := by rw [← hv, ← fr_eval]; rfl
  have e2 : (fr N f).tmps.getD u undef = x := by rw [← hx, ← fr_eval]; rfl
  have e3 : (fr N f).tmps.getD s undef = y := by rw [← hy, ← fr_eval]; rfl
  refine bodyPost_ret (v := .tuple #[v, x, y]) ?_ rfl h
  rw [← e1, ← e2, ← e3]
  simp [results, hr]
theorem ret0 {fn : Func} {R : Ending → World → Prop} (hr : fn.results = #[]) (h : R (.returned (.tuple #[])) w) : bodyPost P fn R .ret (fr N f) w :=
  bodyPost_ret (results_none hr _ _ _) rfl h
theorem end0 {fn : Func} {R : Ending → World → Prop} (hr : fn.results = #[]) (h : R (.returned (.tuple #[])) w) : bodyPost P fn R .normal (fr N f) w :=
  bodyPost_end (results_none hr _ _ _) rfl h
end
end Go.Proofs.YtejeloeaklpinaaDoor
