/- Texts of this claim, merged and shortened by gen/pack.py: Base, Fw, Fields, Ops, Num, Mod, Ops2, Bits, Leaf, More, Ops3, Dict, Mach, One, Wd, Fin, Ops4, Io, Rep, Data, Data2, Ops5. -/
import Derived.WalkKit
import Derived.WalkSpells
import Derived.WalkLawsBesides
import Derived.Deep.QuietTactic
import Derived.BigQuiet
import Derived.Test.YtejeloeaklpinaaDoorRows
import Derived.StillTail
import Derived.Deep.LoopGhost
import Derived.KernelRfl
import Derived.LaidEql
import Derived.WideLaws
import Derived.Laws.IdiomCopy
import Derived.Laws.AppendOwn
namespace Go.Proofs.YtejeloeaklpinaaDoor
open Go.RowKit
/-- One place of a function turned. -/
def upd (g : Nat → Value) (k : Nat) (v : Value) : Nat → Value := fun j => if j = k then v else g j
theorem upd_same (g : Nat → Value) (k : Nat) (v : Value) : upd g k v k = v := by simp [upd]
theorem upd_ne (g : Nat → Value) (k j : Nat) (v : Value) (h : j ≠ k) : upd g k v j = g j := by simp [upd, h]
/-- Block b is n cells of type t, none frozen, and cell k holds g k. -/
def Bk (w : World) (b n : Nat) (t : TypeId) (g : Nat → Value) : Prop :=
 ∃ C : Array Value, w.heap[b]? = some (.cells C t (0, 0)) ∧ C.size = n ∧ ∀ k, k < n → C[k]? = some (g k)
/-- The two functions agree but at the places listed. -/
def Off (L : List Nat) (g g' : Nat → Value) : Prop := ∀ k, k ∉ L → g' k = g k
theorem Off.refl (L : List Nat) (g : Nat → Value) : Off L g g := fun _ _ => rfl
theorem Off.trans {L : List Nat} {g g' g'' : Nat → Value} (h : Off L g g') (h' : Off L g' g'') : Off L g g'' := fun k hk => (h' k hk).trans (h k hk)
theorem Off.mono {L L' : List Nat} {g g' : Nat → Value} (h : Off L g g') (hl : ∀ k, k ∈ L → k ∈ L') : Off L' g g' := fun k hk => h k (fun hm => hk (hl k hm))
theorem Off.upd {L : List Nat} {g g' : Nat → Value} (h : Off L g g') {k : Nat} (hk : k ∈ L) (v : Value) : Off L g (upd g' k v) := by
 intro j hj
 have hjk : j ≠ k := by intro e; subst e; exact hj hk
 rw [upd_ne _ _ _ _ hjk]
 exact h j hj
section
variable {w w' : World} {b n : Nat} {t : TypeId} {g g' : Nat → Value}
theorem Bk.lt (h : Bk w b n t g) : b < w.heap.size := by
 obtain ⟨C, hC, _⟩ := h
 exact lt_of_block hC
theorem Bk.cell (h : Bk w b n t g) {k : Nat} (hk : k < n) : w.cell? ⟨b, k, none⟩ = some (g k) := by
 obtain ⟨C, hC, hs, hg⟩ := h
 simp [World.cell?, hC, hg k hk]
theorem Bk.cellv (h : Bk w b n t g) {k : Nat} {v : Value} (hk : k < n) (hv : g k = v) : w.cell? ⟨b, k, none⟩ = some v := by
 rw [h.cell hk, hv]
theorem Bk.frozen (h : Bk w b n t g) (k : Nat) : w.frozen? ⟨b, k, none⟩ = false := by
 obtain ⟨C, hC, hs, hg⟩ := h
 simp [World.frozen?, hC]
theorem Bk.of_block (h : Bk w b n t g) (hb : w'.heap[b]? = w.heap[b]?) : Bk w' b n t g := by
 obtain ⟨C, hC, hs, hg⟩ := h
 exact ⟨C, hb.trans hC, hs, hg⟩
theorem Bk.congr (h : Bk w b n t g) (hg : ∀ k, k < n → g k = g' k) : Bk w b n t g' := by
 obtain ⟨C, hC, hs, hc⟩ := h
 exact ⟨C, hC, hs, fun k hk => by rw [hc k hk, hg k hk]⟩
theorem Bk.set (h : Bk w b n t g) (k : Nat) (v : Value) : Bk (w.setCell ⟨b, k, none⟩ v) b n t (upd g k v) := by
 obtain ⟨C, hC, hs, hc⟩ := h
 refine ⟨C.setIfInBounds k v, ?_, by simpa using hs, ?_⟩
 ·simp [World.setCell, Array.getElem?_modify, hC]
 ·intro j hj
  by_cases hjk : j = k
  ·subst hjk
   rw [upd_same]
   simp [hs, hj]
  ·rw [upd_ne _ _ _ _ hjk, Array.getElem?_setIfInBounds_ne (by omega)]
   exact hc j hj
theorem Bk.drew (h : Bk w b n t g) : Bk w.drew b n t g := h
theorem Bk.drewN (h : Bk w b n t g) (m : Nat) : Bk (w.drewN m) b n t g := h
theorem Bk.alloc (h : Bk w b n t g) (o : Obj) : Bk (w.alloc o) b n t g := h.of_block (Below.heap_alloc w o b h.lt)
theorem Bk.new (w : World) (C : Array Value) (t : TypeId) : Bk (w.alloc (.cells C t)) w.heap.size C.size t (fun k => C.getD k undef) := by
 refine ⟨C, heap_alloc_new w _, rfl, fun k hk => ?_⟩
 simp [hk]
theorem Bk.setRow (h : Bk w b n t g) (C : Array Value) (hC : C.size = n) (hg : ∀ k, k < n → C[k]? = some (g' k)) : Bk (w.setRow b C) b n t g' := by
 obtain ⟨C0, h0, hs, hc⟩ := h
 exact ⟨C, setRow_heap w b C0 C t _ h0, hC, hg⟩
end
/-- What was there before is as it was, but for the blocks listed; the streams are as they were. -/
structure Kp (L : List Nat) (w w' : World) : Prop where
 os : w'.os = w.os
 tape : w'.tape = w.tape
 output : w'.output = w.output
 size : w.heap.size ≤ w'.heap.size
 block : ∀ k, k < w.heap.size → k ∉ L → w'.heap[k]? = w.heap[k]?
section
variable {L L' : List Nat} {w w' w'' : World}
theorem Kp.refl (L : List Nat) (w : World) : Kp L w w := ⟨rfl, rfl, rfl, Nat.le_refl _, fun _ _ _ => rfl⟩
theorem Kp.trans (h : Kp L w w') (k : Kp L w' w'') : Kp L w w'' :=
 ⟨k.os.trans h.os, k.tape.trans h.tape, k.output.trans h.output, Nat.le_trans h.size k.size,
  fun i hi hn => (k.block i (Nat.lt_of_lt_of_le hi h.size) hn).trans (h.block i hi hn)⟩
theorem Kp.mono (h : Kp L w w') (hl : ∀ k, k ∈ L → k ∈ L') : Kp L' w w' :=
 ⟨h.os, h.tape, h.output, h.size, fun i hi hn => h.block i hi (fun hm => hn (hl i hm))⟩
theorem Kp.setCell (h : Kp L w w') {a : Addr} (ha : a.block ∈ L) (v : Value) : Kp L w (w'.setCell a v) :=
 h.trans ⟨rfl, rfl, rfl, by simp, fun i _ hn => Below.heap_setCell _ _ _ _ (fun e => hn (e ▸ ha))⟩
theorem Kp.drew (h : Kp L w w') : Kp L w w'.drew := h.trans ⟨rfl, rfl, rfl, Nat.le_refl _, fun _ _ _ => rfl⟩
theorem Kp.drewN (h : Kp L w w') (m : Nat) : Kp L w (w'.drewN m) := h.trans ⟨rfl, rfl, rfl, Nat.le_refl _, fun _ _ _ => rfl⟩
theorem Kp.alloc (h : Kp L w w') (o : Obj) : Kp L w (w'.alloc o) :=
 h.trans ⟨rfl, rfl, rfl, by simp, fun i hi _ => Below.heap_alloc _ _ _ hi⟩
theorem Kp.setRow (h : Kp L w w') {b : Nat} (hb : b ∈ L) (C : Array Value) : Kp L w (w'.setRow b C) :=
 h.trans ⟨rfl, rfl, rfl, by simp [World.setRow], fun i _ hn => setRow_other _ _ _ _ (fun e => hn (e ▸ hb))⟩
/-- A call that may change new blocks (of the outer call) is a call that changes nothing of what was there. -/
theorem Kp.transNew (h : Kp L w w') (k : Kp L' w' w'') (hl : ∀ i, i ∈ L' → i < w.heap.size → i ∈ L) : Kp L w w'' :=
 ⟨k.os.trans h.os, k.tape.trans h.tape, k.output.trans h.output, Nat.le_trans h.size k.size,
  fun i hi hn => (k.block i (Nat.lt_of_lt_of_le hi h.size) (fun hm => hn (hl i hm hi))).trans (h.block i hi hn)⟩
theorem Bk.kp {b n : Nat} {t : TypeId} {g : Nat → Value} (h : Bk w b n t g) (k : Kp L w w') (hb : b ∉ L) : Bk w' b n t g :=
 h.of_block (k.block b h.lt hb)
theorem Kp.cell (h : Kp L w w') {a : Addr} {v : Value} (hc : w.cell? a = some v) (hn : a.block ∉ L) : w'.cell? a = some v := by
 rw [World.cell?_of_block (w := w) (h.block a.block (World.block_lt_of_cell? w a hc) hn)]
 exact hc
end
end Go.Proofs.YtejeloeaklpinaaDoor
namespace Go.Proofs.YtejeloeaklpinaaDoor
open Go.RowKit
/-- The slots of a frame: those listed, else the rest's. -/
def fl : List (Nat × Value) → (Nat → Value) → Nat → Value
 | [], B, t => B t
 | (k, v) :: L, B, t => if t = k then v else fl L B t
/-- A frame of N slots, nothing deferred. -/
def fr (N : Nat) (f : Nat → Value) : Act := { tmps := Array.ofFn (fun i : Fin N => f i.val), defers := [] }
def ev (N : Nat) (f : Nat → Value) : Operand → Value
 | .tmp t => if t < N then f t else undef
 | .const v => v
 | .global g => .pointer (some ⟨g, 0, none⟩)
 | .func k => .func (.func k) #[] #[]
theorem fr_eval (N : Nat) (f : Nat → Value) : (fr N f).eval = ev N f := by
 funext x
 cases x with
 | tmp t =>
  simp only [Act.eval, fr, ev, Array.getD_eq_getD_getElem?, Array.getElem?_ofFn]
  split <;> rfl
 | const v => rfl
 | global g => rfl
 | func k => rfl
theorem fr_put (N : Nat) (L : List (Nat × Value)) (B : Nat → Value) (d : Nat) (v : Value) :
  (fr N (fl L B)).put (some d) v = fr N (fl ((d, v) :: L) B) := by
 simp only [Act.put, fr]
 congr 1
 apply Array.ext
 ·simp
 ·intro i h1 h2
  simp only [Array.getElem_ofFn, fl]
  by_cases hd : d = i
  ·subst hd; simp
  ·rw [Array.getElem_setIfInBounds_ne (by simpa using h1) hd, if_neg (fun e => hd e.symm)]
   simp
/-- What of a frame is kept in sight. -/
theorem fl_self (L : List (Nat × Value)) (B : Nat → Value) (h : ∀ k v, (k, v) ∈ L → B k = v) : fl L B = B := by
 funext t
 induction L with
 | nil => rfl
 | cons p L ih =>
  obtain ⟨k, v⟩ := p
  simp only [fl]
  split
  ·rename_i e; subst e; exact (h t v (by simp)).symm
  ·exact ih (fun k' v' hm => h k' v' (by simp [hm]))
section
variable {P : Program} {ops : Array Oper} {Q : Exit → Act → World → Prop} {N : Nat} {L : List (Nat × Value)} {B : Nat → Value} {f : Nat → Value} {w w' : World} {rest : List Oper}
 {d : Nat} {op : Op} {ty : TypeId} {pos : String} {af : Array Edge} {v : Value}
/-- One operation that gives a value. -/
theorem L1 (h : (execOp (ev N (fl L B)) ⟨some d, op, ty, pos, af, none⟩).run P w = .ok (.value v) w') (k : wpList P ops Q rest (fr N (fl ((d, v) :: L) B)) w') :
  wpList P ops Q (⟨some d, op, ty, pos, af, none⟩ :: rest) (fr N (fl L B)) w := by
 refine wpList_plain rfl fun K hK => ?_
 unfold Oper.wp
 rw [fr_eval, h]
 simp only [Oper.upon]
 rw [fr_put]
 exact hK _ _ k
/-- A store. -/
theorem L0 (h : (execOp (ev N f) ⟨none, op, ty, pos, af, none⟩).run P w = .ok .skip w') (k : wpList P ops Q rest (fr N f) w') :
  wpList P ops Q (⟨none, op, ty, pos, af, none⟩ :: rest) (fr N f) w := by
 refine wpList_plain rfl fun K hK => ?_
 unfold Oper.wp
 rw [fr_eval, h]
 exact hK _ _ k
/-- A call that returns. -/
theorem LC {g : FuncId} {args : Array Value} {R : Value → World → Prop} (h : (execOp (ev N (fl L B)) ⟨some d, op, ty, pos, af, none⟩).run P w = .ok (.enter g args) w')
  (hc : Calls P g args w' fun e w2 => ∃ v, e = .returned v ∧ R v w2) (k : ∀ v w2, R v w2 → wpList P ops Q rest (fr N (fl ((d, v) :: L) B)) w2) :
  wpList P ops Q (⟨some d, op, ty, pos, af, none⟩ :: rest) (fr N (fl L B)) w := by
 refine wpList_plain rfl fun K hK => ?_
 unfold Oper.wp
 rw [fr_eval, h]
 simp only [Oper.upon]
 refine hc.mono fun e w2 ⟨v, he, hr⟩ => ?_
 subst he
 simp only []
 rw [fr_put]
 exact hK _ _ (k v w2 hr)
/-- The value that a guard looks at. -/
theorem yielded_fr (j t : Nat) (b : Bool) (hj : ((ops[j]?).bind (·.dst)) = some t) (ht : t < N) (hb : f t = .bool b) : yielded ops (fr N f).tmps j = some b := by
 simp only [yielded, hj, Option.bind_some, fr, Array.getElem?_ofFn, ht, dif_pos, hb]
/-- A guarded operation that is passed over. -/
theorem Lskip {j t : Nat} {b : Bool} (hj : ((ops[j]?).bind (·.dst)) = some t) (ht : t < N) (hb : fl L B t = .bool (!b))
  (k : wpList P ops Q rest (fr N (fl ((d, undef) :: L) B)) w) : wpList P ops Q (⟨some d, op, ty, pos, af, some (j, b)⟩ :: rest) (fr N (fl L B)) w := by
 refine wpList_skip ?_ ?_
 ·simp only [Region.wanted, yielded_fr j t (!b) hj ht hb]
  cases b <;> rfl
 ·rw [fr_put]; exact k
/-- A guarded operation that is done. -/
theorem L1g {j t : Nat} {b : Bool} (hj : ((ops[j]?).bind (·.dst)) = some t) (ht : t < N) (hb : fl L B t = .bool b)
  (h : (execOp (ev N (fl L B)) ⟨some d, op, ty, pos, af, some (j, b)⟩).run P w = .ok (.value v) w')
  (k : wpList P ops Q rest (fr N (fl ((d, v) :: L) B)) w') : wpList P ops Q (⟨some d, op, ty, pos, af, some (j, b)⟩ :: rest) (fr N (fl L B)) w := by
 refine wpList_step fun K hK => ?_
 rw [if_pos (by simp only [Region.wanted, yielded_fr j t b hj ht hb]; cases b <;> rfl)]
 unfold Oper.wp
 rw [fr_eval, h]
 simp only [Oper.upon]
 rw [fr_put]
 exact hK _ _ k
theorem LCg {g : FuncId} {args : Array Value} {R : Value → World → Prop} {j t : Nat} {b : Bool} (hj : ((ops[j]?).bind (·.dst)) = some t) (ht : t < N) (hb : fl L B t = .bool b)
  (h : (execOp (ev N (fl L B)) ⟨some d, op, ty, pos, af, some (j, b)⟩).run P w = .ok (.enter g args) w')
  (hc : Calls P g args w' fun e w2 => ∃ v, e = .returned v ∧ R v w2) (k : ∀ v w2, R v w2 → wpList P ops Q rest (fr N (fl ((d, v) :: L) B)) w2) :
  wpList P ops Q (⟨some d, op, ty, pos, af, some (j, b)⟩ :: rest) (fr N (fl L B)) w := by
 refine wpList_step fun K hK => ?_
 rw [if_pos (by simp only [Region.wanted, yielded_fr j t b hj ht hb]; cases b <;> rfl)]
 unfold Oper.wp
 rw [fr_eval, h]
 simp only [Oper.upon]
 refine hc.mono fun e w2 ⟨v, he, hr⟩ => ?_
 subst he
 simp only []
 rw [fr_put]
 exact hK _ _ (k v w2 hr)
/-- The same steps where the world stands still (the head of a statement whose order is open). -/
theorem S1 {Z : Act → Prop} (h : (execOp (ev N (fl L B)) ⟨some d, op, ty, pos, af, none⟩).run P w = .ok (.value v) w) (k : wpStill P ops w Z rest (fr N (fl ((d, v) :: L) B))) :
  wpStill P ops w Z (⟨some d, op, ty, pos, af, none⟩ :: rest) (fr N (fl L B)) := by
 unfold wpStill
 rw [if_pos (by rfl)]
 unfold Oper.still
 rw [fr_eval, h]
 simp only [Oper.stillUpon]
 rw [fr_put]
 exact ⟨trivial, k⟩
end
section
variable {P : Program} {Q : Exit → Act → World → Prop} {N : Nat} {f : Nat → Value} {w : World}
theorem reg_lit {id : Nat} {l : List Oper} (h : wpList P l.toArray Q l (fr N f) w) : (Code.region id l.toArray false).wp P Q (fr N f) w := wp_region_lit h
theorem cond_t {c : Operand} {x y : Code} (hc : ev N f c = .bool true) (h : x.wp P Q (fr N f) w) : (Code.cond c x y).wp P Q (fr N f) w :=
 wp_cond_true (by rw [fr_eval]; exact hc) h
theorem cond_f {c : Operand} {x y : Code} (hc : ev N f c = .bool false) (h : y.wp P Q (fr N f) w) : (Code.cond c x y).wp P Q (fr N f) w :=
 wp_cond_false (by rw [fr_eval]; exact hc) h
theorem cond_b {c : Operand} {x y : Code} {b : Bool} (hc : ev N f c = .bool b) (ht : b = true → x.wp P Q (fr N f) w) (hf : b = false → y.wp P Q (fr N f) w) :
  (Code.cond c x y).wp P Q (fr N f) w :=
 wp_cond_split (by rw [fr_eval]; exact hc) ht hf
theorem cond_d {c : Operand} {x y : Code} {p : Prop} [Decidable p] (hc : ev N f c = .bool (decide p)) (ht : p → x.wp P Q (fr N f) w) (hf : ¬ p → y.wp P Q (fr N f) w) :
  (Code.cond c x y).wp P Q (fr N f) w :=
 cond_b hc (fun h => ht (of_decide_eq_true h)) (fun h => hf (of_decide_eq_false h))
/-- The slots that are kept in sight. -/
theorem fnil {f : Nat → Value} : ∀ p, p ∈ ([] : List (Nat × Value)) → f p.1 = p.2 := by simp
theorem fc {f : Nat → Value} {k : Nat} {v : Value} {l : List (Nat × Value)} (h : f k = v) (t : ∀ p, p ∈ l → f p.1 = p.2) : ∀ p, p ∈ (k, v) :: l → f p.1 = p.2 := by
 intro p hp
 rcases List.mem_cons.1 hp with rfl | hp
 ·exact h
 ·exact t p hp
theorem slots {c : Code} {L : List (Nat × Value)} (h : ∀ p, p ∈ L → f p.1 = p.2) (hx : c.wp P Q (fr N (fl L f)) w) : c.wp P Q (fr N f) w := by
 rwa [fl_self L f (fun k v hm => h (k, v) hm)] at hx
/-- A sequence cut: what holds between its parts. -/
theorem seq_cut {x y : Code} {a : Act} (M : (Nat → Value) → World → Prop) (hx : x.wp P (Exit.then (fun a w => ∃ f, a = fr N f ∧ M f w) Q) a w) (hy : ∀ f w, M f w → y.wp P Q (fr N f) w) : (Code.seq x y).wp P Q a w := by
 refine wp_seq (wp_mono hx ?_)
 intro e a' w' hq
 cases e with
 | normal => obtain ⟨f', rfl, hM⟩ := hq; exact hy f' w' hM
 | exit id => exact hq
 | goto l => exact hq
 | ret => exact hq
 | panic ch => exact hq
 | outgrown => exact hq
/-- A loop: what holds at each round's head, with a number that each round lowers. -/
theorem loop_fr {c : Code} (J : Nat → (Nat → Value) → World → Prop) (n₀ : Nat) (h₀ : J n₀ f w)
  (round : ∀ n f w, J n f w → c.wp P (Exit.then (fun a' w' => ∃ n' f', n' < n ∧ a' = fr N f' ∧ J n' f' w') Q) (fr N f) w) : (Code.loop c).wp P Q (fr N f) w := by
 refine wp_loop_ghost (fun n a w => ∃ f, a = fr N f ∧ J n f w) n₀ ⟨f, rfl, h₀⟩ ?_
 rintro n a w ⟨f, rfl, hJ⟩
 refine wp_mono (round n f w hJ) ?_
 intro e a' w' hq
 cases e with
 | normal => obtain ⟨n', f', hn, rfl, hJ'⟩ := hq; exact ⟨n', hn, f', rfl, hJ'⟩
 | exit id => exact hq
 | goto l => exact hq
 | ret => exact hq
 | panic ch => exact hq
 | outgrown => exact hq
/-- The head of a call: the frame of the arguments. -/
def argsL : Nat → List Value → List (Nat × Value)
 | _, [] => []
 | i, v :: l => (i, v) :: argsL (i + 1) l
theorem fl_argsL : ∀ (l : List Value) (i t : Nat), fl (argsL i l) (fun _ => undef) t = if i ≤ t then l.getD (t - i) undef else undef
 | [], i, t => by simp [argsL, fl]
 | v :: l, i, t => by
  simp only [argsL, fl, fl_argsL l (i + 1) t]
  by_cases h : t = i
  ·subst h; simp
  ·by_cases h2 : i + 1 ≤ t
   ·have h3 : i ≤ t := by omega
    have h4 : t - i = (t - (i + 1)) + 1 := by omega
    simp [h, h2, h3, h4]
   ·have h3 : ¬ i ≤ t := by omega
    simp [h, h2, h3]
theorem calls_fr {g : FuncId} {fn : Func} {c : Code} {l : List Value} {L : List (Nat × Value)} {R : Ending → World → Prop} (hf : P.funcs[g]? = some fn) (hb : fn.body = some c) (hn : fn.ntmps = N) (hl : l.length ≤ N) (hL : argsL 0 l = L)
  (h : c.wp P (bodyPost P fn R) (fr N (fl L (fun _ => undef))) w) : Calls P g l.toArray w R := by
 refine calls_of_wp hf hb ?_
 have e : ({ tmps := l.toArray ++ Array.replicate (fn.ntmps - l.toArray.size) undef, defers := [] } : Act) = fr N (fl L (fun _ => undef)) := by
  rw [hn, ← hL]
  simp only [fr]
  congr 1
  apply Array.ext
  ·simp; omega
  ·intro i h1 h2
   simp only [Array.getElem_ofFn, fl_argsL, Nat.zero_le, if_true, Nat.sub_zero, List.getD_eq_getElem?_getD]
   rw [Array.getElem_append]
   split
   ·rename_i hi
    simp at hi
    simp [hi]
   ·rename_i hi
    simp at hi
    simp [List.getElem?_eq_none hi]
 rw [e]
 exact h
theorem nil_then {ops : Array Oper} {y : Code} {a : Act} (h : y.wp P Q a w) : wpList P ops (Exit.then (y.wp P Q) Q) [] a w := h
theorem still_nil {ops : Array Oper} {Z : Act → Prop} {a : Act} (h : Z a) : wpStill P ops w Z [] a := h
theorem then_n {a : Act} {X : Act → World → Prop} (h : X a w) : Exit.then X Q .normal a w := h
theorem then_r {a : Act} {X : Act → World → Prop} (h : Q .ret a w) : Exit.then X Q .ret a w := h
theorem then_e {a : Act} {X : Act → World → Prop} {i : Nat} (h : Q (.exit i) a w) : Exit.then X Q (.exit i) a w := h
theorem then_g {a : Act} {X : Act → World → Prop} {i : Nat} (h : Q (.goto i) a w) : Exit.then X Q (.goto i) a w := h
theorem inb_n {a : Act} {i : Nat} (h : Q .normal a w) : Exit.inBlock i Q .normal a w := h
theorem inb_r {a : Act} {i : Nat} (h : Q .ret a w) : Exit.inBlock i Q .ret a w := h
theorem inb_g {a : Act} {i l : Nat} (h : Q (.goto l) a w) : Exit.inBlock i Q (.goto l) a w := h
theorem inb_same {a : Act} {i : Nat} (h : Q .normal a w) : Exit.inBlock i Q (.exit i) a w := by simpa [Exit.inBlock] using h
theorem inb_other {a : Act} {i j : Nat} (hij : j ≠ i) (h : Q (.exit j) a w) : Exit.inBlock i Q (.exit j) a w := by simpa [Exit.inBlock, hij] using h
/-- A statement whose order is open and that only reads. -/
theorem reg_still {id : Nat} {l : List Oper} (hm : P.follows .mixedOrders = true) (hB : Region.lexB .any l.toArray = true)
  (h : wpStill P l.toArray w.drew (fun a' => Q .normal a' w.drew) l (fr N f)) : (Code.region id l.toArray true).wp P Q (fr N f) w := wp_region_still_lit hm hB h
/-- A statement whose order is open: n operations that read, then the rest. -/
theorem reg_tail {id : Nat} {l : List Oper} (n : Nat) (hm : P.follows .mixedOrders = true) (hB : Region.lexTailB .any l.toArray n = true)
  (h : wpStill P l.toArray w.drew (fun a' => wpList P l.toArray Q (l.drop n) a' w.drew) (l.take n) (fr N f)) : (Code.region id l.toArray true).wp P Q (fr N f) w := wp_region_still_tail n hm hB h
theorem ret1 {fn : Func} {R : Ending → World → Prop} {t : Nat} {v : Value} (hr : fn.results = #[.tmp t]) (hv : ev N f (.tmp t) = v) (h : R (.returned v) w) : bodyPost P fn R .ret (fr N f) w := by
 refine bodyPost_ret (results_tmp hr _ _ _) rfl ?_
 have : (fr N f).tmps.getD t undef = v := by rw [← hv, ← fr_eval]; rfl
 rw [this]; exact h
theorem ret2 {fn : Func} {R : Ending → World → Prop} {t u : Nat} {v x : Value} (hr : fn.results = #[.tmp t, .tmp u]) (hv : ev N f (.tmp t) = v) (hx : ev N f (.tmp u) = x)
  (h : R (.returned (.tuple #[v, x])) w) : bodyPost P fn R .ret (fr N f) w := by
 refine bodyPost_ret (results_tmp2 hr _ _ _) rfl ?_
 have e1 : (fr N f).tmps.getD t undef = v := by rw [← hv, ← fr_eval]; rfl
 have e2 : (fr N f).tmps.getD u undef = x := by rw [← hx, ← fr_eval]; rfl
 rw [e1, e2]; exact h
theorem ret3 {fn : Func} {R : Ending → World → Prop} {t u s : Nat} {v x y : Value} (hr : fn.results = #[.tmp t, .tmp u, .tmp s]) (hv : ev N f (.tmp t) = v) (hx : ev N f (.tmp u) = x) (hy : ev N f (.tmp s) = y)
  (h : R (.returned (.tuple #[v, x, y])) w) : bodyPost P fn R .ret (fr N f) w := by
 have e1 : (fr N f).tmps.getD t undef = v := by rw [← hv, ← fr_eval]; rfl
 have e2 : (fr N f).tmps.getD u undef = x := by rw [← hx, ← fr_eval]; rfl
 have e3 : (fr N f).tmps.getD s undef = y := by rw [← hy, ← fr_eval]; rfl
 refine bodyPost_ret (v := .tuple #[v, x, y]) ?_ rfl h
 rw [← e1, ← e2, ← e3]
 simp [results, hr]
theorem ret0 {fn : Func} {R : Ending → World → Prop} (hr : fn.results = #[]) (h : R (.returned (.tuple #[])) w) : bodyPost P fn R .ret (fr N f) w :=
 bodyPost_ret (results_none hr _ _ _) rfl h
theorem end0 {fn : Func} {R : Ending → World → Prop} (hr : fn.results = #[]) (h : R (.returned (.tuple #[])) w) : bodyPost P fn R .normal (fr N f) w :=
 bodyPost_end (results_none hr _ _ _) rfl h
end
end Go.Proofs.YtejeloeaklpinaaDoor
namespace Go.Proofs.YtejeloeaklpinaaDoor
theorem fa95_0 {ρ : Operand → Value} {d : Option Nat} {x : Operand} {ty : TypeId} {pos : String} {af : Array Edge} {gd : Option (Nat × Bool)} {w : World} {b : Nat} (h : ρ x = .pointer (some ⟨b, 0, none⟩)) : (execOp ρ ⟨d, .fieldAddr 95 x 0, ty, pos, af, gd⟩).run Tryd.prog w = .ok (.value (.pointer (some ⟨b, 0, none⟩))) w := by
 show (Instr.fieldAt 95 (ρ x) 0 >>= fun v => pure (Next.value v)).run Tryd.prog w = _
 rw [h]
 kernel_rfl
theorem fa95_1 {ρ : Operand → Value} {d : Option Nat} {x : Operand} {ty : TypeId} {pos : String} {af : Array Edge} {gd : Option (Nat × Bool)} {w : World} {b : Nat} (h : ρ x = .pointer (some ⟨b, 0, none⟩)) : (execOp ρ ⟨d, .fieldAddr 95 x 1, ty, pos, af, gd⟩).run Tryd.prog w = .ok (.value (.pointer (some ⟨b, 1, none⟩))) w := by
 show (Instr.fieldAt 95 (ρ x) 1 >>= fun v => pure (Next.value v)).run Tryd.prog w = _
 rw [h]
 kernel_rfl
theorem fa95_2 {ρ : Operand → Value} {d : Option Nat} {x : Operand} {ty : TypeId} {pos : String} {af : Array Edge} {gd : Option (Nat × Bool)} {w : World} {b : Nat} (h : ρ x = .pointer (some ⟨b, 0, none⟩)) : (execOp ρ ⟨d, .fieldAddr 95 x 2, ty, pos, af, gd⟩).run Tryd.prog w = .ok (.value (.pointer (some ⟨b, 2, none⟩))) w := by
 show (Instr.fieldAt 95 (ρ x) 2 >>= fun v => pure (Next.value v)).run Tryd.prog w = _
 rw [h]
 kernel_rfl
theorem fa95_3 {ρ : Operand → Value} {d : Option Nat} {x : Operand} {ty : TypeId} {pos : String} {af : Array Edge} {gd : Option (Nat × Bool)} {w : World} {b : Nat} (h : ρ x = .pointer (some ⟨b, 0, none⟩)) : (execOp ρ ⟨d, .fieldAddr 95 x 3, ty, pos, af, gd⟩).run Tryd.prog w = .ok (.value (.pointer (some ⟨b, 3, none⟩))) w := by
 show (Instr.fieldAt 95 (ρ x) 3 >>= fun v => pure (Next.value v)).run Tryd.prog w = _
 rw [h]
 kernel_rfl
theorem fa95_4 {ρ : Operand → Value} {d : Option Nat} {x : Operand} {ty : TypeId} {pos : String} {af : Array Edge} {gd : Option (Nat × Bool)} {w : World} {b : Nat} (h : ρ x = .pointer (some ⟨b, 0, none⟩)) : (execOp ρ ⟨d, .fieldAddr 95 x 4, ty, pos, af, gd⟩).run Tryd.prog w = .ok (.value (.pointer (some ⟨b, 4, none⟩))) w := by
 show (Instr.fieldAt 95 (ρ x) 4 >>= fun v => pure (Next.value v)).run Tryd.prog w = _
 rw [h]
 kernel_rfl
theorem fa95_5 {ρ : Operand → Value} {d : Option Nat} {x : Operand} {ty : TypeId} {pos : String} {af : Array Edge} {gd : Option (Nat × Bool)} {w : World} {b : Nat} (h : ρ x = .pointer (some ⟨b, 0, none⟩)) : (execOp ρ ⟨d, .fieldAddr 95 x 5, ty, pos, af, gd⟩).run Tryd.prog w = .ok (.value (.pointer (some ⟨b, 5, none⟩))) w := by
 show (Instr.fieldAt 95 (ρ x) 5 >>= fun v => pure (Next.value v)).run Tryd.prog w = _
 rw [h]
 kernel_rfl
theorem fa95_6 {ρ : Operand → Value} {d : Option Nat} {x : Operand} {ty : TypeId} {pos : String} {af : Array Edge} {gd : Option (Nat × Bool)} {w : World} {b : Nat} (h : ρ x = .pointer (some ⟨b, 0, none⟩)) : (execOp ρ ⟨d, .fieldAddr 95 x 6, ty, pos, af, gd⟩).run Tryd.prog w = .ok (.value (.pointer (some ⟨b, 520, none⟩))) w := by
 show (Instr.fieldAt 95 (ρ x) 6 >>= fun v => pure (Next.value v)).run Tryd.prog w = _
 rw [h]
 kernel_rfl
theorem fa95_7 {ρ : Operand → Value} {d : Option Nat} {x : Operand} {ty : TypeId} {pos : String} {af : Array Edge} {gd : Option (Nat × Bool)} {w : World} {b : Nat} (h : ρ x = .pointer (some ⟨b, 0, none⟩)) : (execOp ρ ⟨d, .fieldAddr 95 x 7, ty, pos, af, gd⟩).run Tryd.prog w = .ok (.value (.pointer (some ⟨b, 1035, none⟩))) w := by
 show (Instr.fieldAt 95 (ρ x) 7 >>= fun v => pure (Next.value v)).run Tryd.prog w = _
 rw [h]
 kernel_rfl
theorem fa95_8 {ρ : Operand → Value} {d : Option Nat} {x : Operand} {ty : TypeId} {pos : String} {af : Array Edge} {gd : Option (Nat × Bool)} {w : World} {b : Nat} (h : ρ x = .pointer (some ⟨b, 0, none⟩)) : (execOp ρ ⟨d, .fieldAddr 95 x 8, ty, pos, af, gd⟩).run Tryd.prog w = .ok (.value (.pointer (some ⟨b, 1036, none⟩))) w := by
 show (Instr.fieldAt 95 (ρ x) 8 >>= fun v => pure (Next.value v)).run Tryd.prog w = _
 rw [h]
 kernel_rfl
theorem fa95_9 {ρ : Operand → Value} {d : Option Nat} {x : Operand} {ty : TypeId} {pos : String} {af : Array Edge} {gd : Option (Nat × Bool)} {w : World} {b : Nat} (h : ρ x = .pointer (some ⟨b, 0, none⟩)) : (execOp ρ ⟨d, .fieldAddr 95 x 9, ty, pos, af, gd⟩).run Tryd.prog w = .ok (.value (.pointer (some ⟨b, 1037, none⟩))) w := by
 show (Instr.fieldAt 95 (ρ x) 9 >>= fun v => pure (Next.value v)).run Tryd.prog w = _
 rw [h]
 kernel_rfl
theorem fa95_10 {ρ : Operand → Value} {d : Option Nat} {x : Operand} {ty : TypeId} {pos : String} {af : Array Edge} {gd : Option (Nat × Bool)} {w : World} {b : Nat} (h : ρ x = .pointer (some ⟨b, 0, none⟩)) : (execOp ρ ⟨d, .fieldAddr 95 x 10, ty, pos, af, gd⟩).run Tryd.prog w = .ok (.value (.pointer (some ⟨b, 1041, none⟩))) w := by
 show (Instr.fieldAt 95 (ρ x) 10 >>= fun v => pure (Next.value v)).run Tryd.prog w = _
 rw [h]
 kernel_rfl
theorem fa95_11 {ρ : Operand → Value} {d : Option Nat} {x : Operand} {ty : TypeId} {pos : String} {af : Array Edge} {gd : Option (Nat × Bool)} {w : World} {b : Nat} (h : ρ x = .pointer (some ⟨b, 0, none⟩)) : (execOp ρ ⟨d, .fieldAddr 95 x 11, ty, pos, af, gd⟩).run Tryd.prog w = .ok (.value (.pointer (some ⟨b, 1045, none⟩))) w := by
 show (Instr.fieldAt 95 (ρ x) 11 >>= fun v => pure (Next.value v)).run Tryd.prog w = _
 rw [h]
 kernel_rfl
theorem fa95_12 {ρ : Operand → Value} {d : Option Nat} {x : Operand} {ty : TypeId} {pos : String} {af : Array Edge} {gd : Option (Nat × Bool)} {w : World} {b : Nat} (h : ρ x = .pointer (some ⟨b, 0, none⟩)) : (execOp ρ ⟨d, .fieldAddr 95 x 12, ty, pos, af, gd⟩).run Tryd.prog w = .ok (.value (.pointer (some ⟨b, 1046, none⟩))) w := by
 show (Instr.fieldAt 95 (ρ x) 12 >>= fun v => pure (Next.value v)).run Tryd.prog w = _
 rw [h]
 kernel_rfl
theorem fa95_13 {ρ : Operand → Value} {d : Option Nat} {x : Operand} {ty : TypeId} {pos : String} {af : Array Edge} {gd : Option (Nat × Bool)} {w : World} {b : Nat} (h : ρ x = .pointer (some ⟨b, 0, none⟩)) : (execOp ρ ⟨d, .fieldAddr 95 x 13, ty, pos, af, gd⟩).run Tryd.prog w = .ok (.value (.pointer (some ⟨b, 1047, none⟩))) w := by
 show (Instr.fieldAt 95 (ρ x) 13 >>= fun v => pure (Next.value v)).run Tryd.prog w = _
 rw [h]
 kernel_rfl
theorem fa95_14 {ρ : Operand → Value} {d : Option Nat} {x : Operand} {ty : TypeId} {pos : String} {af : Array Edge} {gd : Option (Nat × Bool)} {w : World} {b : Nat} (h : ρ x = .pointer (some ⟨b, 0, none⟩)) : (execOp ρ ⟨d, .fieldAddr 95 x 14, ty, pos, af, gd⟩).run Tryd.prog w = .ok (.value (.pointer (some ⟨b, 1048, none⟩))) w := by
 show (Instr.fieldAt 95 (ρ x) 14 >>= fun v => pure (Next.value v)).run Tryd.prog w = _
 rw [h]
 kernel_rfl
theorem fa95_15 {ρ : Operand → Value} {d : Option Nat} {x : Operand} {ty : TypeId} {pos : String} {af : Array Edge} {gd : Option (Nat × Bool)} {w : World} {b : Nat} (h : ρ x = .pointer (some ⟨b, 0, none⟩)) : (execOp ρ ⟨d, .fieldAddr 95 x 15, ty, pos, af, gd⟩).run Tryd.prog w = .ok (.value (.pointer (some ⟨b, 1049, none⟩))) w := by
 show (Instr.fieldAt 95 (ρ x) 15 >>= fun v => pure (Next.value v)).run Tryd.prog w = _
 rw [h]
 kernel_rfl
theorem fa95_16 {ρ : Operand → Value} {d : Option Nat} {x : Operand} {ty : TypeId} {pos : String} {af : Array Edge} {gd : Option (Nat × Bool)} {w : World} {b : Nat} (h : ρ x = .pointer (some ⟨b, 0, none⟩)) : (execOp ρ ⟨d, .fieldAddr 95 x 16, ty, pos, af, gd⟩).run Tryd.prog w = .ok (.value (.pointer (some ⟨b, 1050, none⟩))) w := by
 show (Instr.fieldAt 95 (ρ x) 16 >>= fun v => pure (Next.value v)).run Tryd.prog w = _
 rw [h]
 kernel_rfl
theorem fa95_17 {ρ : Operand → Value} {d : Option Nat} {x : Operand} {ty : TypeId} {pos : String} {af : Array Edge} {gd : Option (Nat × Bool)} {w : World} {b : Nat} (h : ρ x = .pointer (some ⟨b, 0, none⟩)) : (execOp ρ ⟨d, .fieldAddr 95 x 17, ty, pos, af, gd⟩).run Tryd.prog w = .ok (.value (.pointer (some ⟨b, 1051, none⟩))) w := by
 show (Instr.fieldAt 95 (ρ x) 17 >>= fun v => pure (Next.value v)).run Tryd.prog w = _
 rw [h]
 kernel_rfl
theorem fa95_18 {ρ : Operand → Value} {d : Option Nat} {x : Operand} {ty : TypeId} {pos : String} {af : Array Edge} {gd : Option (Nat × Bool)} {w : World} {b : Nat} (h : ρ x = .pointer (some ⟨b, 0, none⟩)) : (execOp ρ ⟨d, .fieldAddr 95 x 18, ty, pos, af, gd⟩).run Tryd.prog w = .ok (.value (.pointer (some ⟨b, 1052, none⟩))) w := by
 show (Instr.fieldAt 95 (ρ x) 18 >>= fun v => pure (Next.value v)).run Tryd.prog w = _
 rw [h]
 kernel_rfl
theorem fa95_19 {ρ : Operand → Value} {d : Option Nat} {x : Operand} {ty : TypeId} {pos : String} {af : Array Edge} {gd : Option (Nat × Bool)} {w : World} {b : Nat} (h : ρ x = .pointer (some ⟨b, 0, none⟩)) : (execOp ρ ⟨d, .fieldAddr 95 x 19, ty, pos, af, gd⟩).run Tryd.prog w = .ok (.value (.pointer (some ⟨b, 1053, none⟩))) w := by
 show (Instr.fieldAt 95 (ρ x) 19 >>= fun v => pure (Next.value v)).run Tryd.prog w = _
 rw [h]
 kernel_rfl
theorem fb86_0 {ρ : Operand → Value} {d : Option Nat} {x : Operand} {ty : TypeId} {pos : String} {af : Array Edge} {gd : Option (Nat × Bool)} {w : World} {b o : Nat} (h : ρ x = .pointer (some ⟨b, o, none⟩)) : (execOp ρ ⟨d, .fieldAddr 86 x 0, ty, pos, af, gd⟩).run Tryd.prog w = .ok (.value (.pointer (some ⟨b, o, none⟩))) w := by
 show (Instr.fieldAt 86 (ρ x) 0 >>= fun v => pure (Next.value v)).run Tryd.prog w = _
 rw [h]
 kernel_rfl
theorem fb86_1 {ρ : Operand → Value} {d : Option Nat} {x : Operand} {ty : TypeId} {pos : String} {af : Array Edge} {gd : Option (Nat × Bool)} {w : World} {b o : Nat} (h : ρ x = .pointer (some ⟨b, o, none⟩)) : (execOp ρ ⟨d, .fieldAddr 86 x 1, ty, pos, af, gd⟩).run Tryd.prog w = .ok (.value (.pointer (some ⟨b, o + 1, none⟩))) w := by
 show (Instr.fieldAt 86 (ρ x) 1 >>= fun v => pure (Next.value v)).run Tryd.prog w = _
 rw [h]
 kernel_rfl
theorem fb86_2 {ρ : Operand → Value} {d : Option Nat} {x : Operand} {ty : TypeId} {pos : String} {af : Array Edge} {gd : Option (Nat × Bool)} {w : World} {b o : Nat} (h : ρ x = .pointer (some ⟨b, o, none⟩)) : (execOp ρ ⟨d, .fieldAddr 86 x 2, ty, pos, af, gd⟩).run Tryd.prog w = .ok (.value (.pointer (some ⟨b, o + 513, none⟩))) w := by
 show (Instr.fieldAt 86 (ρ x) 2 >>= fun v => pure (Next.value v)).run Tryd.prog w = _
 rw [h]
 kernel_rfl
theorem fb86_3 {ρ : Operand → Value} {d : Option Nat} {x : Operand} {ty : TypeId} {pos : String} {af : Array Edge} {gd : Option (Nat × Bool)} {w : World} {b o : Nat} (h : ρ x = .pointer (some ⟨b, o, none⟩)) : (execOp ρ ⟨d, .fieldAddr 86 x 3, ty, pos, af, gd⟩).run Tryd.prog w = .ok (.value (.pointer (some ⟨b, o + 514, none⟩))) w := by
 show (Instr.fieldAt 86 (ρ x) 3 >>= fun v => pure (Next.value v)).run Tryd.prog w = _
 rw [h]
 kernel_rfl
theorem fa70_0 {ρ : Operand → Value} {d : Option Nat} {x : Operand} {ty : TypeId} {pos : String} {af : Array Edge} {gd : Option (Nat × Bool)} {w : World} {b : Nat} (h : ρ x = .pointer (some ⟨b, 0, none⟩)) : (execOp ρ ⟨d, .fieldAddr 70 x 0, ty, pos, af, gd⟩).run Tryd.prog w = .ok (.value (.pointer (some ⟨b, 0, none⟩))) w := by
 show (Instr.fieldAt 70 (ρ x) 0 >>= fun v => pure (Next.value v)).run Tryd.prog w = _
 rw [h]
 kernel_rfl
theorem fa70_1 {ρ : Operand → Value} {d : Option Nat} {x : Operand} {ty : TypeId} {pos : String} {af : Array Edge} {gd : Option (Nat × Bool)} {w : World} {b : Nat} (h : ρ x = .pointer (some ⟨b, 0, none⟩)) : (execOp ρ ⟨d, .fieldAddr 70 x 1, ty, pos, af, gd⟩).run Tryd.prog w = .ok (.value (.pointer (some ⟨b, 1, none⟩))) w := by
 show (Instr.fieldAt 70 (ρ x) 1 >>= fun v => pure (Next.value v)).run Tryd.prog w = _
 rw [h]
 kernel_rfl
theorem fa70_2 {ρ : Operand → Value} {d : Option Nat} {x : Operand} {ty : TypeId} {pos : String} {af : Array Edge} {gd : Option (Nat × Bool)} {w : World} {b : Nat} (h : ρ x = .pointer (some ⟨b, 0, none⟩)) : (execOp ρ ⟨d, .fieldAddr 70 x 2, ty, pos, af, gd⟩).run Tryd.prog w = .ok (.value (.pointer (some ⟨b, 2, none⟩))) w := by
 show (Instr.fieldAt 70 (ρ x) 2 >>= fun v => pure (Next.value v)).run Tryd.prog w = _
 rw [h]
 kernel_rfl
theorem fa53_0 {ρ : Operand → Value} {d : Option Nat} {x : Operand} {ty : TypeId} {pos : String} {af : Array Edge} {gd : Option (Nat × Bool)} {w : World} {b : Nat} (h : ρ x = .pointer (some ⟨b, 0, none⟩)) : (execOp ρ ⟨d, .fieldAddr 53 x 0, ty, pos, af, gd⟩).run Tryd.prog w = .ok (.value (.pointer (some ⟨b, 0, none⟩))) w := by
 show (Instr.fieldAt 53 (ρ x) 0 >>= fun v => pure (Next.value v)).run Tryd.prog w = _
 rw [h]
 kernel_rfl
theorem fa53_1 {ρ : Operand → Value} {d : Option Nat} {x : Operand} {ty : TypeId} {pos : String} {af : Array Edge} {gd : Option (Nat × Bool)} {w : World} {b : Nat} (h : ρ x = .pointer (some ⟨b, 0, none⟩)) : (execOp ρ ⟨d, .fieldAddr 53 x 1, ty, pos, af, gd⟩).run Tryd.prog w = .ok (.value (.pointer (some ⟨b, 1, none⟩))) w := by
 show (Instr.fieldAt 53 (ρ x) 1 >>= fun v => pure (Next.value v)).run Tryd.prog w = _
 rw [h]
 kernel_rfl
theorem fa53_2 {ρ : Operand → Value} {d : Option Nat} {x : Operand} {ty : TypeId} {pos : String} {af : Array Edge} {gd : Option (Nat × Bool)} {w : World} {b : Nat} (h : ρ x = .pointer (some ⟨b, 0, none⟩)) : (execOp ρ ⟨d, .fieldAddr 53 x 2, ty, pos, af, gd⟩).run Tryd.prog w = .ok (.value (.pointer (some ⟨b, 2, none⟩))) w := by
 show (Instr.fieldAt 53 (ρ x) 2 >>= fun v => pure (Next.value v)).run Tryd.prog w = _
 rw [h]
 kernel_rfl
theorem fa53_3 {ρ : Operand → Value} {d : Option Nat} {x : Operand} {ty : TypeId} {pos : String} {af : Array Edge} {gd : Option (Nat × Bool)} {w : World} {b : Nat} (h : ρ x = .pointer (some ⟨b, 0, none⟩)) : (execOp ρ ⟨d, .fieldAddr 53 x 3, ty, pos, af, gd⟩).run Tryd.prog w = .ok (.value (.pointer (some ⟨b, 3, none⟩))) w := by
 show (Instr.fieldAt 53 (ρ x) 3 >>= fun v => pure (Next.value v)).run Tryd.prog w = _
 rw [h]
 kernel_rfl
theorem fa53_4 {ρ : Operand → Value} {d : Option Nat} {x : Operand} {ty : TypeId} {pos : String} {af : Array Edge} {gd : Option (Nat × Bool)} {w : World} {b : Nat} (h : ρ x = .pointer (some ⟨b, 0, none⟩)) : (execOp ρ ⟨d, .fieldAddr 53 x 4, ty, pos, af, gd⟩).run Tryd.prog w = .ok (.value (.pointer (some ⟨b, 4, none⟩))) w := by
 show (Instr.fieldAt 53 (ρ x) 4 >>= fun v => pure (Next.value v)).run Tryd.prog w = _
 rw [h]
 kernel_rfl
theorem fa53_5 {ρ : Operand → Value} {d : Option Nat} {x : Operand} {ty : TypeId} {pos : String} {af : Array Edge} {gd : Option (Nat × Bool)} {w : World} {b : Nat} (h : ρ x = .pointer (some ⟨b, 0, none⟩)) : (execOp ρ ⟨d, .fieldAddr 53 x 5, ty, pos, af, gd⟩).run Tryd.prog w = .ok (.value (.pointer (some ⟨b, 5, none⟩))) w := by
 show (Instr.fieldAt 53 (ρ x) 5 >>= fun v => pure (Next.value v)).run Tryd.prog w = _
 rw [h]
 kernel_rfl
theorem fa56_0 {ρ : Operand → Value} {d : Option Nat} {x : Operand} {ty : TypeId} {pos : String} {af : Array Edge} {gd : Option (Nat × Bool)} {w : World} {b : Nat} (h : ρ x = .pointer (some ⟨b, 0, none⟩)) : (execOp ρ ⟨d, .fieldAddr 56 x 0, ty, pos, af, gd⟩).run Tryd.prog w = .ok (.value (.pointer (some ⟨b, 0, none⟩))) w := by
 show (Instr.fieldAt 56 (ρ x) 0 >>= fun v => pure (Next.value v)).run Tryd.prog w = _
 rw [h]
 kernel_rfl
theorem fa56_1 {ρ : Operand → Value} {d : Option Nat} {x : Operand} {ty : TypeId} {pos : String} {af : Array Edge} {gd : Option (Nat × Bool)} {w : World} {b : Nat} (h : ρ x = .pointer (some ⟨b, 0, none⟩)) : (execOp ρ ⟨d, .fieldAddr 56 x 1, ty, pos, af, gd⟩).run Tryd.prog w = .ok (.value (.pointer (some ⟨b, 1, none⟩))) w := by
 show (Instr.fieldAt 56 (ρ x) 1 >>= fun v => pure (Next.value v)).run Tryd.prog w = _
 rw [h]
 kernel_rfl
theorem fa56_2 {ρ : Operand → Value} {d : Option Nat} {x : Operand} {ty : TypeId} {pos : String} {af : Array Edge} {gd : Option (Nat × Bool)} {w : World} {b : Nat} (h : ρ x = .pointer (some ⟨b, 0, none⟩)) : (execOp ρ ⟨d, .fieldAddr 56 x 2, ty, pos, af, gd⟩).run Tryd.prog w = .ok (.value (.pointer (some ⟨b, 2, none⟩))) w := by
 show (Instr.fieldAt 56 (ρ x) 2 >>= fun v => pure (Next.value v)).run Tryd.prog w = _
 rw [h]
 kernel_rfl
theorem fa31_1 {ρ : Operand → Value} {d : Option Nat} {x : Operand} {ty : TypeId} {pos : String} {af : Array Edge} {gd : Option (Nat × Bool)} {w : World} {b : Nat} (h : ρ x = .pointer (some ⟨b, 0, none⟩)) : (execOp ρ ⟨d, .fieldAddr 31 x 1, ty, pos, af, gd⟩).run Tryd.prog w = .ok (.value (.pointer (some ⟨b, 1, none⟩))) w := by
 show (Instr.fieldAt 31 (ρ x) 1 >>= fun v => pure (Next.value v)).run Tryd.prog w = _
 rw [h]
 kernel_rfl
end Go.Proofs.YtejeloeaklpinaaDoor
namespace Go.Proofs.YtejeloeaklpinaaDoor
section
variable {ρ : Operand → Value} {d : Option Nat} {x y z : Operand} {ty : TypeId} {pos : String} {af : Array Edge} {gd : Option (Nat × Bool)} {w : World}
theorem mv {v : Value} (h : ρ x = v) : (execOp ρ ⟨d, .move x, ty, pos, af, gd⟩).run Tryd.prog w = .ok (.value v) w := by subst h; rfl
theorem asg {v : Value} (h : ρ x = v) : (execOp ρ ⟨d, .assign x, ty, pos, af, gd⟩).run Tryd.prog w = .ok (.value v) w := by subst h; rfl
theorem nilP {a : Addr} (h : ρ x = .pointer (some a)) : (execOp ρ ⟨d, .nilCheck x, ty, pos, af, gd⟩).run Tryd.prog w = .ok (.value (.pointer (some a))) w := by
 simp only [execOp, h]; rfl
theorem pick {b : Bool} {u v : Value} (hx : ρ x = .bool b) (hy : ρ y = u) (hz : ρ z = v) : (execOp ρ ⟨d, .pick x y z, ty, pos, af, gd⟩).run Tryd.prog w = .ok (.value (if b then u else v)) w := by
 simp only [execOp, hx, hy, hz, asBool]; cases b <;> rfl
theorem ext {vs : Array Value} {i : Nat} {v : Value} (hx : ρ x = .tuple vs) (hv : vs[i]? = some v) : (execOp ρ ⟨d, .extract x i, ty, pos, af, gd⟩).run Tryd.prog w = .ok (.value v) w := by
 simp only [execOp, hx, Instr.extract, hv]; rfl
theorem ld_any (t : TypeId) {a : Addr} {v : Value} (ht : (isAgg t).run Tryd.prog w = .ok false w) (hx : ρ x = .pointer (some a)) (hc : w.cell? a = some v) :
  (execOp ρ ⟨d, .load t x, ty, pos, af, gd⟩).run Tryd.prog w = .ok (.value v) w := by
 simp [execOp, hx, Instr.loadAt, Instr.sureAddr, loadVar, ht, hc]
theorem cells_one {v : Value} (h : v.oneCell' = true) : v.cells = #[v] := by
 cases v <;> simp_all [Value.cells, Value.oneCell']
theorem st_any (t : TypeId) {a : Addr} {v u : Value} (ht : (sizeOf t).run Tryd.prog w = .ok 1 w) (hx : ρ x = .pointer (some a)) (hy : ρ y = v) (h1 : v.oneCell' = true) (hc : w.cell? a = some u) (hz : w.frozen? a = false) :
  (execOp ρ ⟨d, .store t x y, ty, pos, af, gd⟩).run Tryd.prog w = .ok .skip (w.setCell a v) := by
 have hs := run_store Tryd.prog w a v .plain h1
 have ha : a.add 0 = a := by simp [Addr.add]
 simp [execOp, hx, hy, Instr.storeAt, Instr.sureAddr, storeVar, ht, cells_one h1, storeCells, ha, hs, hc, hz]
/-- An operator on two integers. -/
theorem bi {op : BinOp} {xt yt : TypeId} {k k' : IntKind} {a b : Int} {v : Value} (hx : ρ x = .int k a) (hy : ρ y = .int k' b) (hb : binOp op xt (.int k a) (.int k' b) = pure v) :
  (execOp ρ ⟨d, .binOp op xt x y yt, ty, pos, af, gd⟩).run Tryd.prog w = .ok (.value v) w := by
 have he : eqGuard op xt x y (.int k a) (.int k' b) = pure () := by
  unfold eqGuard; cases op <;> rfl
 simp only [execOp, hx, hy, he, hb]
 rfl
theorem cv {s t : TypeId} {k k' : IntKind} {a : Int} (ht : ∀ w, (convert s t (.int k a)).run Tryd.prog w = .ok (.int k' (k'.wrap a)) w) (hx : ρ x = .int k a) :
  (execOp ρ ⟨d, .convert s t x, ty, pos, af, gd⟩).run Tryd.prog w = .ok (.value (.int k' (k'.wrap a))) w := by
 simp [execOp, hx, ht]
theorem un_not {t : TypeId} {b : Bool} (hx : ρ x = .bool b) : (execOp ρ ⟨d, .unOp .not t x, ty, pos, af, gd⟩).run Tryd.prog w = .ok (.value (.bool !b)) w := by
 simp only [execOp, hx, Op.unary]; rfl
theorem mkI {t : TypeId} {v : Value} (ht : ∀ w, (Instr.makeInterface t v).run Tryd.prog w = .ok (.iface t v) w) (hx : ρ x = v) :
  (execOp ρ ⟨d, .makeInterface t x, ty, pos, af, gd⟩).run Tryd.prog w = .ok (.value (.iface t v)) w := by
 simp [execOp, hx, ht]
/-- A function of the program that has a body. -/
structure Has (g : FuncId) (fn : Func) : Prop where
 func : Tryd.prog.funcs[g]? = some fn
 body : fn.body.isNone = false
 name : (fn.name == "runtime.NumGoroutine") = false
theorem cl {N : Nat} {f : Nat → Value} {g : FuncId} {fn : Func} (H : Has g fn) {k : Operand} {os : List Operand} {ts : Array TypeId} {vs : List Value} (hk : ev N f k = .func (.func g) #[] #[]) (hv : os.map (ev N f) = vs) :
  (execOp (ev N f) ⟨d, .call ⟨.value k, os.toArray, ts⟩, ty, pos, af, gd⟩).run Tryd.prog w = .ok (.enter g vs.toArray) w := by
 subst hv
 have h3 : ¬ fn.name = "runtime.NumGoroutine" := by simpa using H.name
 have h4 : ¬ fn.body = none := by intro he; have := H.body; rw [he] at this; cases this
 simp [execOp, resolve, hk, Deferred.ofValue, invoke, callFunc, H.func, h4, h3]
theorem cl0 {N : Nat} {f : Nat → Value} {g : FuncId} {fn : Func} (H : Has g fn) {k : Operand} {ts : Array TypeId} (hk : ev N f k = .func (.func g) #[] #[]) :
  (execOp (ev N f) ⟨d, .call ⟨.value k, #[], ts⟩, ty, pos, af, gd⟩).run Tryd.prog w = .ok (.enter g #[]) w := cl H (os := []) (vs := []) hk rfl
theorem cl1 {N : Nat} {f : Nat → Value} {g : FuncId} {fn : Func} (H : Has g fn) {k o1 : Operand} {ts : Array TypeId} {v1 : Value} (hk : ev N f k = .func (.func g) #[] #[]) (h1 : ev N f o1 = v1) :
  (execOp (ev N f) ⟨d, .call ⟨.value k, #[o1], ts⟩, ty, pos, af, gd⟩).run Tryd.prog w = .ok (.enter g #[v1]) w := cl H (os := [o1]) (vs := [v1]) hk (by simp [h1])
theorem cl2 {N : Nat} {f : Nat → Value} {g : FuncId} {fn : Func} (H : Has g fn) {k o1 o2 : Operand} {ts : Array TypeId} {v1 v2 : Value} (hk : ev N f k = .func (.func g) #[] #[]) (h1 : ev N f o1 = v1) (h2 : ev N f o2 = v2) :
  (execOp (ev N f) ⟨d, .call ⟨.value k, #[o1, o2], ts⟩, ty, pos, af, gd⟩).run Tryd.prog w = .ok (.enter g #[v1, v2]) w := cl H (os := [o1, o2]) (vs := [v1, v2]) hk (by simp [h1, h2])
theorem cl3 {N : Nat} {f : Nat → Value} {g : FuncId} {fn : Func} (H : Has g fn) {k o1 o2 o3 : Operand} {ts : Array TypeId} {v1 v2 v3 : Value} (hk : ev N f k = .func (.func g) #[] #[]) (h1 : ev N f o1 = v1) (h2 : ev N f o2 = v2) (h3 : ev N f o3 = v3) :
  (execOp (ev N f) ⟨d, .call ⟨.value k, #[o1, o2, o3], ts⟩, ty, pos, af, gd⟩).run Tryd.prog w = .ok (.enter g #[v1, v2, v3]) w := cl H (os := [o1, o2, o3]) (vs := [v1, v2, v3]) hk (by simp [h1, h2, h3])
theorem cl4 {N : Nat} {f : Nat → Value} {g : FuncId} {fn : Func} (H : Has g fn) {k o1 o2 o3 o4 : Operand} {ts : Array TypeId} {v1 v2 v3 v4 : Value} (hk : ev N f k = .func (.func g) #[] #[]) (h1 : ev N f o1 = v1) (h2 : ev N f o2 = v2) (h3 : ev N f o3 = v3) (h4 : ev N f o4 = v4) :
  (execOp (ev N f) ⟨d, .call ⟨.value k, #[o1, o2, o3, o4], ts⟩, ty, pos, af, gd⟩).run Tryd.prog w = .ok (.enter g #[v1, v2, v3, v4]) w := cl H (os := [o1, o2, o3, o4]) (vs := [v1, v2, v3, v4]) hk (by simp [h1, h2, h3, h4])
/-- A method called behind an interface. -/
theorem inv0 {N : Nat} {f : Nat → Value} {g : FuncId} {fn : Func} (H : Has g fn) {r : Operand} {m : String} {ts : Array TypeId} {t : TypeId} {v v' : Value} (hr : ev N f r = .iface t v)
  (hm : ∀ w, (method (158 + Made.depth) t v m).run Tryd.prog w = .ok (g, v') w) :
  (execOp (ev N f) ⟨d, .call ⟨.invoke r m, #[], ts⟩, ty, pos, af, gd⟩).run Tryd.prog w = .ok (.enter g #[v']) w := by
 have h3 : ¬ fn.name = "runtime.NumGoroutine" := by simpa using H.name
 have h4 : ¬ fn.body = none := by intro he; have := H.body; rw [he] at this; cases this
 simp [execOp, resolve, hr, invoke, callMethod, hm, callFunc, H.func, h4, h3]
theorem inv1 {N : Nat} {f : Nat → Value} {g : FuncId} {fn : Func} (H : Has g fn) {r o1 : Operand} {m : String} {ts : Array TypeId} {t : TypeId} {v v' v1 : Value} (hr : ev N f r = .iface t v)
  (hm : ∀ w, (method (158 + Made.depth) t v m).run Tryd.prog w = .ok (g, v') w) (h1 : ev N f o1 = v1) :
  (execOp (ev N f) ⟨d, .call ⟨.invoke r m, #[o1], ts⟩, ty, pos, af, gd⟩).run Tryd.prog w = .ok (.enter g #[v', v1]) w := by
 have h3 : ¬ fn.name = "runtime.NumGoroutine" := by simpa using H.name
 have h4 : ¬ fn.body = none := by intro he; have := H.body; rw [he] at this; cases this
 simp [execOp, resolve, hr, h1, invoke, callMethod, hm, callFunc, H.func, h4, h3]
end
theorem ag2 (w : World) : (isAgg 2).run Tryd.prog w = .ok false w := by kernel_rfl
theorem sz2 (w : World) : (sizeOf 2).run Tryd.prog w = .ok 1 w := by kernel_rfl
theorem ld2 {ρ : Operand → Value} {d : Option Nat} {x : Operand} {ty : TypeId} {pos : String} {af : Array Edge} {gd : Option (Nat × Bool)} {w : World} {a : Addr} {v : Value} (hx : ρ x = .pointer (some a)) (hc : w.cell? a = some v) : (execOp ρ ⟨d, .load 2 x, ty, pos, af, gd⟩).run Tryd.prog w = .ok (.value v) w := ld_any 2 (ag2 w) hx hc
theorem st2 {ρ : Operand → Value} {d : Option Nat} {x y : Operand} {ty : TypeId} {pos : String} {af : Array Edge} {gd : Option (Nat × Bool)} {w : World} {a : Addr} {v u : Value} (hx : ρ x = .pointer (some a)) (hy : ρ y = v) (h1 : v.oneCell' = true) (hc : w.cell? a = some u) (hz : w.frozen? a = false) : (execOp ρ ⟨d, .store 2 x y, ty, pos, af, gd⟩).run Tryd.prog w = .ok .skip (w.setCell a v) := st_any 2 (sz2 w) hx hy h1 hc hz
theorem ag3 (w : World) : (isAgg 3).run Tryd.prog w = .ok false w := by kernel_rfl
theorem sz3 (w : World) : (sizeOf 3).run Tryd.prog w = .ok 1 w := by kernel_rfl
theorem ld3 {ρ : Operand → Value} {d : Option Nat} {x : Operand} {ty : TypeId} {pos : String} {af : Array Edge} {gd : Option (Nat × Bool)} {w : World} {a : Addr} {v : Value} (hx : ρ x = .pointer (some a)) (hc : w.cell? a = some v) : (execOp ρ ⟨d, .load 3 x, ty, pos, af, gd⟩).run Tryd.prog w = .ok (.value v) w := ld_any 3 (ag3 w) hx hc
theorem st3 {ρ : Operand → Value} {d : Option Nat} {x y : Operand} {ty : TypeId} {pos : String} {af : Array Edge} {gd : Option (Nat × Bool)} {w : World} {a : Addr} {v u : Value} (hx : ρ x = .pointer (some a)) (hy : ρ y = v) (h1 : v.oneCell' = true) (hc : w.cell? a = some u) (hz : w.frozen? a = false) : (execOp ρ ⟨d, .store 3 x y, ty, pos, af, gd⟩).run Tryd.prog w = .ok .skip (w.setCell a v) := st_any 3 (sz3 w) hx hy h1 hc hz
theorem ag4 (w : World) : (isAgg 4).run Tryd.prog w = .ok false w := by kernel_rfl
theorem sz4 (w : World) : (sizeOf 4).run Tryd.prog w = .ok 1 w := by kernel_rfl
theorem ld4 {ρ : Operand → Value} {d : Option Nat} {x : Operand} {ty : TypeId} {pos : String} {af : Array Edge} {gd : Option (Nat × Bool)} {w : World} {a : Addr} {v : Value} (hx : ρ x = .pointer (some a)) (hc : w.cell? a = some v) : (execOp ρ ⟨d, .load 4 x, ty, pos, af, gd⟩).run Tryd.prog w = .ok (.value v) w := ld_any 4 (ag4 w) hx hc
theorem ag5 (w : World) : (isAgg 5).run Tryd.prog w = .ok false w := by kernel_rfl
theorem sz5 (w : World) : (sizeOf 5).run Tryd.prog w = .ok 1 w := by kernel_rfl
theorem ld5 {ρ : Operand → Value} {d : Option Nat} {x : Operand} {ty : TypeId} {pos : String} {af : Array Edge} {gd : Option (Nat × Bool)} {w : World} {a : Addr} {v : Value} (hx : ρ x = .pointer (some a)) (hc : w.cell? a = some v) : (execOp ρ ⟨d, .load 5 x, ty, pos, af, gd⟩).run Tryd.prog w = .ok (.value v) w := ld_any 5 (ag5 w) hx hc
theorem ag22 (w : World) : (isAgg 22).run Tryd.prog w = .ok false w := by kernel_rfl
theorem sz22 (w : World) : (sizeOf 22).run Tryd.prog w = .ok 1 w := by kernel_rfl
theorem ld22 {ρ : Operand → Value} {d : Option Nat} {x : Operand} {ty : TypeId} {pos : String} {af : Array Edge} {gd : Option (Nat × Bool)} {w : World} {a : Addr} {v : Value} (hx : ρ x = .pointer (some a)) (hc : w.cell? a = some v) : (execOp ρ ⟨d, .load 22 x, ty, pos, af, gd⟩).run Tryd.prog w = .ok (.value v) w := ld_any 22 (ag22 w) hx hc
theorem ag24 (w : World) : (isAgg 24).run Tryd.prog w = .ok false w := by kernel_rfl
theorem sz24 (w : World) : (sizeOf 24).run Tryd.prog w = .ok 1 w := by kernel_rfl
theorem ld24 {ρ : Operand → Value} {d : Option Nat} {x : Operand} {ty : TypeId} {pos : String} {af : Array Edge} {gd : Option (Nat × Bool)} {w : World} {a : Addr} {v : Value} (hx : ρ x = .pointer (some a)) (hc : w.cell? a = some v) : (execOp ρ ⟨d, .load 24 x, ty, pos, af, gd⟩).run Tryd.prog w = .ok (.value v) w := ld_any 24 (ag24 w) hx hc
theorem ag38 (w : World) : (isAgg 38).run Tryd.prog w = .ok false w := by kernel_rfl
theorem sz38 (w : World) : (sizeOf 38).run Tryd.prog w = .ok 1 w := by kernel_rfl
theorem ld38 {ρ : Operand → Value} {d : Option Nat} {x : Operand} {ty : TypeId} {pos : String} {af : Array Edge} {gd : Option (Nat × Bool)} {w : World} {a : Addr} {v : Value} (hx : ρ x = .pointer (some a)) (hc : w.cell? a = some v) : (execOp ρ ⟨d, .load 38 x, ty, pos, af, gd⟩).run Tryd.prog w = .ok (.value v) w := ld_any 38 (ag38 w) hx hc
theorem ag62 (w : World) : (isAgg 62).run Tryd.prog w = .ok false w := by kernel_rfl
theorem sz62 (w : World) : (sizeOf 62).run Tryd.prog w = .ok 1 w := by kernel_rfl
theorem ld62 {ρ : Operand → Value} {d : Option Nat} {x : Operand} {ty : TypeId} {pos : String} {af : Array Edge} {gd : Option (Nat × Bool)} {w : World} {a : Addr} {v : Value} (hx : ρ x = .pointer (some a)) (hc : w.cell? a = some v) : (execOp ρ ⟨d, .load 62 x, ty, pos, af, gd⟩).run Tryd.prog w = .ok (.value v) w := ld_any 62 (ag62 w) hx hc
theorem ag80 (w : World) : (isAgg 80).run Tryd.prog w = .ok false w := by kernel_rfl
theorem sz80 (w : World) : (sizeOf 80).run Tryd.prog w = .ok 1 w := by kernel_rfl
theorem ld80 {ρ : Operand → Value} {d : Option Nat} {x : Operand} {ty : TypeId} {pos : String} {af : Array Edge} {gd : Option (Nat × Bool)} {w : World} {a : Addr} {v : Value} (hx : ρ x = .pointer (some a)) (hc : w.cell? a = some v) : (execOp ρ ⟨d, .load 80 x, ty, pos, af, gd⟩).run Tryd.prog w = .ok (.value v) w := ld_any 80 (ag80 w) hx hc
theorem sz81 (w : World) : (sizeOf 81).run Tryd.prog w = .ok 1 w := by kernel_rfl
theorem ag82 (w : World) : (isAgg 82).run Tryd.prog w = .ok false w := by kernel_rfl
theorem sz82 (w : World) : (sizeOf 82).run Tryd.prog w = .ok 1 w := by kernel_rfl
theorem ld82 {ρ : Operand → Value} {d : Option Nat} {x : Operand} {ty : TypeId} {pos : String} {af : Array Edge} {gd : Option (Nat × Bool)} {w : World} {a : Addr} {v : Value} (hx : ρ x = .pointer (some a)) (hc : w.cell? a = some v) : (execOp ρ ⟨d, .load 82 x, ty, pos, af, gd⟩).run Tryd.prog w = .ok (.value v) w := ld_any 82 (ag82 w) hx hc
theorem ag84 (w : World) : (isAgg 84).run Tryd.prog w = .ok false w := by kernel_rfl
theorem sz84 (w : World) : (sizeOf 84).run Tryd.prog w = .ok 1 w := by kernel_rfl
theorem ld84 {ρ : Operand → Value} {d : Option Nat} {x : Operand} {ty : TypeId} {pos : String} {af : Array Edge} {gd : Option (Nat × Bool)} {w : World} {a : Addr} {v : Value} (hx : ρ x = .pointer (some a)) (hc : w.cell? a = some v) : (execOp ρ ⟨d, .load 84 x, ty, pos, af, gd⟩).run Tryd.prog w = .ok (.value v) w := ld_any 84 (ag84 w) hx hc
theorem ag87 (w : World) : (isAgg 87).run Tryd.prog w = .ok false w := by kernel_rfl
theorem sz87 (w : World) : (sizeOf 87).run Tryd.prog w = .ok 1 w := by kernel_rfl
theorem ld87 {ρ : Operand → Value} {d : Option Nat} {x : Operand} {ty : TypeId} {pos : String} {af : Array Edge} {gd : Option (Nat × Bool)} {w : World} {a : Addr} {v : Value} (hx : ρ x = .pointer (some a)) (hc : w.cell? a = some v) : (execOp ρ ⟨d, .load 87 x, ty, pos, af, gd⟩).run Tryd.prog w = .ok (.value v) w := ld_any 87 (ag87 w) hx hc
theorem ag88 (w : World) : (isAgg 88).run Tryd.prog w = .ok false w := by kernel_rfl
theorem sz88 (w : World) : (sizeOf 88).run Tryd.prog w = .ok 1 w := by kernel_rfl
theorem ld88 {ρ : Operand → Value} {d : Option Nat} {x : Operand} {ty : TypeId} {pos : String} {af : Array Edge} {gd : Option (Nat × Bool)} {w : World} {a : Addr} {v : Value} (hx : ρ x = .pointer (some a)) (hc : w.cell? a = some v) : (execOp ρ ⟨d, .load 88 x, ty, pos, af, gd⟩).run Tryd.prog w = .ok (.value v) w := ld_any 88 (ag88 w) hx hc
theorem ag92 (w : World) : (isAgg 92).run Tryd.prog w = .ok false w := by kernel_rfl
theorem sz92 (w : World) : (sizeOf 92).run Tryd.prog w = .ok 1 w := by kernel_rfl
theorem ld92 {ρ : Operand → Value} {d : Option Nat} {x : Operand} {ty : TypeId} {pos : String} {af : Array Edge} {gd : Option (Nat × Bool)} {w : World} {a : Addr} {v : Value} (hx : ρ x = .pointer (some a)) (hc : w.cell? a = some v) : (execOp ρ ⟨d, .load 92 x, ty, pos, af, gd⟩).run Tryd.prog w = .ok (.value v) w := ld_any 92 (ag92 w) hx hc
theorem ag93 (w : World) : (isAgg 93).run Tryd.prog w = .ok false w := by kernel_rfl
theorem sz93 (w : World) : (sizeOf 93).run Tryd.prog w = .ok 1 w := by kernel_rfl
theorem ld93 {ρ : Operand → Value} {d : Option Nat} {x : Operand} {ty : TypeId} {pos : String} {af : Array Edge} {gd : Option (Nat × Bool)} {w : World} {a : Addr} {v : Value} (hx : ρ x = .pointer (some a)) (hc : w.cell? a = some v) : (execOp ρ ⟨d, .load 93 x, ty, pos, af, gd⟩).run Tryd.prog w = .ok (.value v) w := ld_any 93 (ag93 w) hx hc
theorem ag130 (w : World) : (isAgg 130).run Tryd.prog w = .ok false w := by kernel_rfl
theorem sz130 (w : World) : (sizeOf 130).run Tryd.prog w = .ok 1 w := by kernel_rfl
theorem ld130 {ρ : Operand → Value} {d : Option Nat} {x : Operand} {ty : TypeId} {pos : String} {af : Array Edge} {gd : Option (Nat × Bool)} {w : World} {a : Addr} {v : Value} (hx : ρ x = .pointer (some a)) (hc : w.cell? a = some v) : (execOp ρ ⟨d, .load 130 x, ty, pos, af, gd⟩).run Tryd.prog w = .ok (.value v) w := ld_any 130 (ag130 w) hx hc
theorem st130 {ρ : Operand → Value} {d : Option Nat} {x y : Operand} {ty : TypeId} {pos : String} {af : Array Edge} {gd : Option (Nat × Bool)} {w : World} {a : Addr} {v u : Value} (hx : ρ x = .pointer (some a)) (hy : ρ y = v) (h1 : v.oneCell' = true) (hc : w.cell? a = some u) (hz : w.frozen? a = false) : (execOp ρ ⟨d, .store 130 x y, ty, pos, af, gd⟩).run Tryd.prog w = .ok .skip (w.setCell a v) := st_any 130 (sz130 w) hx hy h1 hc hz
theorem has9 : Has 9 Tryd.f9 := ⟨Tryd.func9, by kernel_rfl, by kernel_rfl⟩
theorem has11 : Has 11 Tryd.f11 := ⟨Tryd.func11, by kernel_rfl, by kernel_rfl⟩
theorem has14 : Has 14 Tryd.f14 := ⟨Tryd.func14, by kernel_rfl, by kernel_rfl⟩
theorem has15 : Has 15 Tryd.f15 := ⟨Tryd.func15, by kernel_rfl, by kernel_rfl⟩
theorem has16 : Has 16 Tryd.f16 := ⟨Tryd.func16, by kernel_rfl, by kernel_rfl⟩
theorem has17 : Has 17 Tryd.f17 := ⟨Tryd.func17, by kernel_rfl, by kernel_rfl⟩
theorem has18 : Has 18 Tryd.f18 := ⟨Tryd.func18, by kernel_rfl, by kernel_rfl⟩
theorem has19 : Has 19 Tryd.f19 := ⟨Tryd.func19, by kernel_rfl, by kernel_rfl⟩
theorem has20 : Has 20 Tryd.f20 := ⟨Tryd.func20, by kernel_rfl, by kernel_rfl⟩
theorem has21 : Has 21 Tryd.f21 := ⟨Tryd.func21, by kernel_rfl, by kernel_rfl⟩
theorem has22 : Has 22 Tryd.f22 := ⟨Tryd.func22, by kernel_rfl, by kernel_rfl⟩
theorem has23 : Has 23 Tryd.f23 := ⟨Tryd.func23, by kernel_rfl, by kernel_rfl⟩
theorem has24 : Has 24 Tryd.f24 := ⟨Tryd.func24, by kernel_rfl, by kernel_rfl⟩
theorem has25 : Has 25 Tryd.f25 := ⟨Tryd.func25, by kernel_rfl, by kernel_rfl⟩
theorem has26 : Has 26 Tryd.f26 := ⟨Tryd.func26, by kernel_rfl, by kernel_rfl⟩
theorem has27 : Has 27 Tryd.f27 := ⟨Tryd.func27, by kernel_rfl, by kernel_rfl⟩
theorem has28 : Has 28 Tryd.f28 := ⟨Tryd.func28, by kernel_rfl, by kernel_rfl⟩
theorem has29 : Has 29 Tryd.f29 := ⟨Tryd.func29, by kernel_rfl, by kernel_rfl⟩
theorem has30 : Has 30 Tryd.f30 := ⟨Tryd.func30, by kernel_rfl, by kernel_rfl⟩
theorem has31 : Has 31 Tryd.f31 := ⟨Tryd.func31, by kernel_rfl, by kernel_rfl⟩
theorem has32 : Has 32 Tryd.f32 := ⟨Tryd.func32, by kernel_rfl, by kernel_rfl⟩
theorem has33 : Has 33 Tryd.f33 := ⟨Tryd.func33, by kernel_rfl, by kernel_rfl⟩
theorem has34 : Has 34 Tryd.f34 := ⟨Tryd.func34, by kernel_rfl, by kernel_rfl⟩
theorem has35 : Has 35 Tryd.f35 := ⟨Tryd.func35, by kernel_rfl, by kernel_rfl⟩
theorem has36 : Has 36 Tryd.f36 := ⟨Tryd.func36, by kernel_rfl, by kernel_rfl⟩
theorem has37 : Has 37 Tryd.f37 := ⟨Tryd.func37, by kernel_rfl, by kernel_rfl⟩
theorem has38 : Has 38 Tryd.f38 := ⟨Tryd.func38, by kernel_rfl, by kernel_rfl⟩
theorem has41 : Has 41 Tryd.f41 := ⟨Tryd.func41, by kernel_rfl, by kernel_rfl⟩
theorem has42 : Has 42 Tryd.f42 := ⟨Tryd.func42, by kernel_rfl, by kernel_rfl⟩
theorem has43 : Has 43 Tryd.f43 := ⟨Tryd.func43, by kernel_rfl, by kernel_rfl⟩
theorem has44 : Has 44 Tryd.f44 := ⟨Tryd.func44, by kernel_rfl, by kernel_rfl⟩
theorem has45 : Has 45 Tryd.f45 := ⟨Tryd.func45, by kernel_rfl, by kernel_rfl⟩
theorem has48 : Has 48 Tryd.f48 := ⟨Tryd.func48, by kernel_rfl, by kernel_rfl⟩
theorem has49 : Has 49 Tryd.f49 := ⟨Tryd.func49, by kernel_rfl, by kernel_rfl⟩
theorem has50 : Has 50 Tryd.f50 := ⟨Tryd.func50, by kernel_rfl, by kernel_rfl⟩
theorem has51 : Has 51 Tryd.f51 := ⟨Tryd.func51, by kernel_rfl, by kernel_rfl⟩
theorem has52 : Has 52 Tryd.f52 := ⟨Tryd.func52, by kernel_rfl, by kernel_rfl⟩
theorem has53 : Has 53 Tryd.f53 := ⟨Tryd.func53, by kernel_rfl, by kernel_rfl⟩
theorem has54 : Has 54 Tryd.f54 := ⟨Tryd.func54, by kernel_rfl, by kernel_rfl⟩
theorem has55 : Has 55 Tryd.f55 := ⟨Tryd.func55, by kernel_rfl, by kernel_rfl⟩
theorem has56 : Has 56 Tryd.f56 := ⟨Tryd.func56, by kernel_rfl, by kernel_rfl⟩
theorem has57 : Has 57 Tryd.f57 := ⟨Tryd.func57, by kernel_rfl, by kernel_rfl⟩
theorem has58 : Has 58 Tryd.f58 := ⟨Tryd.func58, by kernel_rfl, by kernel_rfl⟩
theorem has59 : Has 59 Tryd.f59 := ⟨Tryd.func59, by kernel_rfl, by kernel_rfl⟩
theorem has60 : Has 60 Tryd.f60 := ⟨Tryd.func60, by kernel_rfl, by kernel_rfl⟩
theorem has61 : Has 61 Tryd.f61 := ⟨Tryd.func61, by kernel_rfl, by kernel_rfl⟩
theorem has62 : Has 62 Tryd.f62 := ⟨Tryd.func62, by kernel_rfl, by kernel_rfl⟩
theorem has63 : Has 63 Tryd.f63 := ⟨Tryd.func63, by kernel_rfl, by kernel_rfl⟩
theorem has64 : Has 64 Tryd.f64 := ⟨Tryd.func64, by kernel_rfl, by kernel_rfl⟩
theorem has65 : Has 65 Tryd.f65 := ⟨Tryd.func65, by kernel_rfl, by kernel_rfl⟩
theorem has81 : Has 81 Tryd.f81 := ⟨Tryd.func81, by kernel_rfl, by kernel_rfl⟩
theorem has82 : Has 82 Tryd.f82 := ⟨Tryd.func82, by kernel_rfl, by kernel_rfl⟩
theorem has90 : Has 90 Tryd.f90 := ⟨Tryd.func90, by kernel_rfl, by kernel_rfl⟩
/-- A call that returns. -/
def Ret (g : FuncId) (args : List Value) (w : World) (R : Value → World → Prop) : Prop := Calls Tryd.prog g args.toArray w (fun e w' => ∃ v, e = .returned v ∧ R v w')
end Go.Proofs.YtejeloeaklpinaaDoor
namespace Go.Proofs.YtejeloeaklpinaaDoor
section
variable {Q : Exit → Act → World → Prop} {N : Nat} {L : List (Nat × Value)} {B f : Nat → Value} {w : World} {rest : List Oper} {ops : Array Oper} {d : Nat} {x : Operand} {ty : TypeId} {pos : String} {af : Array Edge}
theorem sqr {id : Nat} {l : List Oper} {y : Code} (h : wpList Tryd.prog l.toArray (Exit.then (y.wp Tryd.prog Q) Q) l (fr N f) w) : (Code.seq (Code.region id l.toArray false) y).wp Tryd.prog Q (fr N f) w := wp_seq (reg_lit h)
theorem nt {a : Act} {X : Act → World → Prop} (h : X a w) : wpList Tryd.prog ops (Exit.then X Q) [] a w := wpList_nil (then_n h)
theorem skn {a : Act} {X : Act → World → Prop} (h : X a w) : Code.skip.wp Tryd.prog (Exit.then X Q) a w := wp_skip (then_n h)
theorem Mi {k : IntKind} {i : Int} (h : ev N (fl L B) x = .int k i) (c : wpList Tryd.prog ops Q rest (fr N (fl ((d, .int k i) :: L) B)) w) : wpList Tryd.prog ops Q (⟨some d, .move x, ty, pos, af, none⟩ :: rest) (fr N (fl L B)) w := L1 (mv h) c
theorem Mp {p : Option Addr} (h : ev N (fl L B) x = .pointer p) (c : wpList Tryd.prog ops Q rest (fr N (fl ((d, .pointer p) :: L) B)) w) : wpList Tryd.prog ops Q (⟨some d, .move x, ty, pos, af, none⟩ :: rest) (fr N (fl L B)) w := L1 (mv h) c
theorem Mb {b : Bool} (h : ev N (fl L B) x = .bool b) (c : wpList Tryd.prog ops Q rest (fr N (fl ((d, .bool b) :: L) B)) w) : wpList Tryd.prog ops Q (⟨some d, .move x, ty, pos, af, none⟩ :: rest) (fr N (fl L B)) w := L1 (mv h) c
theorem Ms {a : Option Addr} {m n : Nat} (h : ev N (fl L B) x = .slice a m n) (c : wpList Tryd.prog ops Q rest (fr N (fl ((d, .slice a m n) :: L) B)) w) : wpList Tryd.prog ops Q (⟨some d, .move x, ty, pos, af, none⟩ :: rest) (fr N (fl L B)) w := L1 (mv h) c
theorem Ai {k : IntKind} {i : Int} (h : ev N (fl L B) x = .int k i) (c : wpList Tryd.prog ops Q rest (fr N (fl ((d, .int k i) :: L) B)) w) : wpList Tryd.prog ops Q (⟨some d, .assign x, ty, pos, af, none⟩ :: rest) (fr N (fl L B)) w := L1 (asg h) c
theorem Ab {b : Bool} (h : ev N (fl L B) x = .bool b) (c : wpList Tryd.prog ops Q rest (fr N (fl ((d, .bool b) :: L) B)) w) : wpList Tryd.prog ops Q (⟨some d, .assign x, ty, pos, af, none⟩ :: rest) (fr N (fl L B)) w := L1 (asg h) c
theorem Np {a : Addr} (h : ev N (fl L B) x = .pointer (some a)) (c : wpList Tryd.prog ops Q rest (fr N (fl ((d, .pointer (some a)) :: L) B)) w) : wpList Tryd.prog ops Q (⟨some d, .nilCheck x, ty, pos, af, none⟩ :: rest) (fr N (fl L B)) w := L1 (nilP h) c
end
end Go.Proofs.YtejeloeaklpinaaDoor
namespace Go.Proofs.YtejeloeaklpinaaDoor
theorem wrap_s64 (n : Int) (h1 : -9223372036854775808 ≤ n) (h2 : n < 9223372036854775808) : IntKind.i64.wrap n = n := by
 simp only [IntKind.wrap, IntKind.bits, IntKind.signed, Bool.true_and]
 split <;> rename_i h <;> simp at h <;> omega
theorem wrap_u64n (n : Int) (h1 : 0 ≤ n) (h2 : n < 18446744073709551616) : IntKind.u64.wrap n = n := by
 simp [IntKind.wrap, IntKind.bits, IntKind.signed]; omega
theorem wrap_u32n (n : Int) (h1 : 0 ≤ n) (h2 : n < 4294967296) : IntKind.u32.wrap n = n := by
 simp [IntKind.wrap, IntKind.bits, IntKind.signed]; omega
theorem wrap_u16n (n : Int) (h1 : 0 ≤ n) (h2 : n < 65536) : IntKind.u16.wrap n = n := by
 simp [IntKind.wrap, IntKind.bits, IntKind.signed]; omega
theorem wrap_u8n (n : Int) (h1 : 0 ≤ n) (h2 : n < 256) : IntKind.u8.wrap n = n := by
 simp [IntKind.wrap, IntKind.bits, IntKind.signed]; omega
section
variable {t : TypeId} {a b c : Int}
theorem bn_add (hc : a + b = c) (h1 : -9223372036854775808 ≤ c) (h2 : c < 9223372036854775808) : binOp .add t (.int .i64 a) (.int .i64 b) = pure (.int .i64 c) := by
 subst hc; show pure (Value.int .i64 (IntKind.i64.wrap (a + b))) = _; rw [wrap_s64 _ h1 h2]
theorem bn_sub (hc : a - b = c) (h1 : -9223372036854775808 ≤ c) (h2 : c < 9223372036854775808) : binOp .sub t (.int .i64 a) (.int .i64 b) = pure (.int .i64 c) := by
 subst hc; show pure (Value.int .i64 (IntKind.i64.wrap (a - b))) = _; rw [wrap_s64 _ h1 h2]
theorem bn_mul (hc : a * b = c) (h1 : -9223372036854775808 ≤ c) (h2 : c < 9223372036854775808) : binOp .mul t (.int .i64 a) (.int .i64 b) = pure (.int .i64 c) := by
 subst hc; show pure (Value.int .i64 (IntKind.i64.wrap (a * b))) = _; rw [wrap_s64 _ h1 h2]
theorem bn_addw : binOp .add t (.int .i64 a) (.int .i64 b) = pure (.int .i64 (IntKind.i64.wrap (a + b))) := rfl
theorem bn_addu (hc : a + b = c) (h1 : 0 ≤ c) (h2 : c < 18446744073709551616) : binOp .add t (.int .u64 a) (.int .u64 b) = pure (.int .u64 c) := by
 subst hc; show pure (Value.int .u64 (IntKind.u64.wrap (a + b))) = _; rw [wrap_u64n _ h1 h2]
theorem bn_subu (hc : a - b = c) (h1 : 0 ≤ c) (h2 : c < 18446744073709551616) : binOp .sub t (.int .u64 a) (.int .u64 b) = pure (.int .u64 c) := by
 subst hc; show pure (Value.int .u64 (IntKind.u64.wrap (a - b))) = _; rw [wrap_u64n _ h1 h2]
theorem bn_sub32 (hc : a - b = c) (h1 : 0 ≤ c) (h2 : c < 4294967296) : binOp .sub t (.int .u32 a) (.int .u32 b) = pure (.int .u32 c) := by
 subst hc; show pure (Value.int .u32 (IntKind.u32.wrap (a - b))) = _; rw [wrap_u32n _ h1 h2]
variable {k : IntKind}
theorem bn_lss {v : Bool} (hv : decide (a < b) = v) : binOp .lss t (.int k a) (.int k b) = pure (.bool v) := by
 subst hv; simp [binOp, Op.intCmp]
theorem bn_leq {v : Bool} (hv : decide (a ≤ b) = v) : binOp .leq t (.int k a) (.int k b) = pure (.bool v) := by
 subst hv; simp [binOp, Op.intCmp]
theorem bn_gtr {v : Bool} (hv : decide (b < a) = v) : binOp .gtr t (.int k a) (.int k b) = pure (.bool v) := by
 subst hv; simp [binOp, Op.intCmp]
theorem bn_geq {v : Bool} (hv : decide (b ≤ a) = v) : binOp .geq t (.int k a) (.int k b) = pure (.bool v) := by
 subst hv; simp [binOp, Op.intCmp]
theorem bn_eql {v : Bool} (hv : decide (a = b) = v) : binOp .eql t (.int k a) (.int k b) = pure (.bool v) := by
 subst hv
 simp only [binOp, Op.intCmp, ne_eq, not_true_eq_false, if_false]
 congr 2
theorem bn_neq {v : Bool} (hv : decide (a = b) = !v) : binOp .neq t (.int k a) (.int k b) = pure (.bool v) := by
 have : v = !decide (a = b) := by rw [hv]; simp
 subst this
 simp only [binOp, Op.intCmp, ne_eq, not_true_eq_false, if_false]
 congr 2
theorem bn_rem {x m : Nat} (ha : a = (x : Int)) (hb : b = (m : Int)) (hm : 0 < m) : binOp .rem t (.int .i64 a) (.int .i64 b) = pure (.int .i64 ((x % m : Nat) : Int)) := by
 subst ha hb
 have : ¬ ((m : Int) = 0) := by omega
 simp only [binOp, Op.intDiv, ne_eq, not_true_eq_false, if_false, this, Int.ofNat_tmod]
theorem bn_quo {x m : Nat} (ha : a = (x : Int)) (hb : b = (m : Int)) (hm : 0 < m) (hx : x < 9223372036854775808) : binOp .quo t (.int .i64 a) (.int .i64 b) = pure (.int .i64 ((x / m : Nat) : Int)) := by
 subst ha hb
 have h0 : ¬ ((m : Int) = 0) := by omega
 have hd : x / m ≤ x := Nat.div_le_self _ _
 simp only [binOp, Op.intDiv, ne_eq, not_true_eq_false, if_false, h0]
 rw [← Int.ofNat_tdiv]
 generalize x / m = q at *
 rw [wrap_s64 _ (by omega) (by omega)]
/-- Bits: over numbers below the kind's size. -/
theorem bits_nat (K : IntKind) (hs : K.signed = false) (x y z : Nat) (op : BinOp) (hx : x < 2 ^ K.bits) (hy : y < 2 ^ K.bits) (hz : z < 2 ^ K.bits)
  (h : (op = .and ∧ z = x &&& y) ∨ (op = .or ∧ z = x ||| y) ∨ (op = .xor ∧ z = x ^^^ y)) :
  Op.intBits op K (x : Int) (y : Int) = pure (.int K (z : Int)) := by
 have e1 : (BitVec.ofInt K.bits (x : Int)).toNat = x := by rw [BitVec.ofInt_natCast, BitVec.toNat_ofNat]; exact Nat.mod_eq_of_lt hx
 have e2 : (BitVec.ofInt K.bits (y : Int)).toNat = y := by rw [BitVec.ofInt_natCast, BitVec.toNat_ofNat]; exact Nat.mod_eq_of_lt hy
 have hw : K.wrap (z : Int) = z := by
  have hz' : ((z : Nat) : Int) < ((2 ^ K.bits : Nat) : Int) := by exact_mod_cast hz
  have : ((z : Int)) % (2 ^ K.bits : Int) = z := Int.emod_eq_of_lt (by omega) (by simpa using hz')
  simp [IntKind.wrap, hs, this]
 rcases h with ⟨rfl, rfl⟩ | ⟨rfl, rfl⟩ | ⟨rfl, rfl⟩
 ·simp only [Op.intBits, BitVec.toNat_and, e1, e2, hw]
 ·simp only [Op.intBits, BitVec.toNat_or, e1, e2, hw]
 ·simp only [Op.intBits, BitVec.toNat_xor, e1, e2, hw]
theorem bn_and32 {x y : Nat} (ha : a = (x : Int)) (hb : b = (y : Int)) (hx : x < 4294967296) (hy : y < 4294967296) : binOp .and t (.int .u32 a) (.int .u32 b) = pure (.int .u32 ((x &&& y : Nat) : Int)) := by
 subst ha hb
 exact bits_nat .u32 rfl x y _ .and hx hy (Nat.and_lt_two_pow _ hy) (.inl ⟨rfl, rfl⟩)
theorem bn_mask32 {x k : Nat} (ha : a = (x : Int)) (hb : b = ((2 ^ k - 1 : Nat) : Int)) (hx : x < 4294967296) (hk : k ≤ 32) : binOp .and t (.int .u32 a) (.int .u32 b) = pure (.int .u32 ((x % 2 ^ k : Nat) : Int)) := by
 have hp : (2 : Nat) ^ k ≤ 2 ^ 32 := Nat.pow_le_pow_right (by omega) hk
 have h1 : 0 < (2 : Nat) ^ k := Nat.two_pow_pos k
 rw [← Nat.and_two_pow_sub_one_eq_mod]
 exact bn_and32 ha hb hx (by omega)
theorem bn_or32 {x y : Nat} (ha : a = (x : Int)) (hb : b = (y : Int)) (hx : x < 4294967296) (hy : y < 4294967296) : binOp .or t (.int .u32 a) (.int .u32 b) = pure (.int .u32 ((x ||| y : Nat) : Int)) := by
 subst ha hb
 exact bits_nat .u32 rfl x y _ .or hx hy (Nat.or_lt_two_pow hx hy) (.inr (.inl ⟨rfl, rfl⟩))
theorem bn_mask64 {x k : Nat} (ha : a = (x : Int)) (hb : b = ((2 ^ k - 1 : Nat) : Int)) (hx : x < 18446744073709551616) (hk : k ≤ 64) : binOp .and t (.int .u64 a) (.int .u64 b) = pure (.int .u64 ((x % 2 ^ k : Nat) : Int)) := by
 have hp : (2 : Nat) ^ k ≤ 2 ^ 64 := Nat.pow_le_pow_right (by omega) hk
 have h1 : 0 < (2 : Nat) ^ k := Nat.two_pow_pos k
 subst ha hb
 rw [← Nat.and_two_pow_sub_one_eq_mod]
 exact bits_nat .u64 rfl x _ _ .and hx (show _ < 2 ^ 64 by omega) (Nat.and_lt_two_pow _ (show _ < 2 ^ 64 by omega)) (.inl ⟨rfl, rfl⟩)
/-- Shifts. -/
theorem bn_shr {K K' : IntKind} {x n : Nat} (ha : a = (x : Int)) (hb : b = (n : Int)) (hn : n ≤ K.bits) : binOp .shr t (.int K a) (.int K' b) = pure (.int K ((x / 2 ^ n : Nat) : Int)) := by
 subst ha hb
 have h0 : ¬ ((n : Int) < 0) := by omega
 simp only [binOp, Op.shift, h0, if_false, Int.toNat_natCast, Nat.min_eq_left hn]
 congr 2
 rw [Int.fdiv_eq_ediv_of_nonneg _ (Int.pow_nonneg (by omega))]
 simp
theorem bn_shl {K K' : IntKind} {x n : Nat} (ha : a = (x : Int)) (hb : b = (n : Int)) (hn : n ≤ K.bits) (hw : K.wrap ((x * 2 ^ n : Nat) : Int) = ((x * 2 ^ n : Nat) : Int)) :
  binOp .shl t (.int K a) (.int K' b) = pure (.int K ((x * 2 ^ n : Nat) : Int)) := by
 subst ha hb
 have h0 : ¬ ((n : Int) < 0) := by omega
 simp only [binOp, Op.shift, h0, if_false, Int.toNat_natCast, Nat.min_eq_left hn]
 rw [← hw]
 simp
theorem bn_shl32 {K' : IntKind} {x n : Nat} (ha : a = (x : Int)) (hb : b = (n : Int)) (hn : n ≤ 32) (hw : x * 2 ^ n < 4294967296) :
  binOp .shl t (.int .u32 a) (.int K' b) = pure (.int .u32 ((x * 2 ^ n : Nat) : Int)) := bn_shl ha hb hn (wrap_u32n _ (by omega) (by omega))
theorem bn_shl64 {K' : IntKind} {x n : Nat} (ha : a = (x : Int)) (hb : b = (n : Int)) (hn : n ≤ 64) (hw : x * 2 ^ n < 9223372036854775808) :
  binOp .shl t (.int .i64 a) (.int K' b) = pure (.int .i64 ((x * 2 ^ n : Nat) : Int)) := bn_shl ha hb hn (wrap_s64 _ (by omega) (by omega))
end
end Go.Proofs.YtejeloeaklpinaaDoor
namespace Go.Proofs.YtejeloeaklpinaaDoor
/-- The blocks of one reader and its data. -/
structure Env where
 B : Nat
 aE : Addr
 aU : Addr
 F : Nat
 R : Nat
 S : Nat
 H : Nat
 bt : Nat
 cb : Nat
 buf : Nat
 own : Nat
 N : Nat
 d : Nat → Nat
structure Env.Ok (E : Env) : Prop where
 bF : E.B ≤ E.F
 bR : E.B ≤ E.R
 bH : E.B ≤ E.H
 bbt : E.B ≤ E.bt
 bcb : E.B ≤ E.cb
 FR : E.F ≠ E.R
 FS : E.F ≠ E.S
 FH : E.F ≠ E.H
 Fb : E.F ≠ E.bt
 Fc : E.F ≠ E.cb
 RS : E.R ≠ E.S
 RH : E.R ≠ E.H
 Rb : E.R ≠ E.bt
 Rc : E.R ≠ E.cb
 SH : E.S ≠ E.H
 Sb : E.S ≠ E.bt
 Sc : E.S ≠ E.cb
 Hb : E.H ≠ E.bt
 Hc : E.H ≠ E.cb
 bc : E.bt ≠ E.cb
 d8 : ∀ k, E.d k < 256
 N47 : E.N ≤ 140737488355328
/-- The buffer of a Read lies apart. -/
structure Env.OkB (E : Env) : Prop where
 bbu : E.B ≤ E.buf
 uF : E.buf ≠ E.F
 uR : E.buf ≠ E.R
 uS : E.buf ≠ E.S
 uH : E.buf ≠ E.H
 ub : E.buf ≠ E.bt
 uc : E.buf ≠ E.cb
/-- The slice that is grown lies apart. -/
structure Env.OkO (E : Env) : Prop where
 bo : E.B ≤ E.own
 oF : E.own ≠ E.F
 oR : E.own ≠ E.R
 oS : E.own ≠ E.S
 oH : E.own ≠ E.H
 ob : E.own ≠ E.bt
 oc : E.own ≠ E.cb
def EOFv (E : Env) : Value := .iface 131 (.pointer (some E.aE))
def UEOFv (E : Env) : Value := .iface 131 (.pointer (some E.aU))
/-- An error, by its number: 0 none, 1 EOF, 2 ErrUnexpectedEOF, 3 a refusal. -/
def ErrV (E : Env) (c : Nat) (v : Value) : Prop :=
 (c = 0 ∧ v = .nilIface) ∨ (c = 1 ∧ v = EOFv E) ∨ (c = 2 ∧ v = UEOFv E) ∨ (c = 3 ∧ ∃ n, v = .iface 107 (.int .i64 n))
def order : Nat → Int := fun i => [16, 17, 18, 0, 8, 7, 9, 6, 10, 5, 11, 4, 12, 3, 13, 2, 14, 1, 15].getD i 0
/-- The package's variables, as they are laid. -/
structure Gl (E : Env) (w : World) : Prop where
 B6 : 3 ≤ E.B
 le : E.B ≤ w.heap.size
 eof : w.cell? ⟨0, 0, none⟩ = some (EOFv E)
 ueof : w.cell? ⟨1, 0, none⟩ = some (UEOFv E)
 ne : E.aE ≠ E.aU
 bE : E.aE.block < E.B
 bU : E.aU.block < E.B
 hE : ∃ c t, w.heap[E.aE.block]? = some (.cells c t (0, 0))
 hU : ∃ c t, w.heap[E.aU.block]? = some (.cells c t (0, 0))
 ord : ∀ i, i < 19 → w.cell? ⟨2, i, none⟩ = some (.int .i64 (order i))
theorem Gl.kp {E : Env} {w w' : World} {L : List Nat} (h : Gl E w) (k : Kp L w w') (hL : ∀ b, b ∈ L → E.B ≤ b) : Gl E w' := by
 have hb : ∀ b, b < E.B → w'.heap[b]? = w.heap[b]? := fun b hb => k.block b (Nat.lt_of_lt_of_le hb h.le) (fun hm => by have := hL b hm; omega)
 have hc : ∀ a : Addr, a.block < E.B → w'.cell? a = w.cell? a := fun a ha => World.cell?_of_block (hb _ ha)
 have h6 := h.B6
 exact ⟨h.B6, Nat.le_trans h.le k.size, by rw [hc _ (by show 0 < E.B; omega)]; exact h.eof, by rw [hc _ (by show 1 < E.B; omega)]; exact h.ueof, h.ne, h.bE, h.bU,
  by rw [hb _ h.bE]; exact h.hE, by rw [hb _ h.bU]; exact h.hU, fun i hi => by rw [hc _ (by show 2 < E.B; omega)]; exact h.ord i hi⟩
/-- A slice that holds the data. -/
def Dat (E : Env) (w : World) (v : Value) : Prop :=
 (E.N = 0 ∧ v = .slice none 0 0) ∨ ∃ c n g, v = .slice (some ⟨E.S, 0, none⟩) E.N c ∧ Bk w E.S n 5 g ∧ (E.N ≤ n ∧ E.N ≤ c) ∧ ∀ k, k < E.N → g k = .int .u8 (E.d k)
theorem Dat.kp {E : Env} {w w' : World} {v : Value} {L : List Nat} (h : Dat E w v) (k : Kp L w w') (hL : E.S ∉ L) : Dat E w' v := by
 rcases h with h | ⟨c, n, g, h1, h2, h3⟩
 ·exact .inl h
 ·exact .inr ⟨c, n, g, h1, h2.kp k hL, h3⟩
theorem Dat.len {E : Env} {w : World} {v : Value} (h : Dat E w v) : ∃ a c, v = .slice a E.N c := by
 rcases h with ⟨h1, h2⟩ | ⟨c, n, g, h1, h2, h3⟩
 ·exact ⟨none, 0, by rw [h1]; exact h2⟩
 ·exact ⟨_, c, h1⟩
/-- The source of bytes: pos of them are read. -/
def Rd (E : Env) (w : World) (pos : Nat) : Prop :=
 ∃ (v : Value) (z : Int) (r : Nat → Value), Bk w E.R 3 70 r ∧ r 0 = v ∧ r 1 = .int .i64 pos ∧ r 2 = .int .i64 z ∧ pos ≤ E.N ∧ Dat E w v
theorem Rd.kp {E : Env} {w w' : World} {pos : Nat} {L : List Nat} (h : Rd E w pos) (k : Kp L w w') (hR : E.R ∉ L) (hS : E.S ∉ L) : Rd E w' pos := by
 obtain ⟨v, z, r, h1, h2, h3, h4, h5, h6⟩ := h
 exact ⟨v, z, r, h1.kp k hR, h2, h3, h4, h5, h6.kp k hS⟩
theorem Dat.drew {E : Env} {w : World} {v : Value} (h : Dat E w v) : Dat E w.drew v := h.kp (Kp.refl [] w).drew (by simp)
theorem Rd.drew {E : Env} {w : World} {pos : Nat} (h : Rd E w pos) : Rd E w.drew pos := h.kp (Kp.refl [] w).drew (by simp) (by simp)
theorem Gl.drew {E : Env} {w : World} (h : Gl E w) : Gl E w.drew := h.kp (Kp.refl [] w).drew (by simp)
end Go.Proofs.YtejeloeaklpinaaDoor
namespace Go.Proofs.YtejeloeaklpinaaDoor
section
variable {ρ : Operand → Value} {d : Option Nat} {x y z : Operand} {ty : TypeId} {pos : String} {af : Array Edge} {gd : Option (Nat × Bool)} {w : World}
theorem und22 : Tryd.prog.underlying 22 = some (.slice 5) := by kernel_rfl
theorem und24 : Tryd.prog.underlying 24 = some (.slice 3) := by kernel_rfl
theorem und84 : Tryd.prog.underlying 84 = some (.slice 130) := by kernel_rfl
theorem und130 : Tryd.prog.underlying 130 = some (.slice 82) := by kernel_rfl
theorem und62 : Tryd.prog.underlying 62 = some (.interface #[("Error", 134)]) := by kernel_rfl
theorem und131 : Tryd.prog.underlying 131 = some (.pointer 150) := by kernel_rfl
/-- len and cap of a slice. -/
theorem ln {t e : TypeId} {a : Option Addr} {n c : Nat} (ht : Tryd.prog.underlying t = some (.slice e)) (hx : ρ x = .slice a n c) :
  (execOp ρ ⟨d, .call ⟨.builtin .len, #[x], #[t]⟩, ty, pos, af, gd⟩).run Tryd.prog w = .ok (.value (.int .i64 n)) w := by
 simp [execOp, resolve, invoke, builtin, hx, Builtin.len_, run_underlying ht, goInt]
theorem cp {t e : TypeId} {a : Option Addr} {n c : Nat} (ht : Tryd.prog.underlying t = some (.slice e)) (hx : ρ x = .slice a n c) :
  (execOp ρ ⟨d, .call ⟨.builtin .cap, #[x], #[t]⟩, ty, pos, af, gd⟩).run Tryd.prog w = .ok (.value (.int .i64 c)) w := by
 simp [execOp, resolve, invoke, builtin, hx, Builtin.cap_, run_underlying ht, goInt]
/-- The address of an element of a slice. -/
theorem ix {t e : TypeId} {b o n c j : Nat} {k : IntKind} {i : Int} (ht : Tryd.prog.underlying t = some (.slice e)) (he : ∀ w, (sizeOf e).run Tryd.prog w = .ok 1 w) (hx : ρ x = .slice (some ⟨b, o, none⟩) n c) (hy : ρ y = .int k i) (hi : i = (j : Int)) (hj : j < n) :
  (execOp ρ ⟨d, .indexAddr t x y, ty, pos, af, gd⟩).run Tryd.prog w = .ok (.value (.pointer (some ⟨b, o + j, none⟩))) w := by
 subst hi
 have h0 : (0 : Int) ≤ (j : Int) ∧ (j : Int) < (n : Int) := by omega
 simp [execOp, hx, hy, Instr.indexAt, asIntOf, run_underlying ht, h0, he, Addr.add_lit]
 intro h; omega
theorem ix0 {t e : TypeId} {b n c j : Nat} {k : IntKind} {i : Int} (ht : Tryd.prog.underlying t = some (.slice e)) (he : ∀ w, (sizeOf e).run Tryd.prog w = .ok 1 w) (hx : ρ x = .slice (some ⟨b, 0, none⟩) n c) (hy : ρ y = .int k i) (hi : i = (j : Int)) (hj : j < n) :
  (execOp ρ ⟨d, .indexAddr t x y, ty, pos, af, gd⟩).run Tryd.prog w = .ok (.value (.pointer (some ⟨b, j, none⟩))) w := by
 have := ix (d := d) (ty := ty) (pos := pos) (af := af) (gd := gd) (w := w) ht he hx hy hi hj
 simpa using this
/-- The address of an element of an array behind a pointer. -/
theorem ixA {t e : TypeId} {b o m j : Nat} {k : IntKind} {i : Int} (ht : Tryd.prog.underlying t = some (.array m e)) (he : ∀ w, (sizeOf e).run Tryd.prog w = .ok 1 w) (hx : ρ x = .pointer (some ⟨b, o, none⟩)) (hy : ρ y = .int k i) (hi : i = (j : Int)) (hj : j < m) :
  (execOp ρ ⟨d, .indexAddr t x y, ty, pos, af, gd⟩).run Tryd.prog w = .ok (.value (.pointer (some ⟨b, o + j, none⟩))) w := by
 subst hi
 have h0 : (0 : Int) ≤ (j : Int) ∧ (j : Int) < (m : Int) := by omega
 simp [execOp, hx, hy, Instr.indexAt, Instr.sureAddr, asIntOf, run_underlying ht, h0, he, Addr.add_lit]
 intro h; omega
/-- An error held against nil. -/
theorem en_nil (hx : ρ x = .nilIface) (hy : ρ (.const .nilIface) = .nilIface) : (execOp ρ ⟨d, .binOp .neq 62 x (.const .nilIface) 62, ty, pos, af, gd⟩).run Tryd.prog w = .ok (.value (.bool false)) w := by
 have hg : eqGuard .neq 62 x (.const .nilIface) .nilIface .nilIface = pure () := by
  unfold eqGuard; simp
 have he : (Op.equal 62 .nilIface .nilIface).run Tryd.prog w = .ok true w := by kernel_rfl
 simp [execOp, hx, hy, hg, binOp, he]
theorem en_held {u : TypeId} {v : Value} (hx : ρ x = .iface u v) (hy : ρ y = .nilIface) : (execOp ρ ⟨d, .binOp .neq 62 x y 62, ty, pos, af, gd⟩).run Tryd.prog w = .ok (.value (.bool true)) w := by
 have hg : eqGuard .neq 62 x y (.iface u v) .nilIface = pure () := by
  unfold eqGuard; rfl
 have he : (Op.equal 62 (.iface u v) .nilIface).run Tryd.prog w = .ok false w := by kernel_rfl
 simp [execOp, hx, hy, hg, binOp, he]
/-- Two errors compared. -/
theorem ee_run {u u' : TypeId} {v v' : Value} {r : Bool} (hx : ρ x = .iface u v) (hy : ρ y = .iface u' v') (hr : (binOp .eql 62 (.iface u v) (.iface u' v')).run Tryd.prog w = .ok (.bool r) w) :
  (execOp ρ ⟨d, .binOp .eql 62 x y 62, ty, pos, af, gd⟩).run Tryd.prog w = .ok (.value (.bool r)) w := by
 have hg : eqGuard .eql 62 x y (.iface u v) (.iface u' v') = pure () := by
  unfold eqGuard; rfl
 simp [execOp, hx, hy, hg, hr]
theorem inf131 : ∃ i, Tryd.prog.info? 131 = some i ∧ i.comparable = true := by
 have h : (Tryd.prog.info? 131).map (·.comparable) = some true := by kernel_rfl
 cases hi : Tryd.prog.info? 131 with
 | none => rw [hi] at h; cases h
 | some i => rw [hi] at h; exact ⟨i, rfl, by simpa using h⟩
theorem inf150 : ∃ i, Tryd.prog.info? 150 = some i ∧ i.size ≠ 0 := by
 have h : (Tryd.prog.info? 150).map (·.size) = some 1 := by kernel_rfl
 cases hi : Tryd.prog.info? 150 with
 | none => rw [hi] at h; cases h
 | some i => rw [hi] at h; exact ⟨i, rfl, by simp at h; omega⟩
theorem eq_same (a : Addr) : (binOp .eql 62 (.iface 131 (.pointer (some a))) (.iface 131 (.pointer (some a)))).run Tryd.prog w = .ok (.bool true) w := by
 obtain ⟨i, hi, hc⟩ := inf131
 obtain ⟨j, hj, _⟩ := inf150
 exact run_eql_iface_ptr_same w a und62 und131 hi hc hj
theorem eq_other {a b : Addr} (hne : a ≠ b) (ha : ∃ c t, w.heap[a.block]? = some (.cells c t (0, 0))) (hb : ∃ c t, w.heap[b.block]? = some (.cells c t (0, 0))) :
  (binOp .eql 62 (.iface 131 (.pointer (some a))) (.iface 131 (.pointer (some b)))).run Tryd.prog w = .ok (.bool false) w := by
 obtain ⟨i, hi, hc⟩ := inf131
 obtain ⟨j, hj, hs⟩ := inf150
 obtain ⟨c, t, ha⟩ := ha
 obtain ⟨c', t', hb⟩ := hb
 exact run_eql_iface_ptr_other w und62 und131 hi hc hj hs hne ha hb
theorem eq_int (n : Int) (a : Addr) : (binOp .eql 62 (.iface 107 (.int .i64 n)) (.iface 131 (.pointer (some a)))).run Tryd.prog w = .ok (.bool false) w := by
 kernel_rfl
end
theorem mixed : Tryd.prog.follows .mixedOrders = true := by kernel_rfl
section
variable {ops : Array Oper} {Q : Exit → Act → World → Prop} {N : Nat} {f : Nat → Value} {w : World} {rest : List Oper} {x y : Operand} {ty : TypeId} {pos : String} {af : Array Edge} {v : Value} {b k n : Nat} {T : TypeId} {g : Nat → Value}
/-- A store into a block that is known. -/
theorem Lst_any (t : TypeId) (ht : ∀ w, (sizeOf t).run Tryd.prog w = .ok 1 w) (hx : ev N f x = .pointer (some ⟨b, k, none⟩)) (hy : ev N f y = v) (h1 : v.oneCell' = true) (hB : Bk w b n T g) (hk : k < n)
  (K : ∀ w1, Bk w1 b n T (upd g k v) → Kp [b] w w1 → wpList Tryd.prog ops Q rest (fr N f) w1) : wpList Tryd.prog ops Q (⟨none, .store t x y, ty, pos, af, none⟩ :: rest) (fr N f) w :=
 L0 (st_any t (ht w) hx hy h1 (hB.cell hk) (hB.frozen _)) (K _ (hB.set k v) ((Kp.refl [b] w).setCell (by simp) v))
theorem Lst2 (hx : ev N f x = .pointer (some ⟨b, k, none⟩)) (hy : ev N f y = v) (h1 : v.oneCell' = true) (hB : Bk w b n T g) (hk : k < n) (K : ∀ w1, Bk w1 b n T (upd g k v) → Kp [b] w w1 → wpList Tryd.prog ops Q rest (fr N f) w1) : wpList Tryd.prog ops Q (⟨none, .store 2 x y, ty, pos, af, none⟩ :: rest) (fr N f) w := Lst_any 2 sz2 hx hy h1 hB hk K
theorem Lst3 (hx : ev N f x = .pointer (some ⟨b, k, none⟩)) (hy : ev N f y = v) (h1 : v.oneCell' = true) (hB : Bk w b n T g) (hk : k < n) (K : ∀ w1, Bk w1 b n T (upd g k v) → Kp [b] w w1 → wpList Tryd.prog ops Q rest (fr N f) w1) : wpList Tryd.prog ops Q (⟨none, .store 3 x y, ty, pos, af, none⟩ :: rest) (fr N f) w := Lst_any 3 sz3 hx hy h1 hB hk K
theorem Lst4 (hx : ev N f x = .pointer (some ⟨b, k, none⟩)) (hy : ev N f y = v) (h1 : v.oneCell' = true) (hB : Bk w b n T g) (hk : k < n) (K : ∀ w1, Bk w1 b n T (upd g k v) → Kp [b] w w1 → wpList Tryd.prog ops Q rest (fr N f) w1) : wpList Tryd.prog ops Q (⟨none, .store 4 x y, ty, pos, af, none⟩ :: rest) (fr N f) w := Lst_any 4 sz4 hx hy h1 hB hk K
theorem Lst5 (hx : ev N f x = .pointer (some ⟨b, k, none⟩)) (hy : ev N f y = v) (h1 : v.oneCell' = true) (hB : Bk w b n T g) (hk : k < n) (K : ∀ w1, Bk w1 b n T (upd g k v) → Kp [b] w w1 → wpList Tryd.prog ops Q rest (fr N f) w1) : wpList Tryd.prog ops Q (⟨none, .store 5 x y, ty, pos, af, none⟩ :: rest) (fr N f) w := Lst_any 5 sz5 hx hy h1 hB hk K
theorem Lst22 (hx : ev N f x = .pointer (some ⟨b, k, none⟩)) (hy : ev N f y = v) (h1 : v.oneCell' = true) (hB : Bk w b n T g) (hk : k < n) (K : ∀ w1, Bk w1 b n T (upd g k v) → Kp [b] w w1 → wpList Tryd.prog ops Q rest (fr N f) w1) : wpList Tryd.prog ops Q (⟨none, .store 22 x y, ty, pos, af, none⟩ :: rest) (fr N f) w := Lst_any 22 sz22 hx hy h1 hB hk K
theorem Lst24 (hx : ev N f x = .pointer (some ⟨b, k, none⟩)) (hy : ev N f y = v) (h1 : v.oneCell' = true) (hB : Bk w b n T g) (hk : k < n) (K : ∀ w1, Bk w1 b n T (upd g k v) → Kp [b] w w1 → wpList Tryd.prog ops Q rest (fr N f) w1) : wpList Tryd.prog ops Q (⟨none, .store 24 x y, ty, pos, af, none⟩ :: rest) (fr N f) w := Lst_any 24 sz24 hx hy h1 hB hk K
theorem Lst38 (hx : ev N f x = .pointer (some ⟨b, k, none⟩)) (hy : ev N f y = v) (h1 : v.oneCell' = true) (hB : Bk w b n T g) (hk : k < n) (K : ∀ w1, Bk w1 b n T (upd g k v) → Kp [b] w w1 → wpList Tryd.prog ops Q rest (fr N f) w1) : wpList Tryd.prog ops Q (⟨none, .store 38 x y, ty, pos, af, none⟩ :: rest) (fr N f) w := Lst_any 38 sz38 hx hy h1 hB hk K
theorem Lst62 (hx : ev N f x = .pointer (some ⟨b, k, none⟩)) (hy : ev N f y = v) (h1 : v.oneCell' = true) (hB : Bk w b n T g) (hk : k < n) (K : ∀ w1, Bk w1 b n T (upd g k v) → Kp [b] w w1 → wpList Tryd.prog ops Q rest (fr N f) w1) : wpList Tryd.prog ops Q (⟨none, .store 62 x y, ty, pos, af, none⟩ :: rest) (fr N f) w := Lst_any 62 sz62 hx hy h1 hB hk K
theorem Lst80 (hx : ev N f x = .pointer (some ⟨b, k, none⟩)) (hy : ev N f y = v) (h1 : v.oneCell' = true) (hB : Bk w b n T g) (hk : k < n) (K : ∀ w1, Bk w1 b n T (upd g k v) → Kp [b] w w1 → wpList Tryd.prog ops Q rest (fr N f) w1) : wpList Tryd.prog ops Q (⟨none, .store 80 x y, ty, pos, af, none⟩ :: rest) (fr N f) w := Lst_any 80 sz80 hx hy h1 hB hk K
theorem Lst81 (hx : ev N f x = .pointer (some ⟨b, k, none⟩)) (hy : ev N f y = v) (h1 : v.oneCell' = true) (hB : Bk w b n T g) (hk : k < n) (K : ∀ w1, Bk w1 b n T (upd g k v) → Kp [b] w w1 → wpList Tryd.prog ops Q rest (fr N f) w1) : wpList Tryd.prog ops Q (⟨none, .store 81 x y, ty, pos, af, none⟩ :: rest) (fr N f) w := Lst_any 81 sz81 hx hy h1 hB hk K
theorem Lst82 (hx : ev N f x = .pointer (some ⟨b, k, none⟩)) (hy : ev N f y = v) (h1 : v.oneCell' = true) (hB : Bk w b n T g) (hk : k < n) (K : ∀ w1, Bk w1 b n T (upd g k v) → Kp [b] w w1 → wpList Tryd.prog ops Q rest (fr N f) w1) : wpList Tryd.prog ops Q (⟨none, .store 82 x y, ty, pos, af, none⟩ :: rest) (fr N f) w := Lst_any 82 sz82 hx hy h1 hB hk K
theorem Lst87 (hx : ev N f x = .pointer (some ⟨b, k, none⟩)) (hy : ev N f y = v) (h1 : v.oneCell' = true) (hB : Bk w b n T g) (hk : k < n) (K : ∀ w1, Bk w1 b n T (upd g k v) → Kp [b] w w1 → wpList Tryd.prog ops Q rest (fr N f) w1) : wpList Tryd.prog ops Q (⟨none, .store 87 x y, ty, pos, af, none⟩ :: rest) (fr N f) w := Lst_any 87 sz87 hx hy h1 hB hk K
theorem Lst88 (hx : ev N f x = .pointer (some ⟨b, k, none⟩)) (hy : ev N f y = v) (h1 : v.oneCell' = true) (hB : Bk w b n T g) (hk : k < n) (K : ∀ w1, Bk w1 b n T (upd g k v) → Kp [b] w w1 → wpList Tryd.prog ops Q rest (fr N f) w1) : wpList Tryd.prog ops Q (⟨none, .store 88 x y, ty, pos, af, none⟩ :: rest) (fr N f) w := Lst_any 88 sz88 hx hy h1 hB hk K
theorem Lst92 (hx : ev N f x = .pointer (some ⟨b, k, none⟩)) (hy : ev N f y = v) (h1 : v.oneCell' = true) (hB : Bk w b n T g) (hk : k < n) (K : ∀ w1, Bk w1 b n T (upd g k v) → Kp [b] w w1 → wpList Tryd.prog ops Q rest (fr N f) w1) : wpList Tryd.prog ops Q (⟨none, .store 92 x y, ty, pos, af, none⟩ :: rest) (fr N f) w := Lst_any 92 sz92 hx hy h1 hB hk K
theorem Lst93 (hx : ev N f x = .pointer (some ⟨b, k, none⟩)) (hy : ev N f y = v) (h1 : v.oneCell' = true) (hB : Bk w b n T g) (hk : k < n) (K : ∀ w1, Bk w1 b n T (upd g k v) → Kp [b] w w1 → wpList Tryd.prog ops Q rest (fr N f) w1) : wpList Tryd.prog ops Q (⟨none, .store 93 x y, ty, pos, af, none⟩ :: rest) (fr N f) w := Lst_any 93 sz93 hx hy h1 hB hk K
end
section
variable {ρ : Operand → Value} {d : Option Nat} {x y : Operand} {ty : TypeId} {pos : String} {af : Array Edge} {gd : Option (Nat × Bool)} {w : World} {v : Value} {a : Int}
theorem mkI107 (hx : ρ x = v) : (execOp ρ ⟨d, .makeInterface 107 x, ty, pos, af, gd⟩).run Tryd.prog w = .ok (.value (.iface 107 v)) w := mkI (t := 107) (fun w => by kernel_rfl) hx
theorem mkI43 (hx : ρ x = v) : (execOp ρ ⟨d, .makeInterface 43 x, ty, pos, af, gd⟩).run Tryd.prog w = .ok (.value (.iface 43 v)) w := mkI (t := 43) (fun w => by kernel_rfl) hx
theorem mkI99 (hx : ρ x = v) : (execOp ρ ⟨d, .makeInterface 99 x, ty, pos, af, gd⟩).run Tryd.prog w = .ok (.value (.iface 99 v)) w := mkI (t := 99) (fun w => by kernel_rfl) hx
theorem cv3_38 {c : Int} (hx : ρ x = .int .i64 a) (hc : IntKind.u64.wrap a = c) : (execOp ρ ⟨d, .convert 3 38 x, ty, pos, af, gd⟩).run Tryd.prog w = .ok (.value (.int .u64 c)) w := by
 subst hc
 exact cv (s := 3) (t := 38) (fun w => by kernel_rfl) hx
theorem cv82_3 {c : Int} (hx : ρ x = .int .u32 a) (hc : IntKind.i64.wrap a = c) : (execOp ρ ⟨d, .convert 82 3 x, ty, pos, af, gd⟩).run Tryd.prog w = .ok (.value (.int .i64 c)) w := by
 subst hc
 exact cv (s := 82) (t := 3) (fun w => by kernel_rfl) hx
theorem cv3_5 {c : Int} (hx : ρ x = .int .i64 a) (hc : IntKind.u8.wrap a = c) : (execOp ρ ⟨d, .convert 3 5 x, ty, pos, af, gd⟩).run Tryd.prog w = .ok (.value (.int .u8 c)) w := by
 subst hc
 exact cv (s := 3) (t := 5) (fun w => by kernel_rfl) hx
theorem cv5_3 {c : Int} (hx : ρ x = .int .u8 a) (hc : IntKind.i64.wrap a = c) : (execOp ρ ⟨d, .convert 5 3 x, ty, pos, af, gd⟩).run Tryd.prog w = .ok (.value (.int .i64 c)) w := by
 subst hc
 exact cv (s := 5) (t := 3) (fun w => by kernel_rfl) hx
theorem cv82_38 {c : Int} (hx : ρ x = .int .u32 a) (hc : IntKind.u64.wrap a = c) : (execOp ρ ⟨d, .convert 82 38 x, ty, pos, af, gd⟩).run Tryd.prog w = .ok (.value (.int .u64 c)) w := by
 subst hc
 exact cv (s := 82) (t := 38) (fun w => by kernel_rfl) hx
theorem cv5_82 {c : Int} (hx : ρ x = .int .u8 a) (hc : IntKind.u32.wrap a = c) : (execOp ρ ⟨d, .convert 5 82 x, ty, pos, af, gd⟩).run Tryd.prog w = .ok (.value (.int .u32 c)) w := by
 subst hc
 exact cv (s := 5) (t := 82) (fun w => by kernel_rfl) hx
theorem cv5_37 {c : Int} (hx : ρ x = .int .u8 a) (hc : IntKind.u16.wrap a = c) : (execOp ρ ⟨d, .convert 5 37 x, ty, pos, af, gd⟩).run Tryd.prog w = .ok (.value (.int .u16 c)) w := by
 subst hc
 exact cv (s := 5) (t := 37) (fun w => by kernel_rfl) hx
theorem cv37_3 {c : Int} (hx : ρ x = .int .u16 a) (hc : IntKind.i64.wrap a = c) : (execOp ρ ⟨d, .convert 37 3 x, ty, pos, af, gd⟩).run Tryd.prog w = .ok (.value (.int .i64 c)) w := by
 subst hc
 exact cv (s := 37) (t := 3) (fun w => by kernel_rfl) hx
theorem cv3_82 {c : Int} (hx : ρ x = .int .i64 a) (hc : IntKind.u32.wrap a = c) : (execOp ρ ⟨d, .convert 3 82 x, ty, pos, af, gd⟩).run Tryd.prog w = .ok (.value (.int .u32 c)) w := by
 subst hc
 exact cv (s := 3) (t := 82) (fun w => by kernel_rfl) hx
theorem cv3_37 {c : Int} (hx : ρ x = .int .i64 a) (hc : IntKind.u16.wrap a = c) : (execOp ρ ⟨d, .convert 3 37 x, ty, pos, af, gd⟩).run Tryd.prog w = .ok (.value (.int .u16 c)) w := by
 subst hc
 exact cv (s := 3) (t := 37) (fun w => by kernel_rfl) hx
end
section
variable {ρ : Operand → Value} {d : Option Nat} {x : Operand} {ty : TypeId} {pos : String} {af : Array Edge} {gd : Option (Nat × Bool)} {w : World} {v0 v1 v2 : Value}
theorem ext2_0 (hx : ρ x = .tuple #[v0, v1]) : (execOp ρ ⟨d, .extract x 0, ty, pos, af, gd⟩).run Tryd.prog w = .ok (.value v0) w := ext hx rfl
theorem ext2_1 (hx : ρ x = .tuple #[v0, v1]) : (execOp ρ ⟨d, .extract x 1, ty, pos, af, gd⟩).run Tryd.prog w = .ok (.value v1) w := ext hx rfl
theorem ext3_0 (hx : ρ x = .tuple #[v0, v1, v2]) : (execOp ρ ⟨d, .extract x 0, ty, pos, af, gd⟩).run Tryd.prog w = .ok (.value v0) w := ext hx rfl
theorem ext3_1 (hx : ρ x = .tuple #[v0, v1, v2]) : (execOp ρ ⟨d, .extract x 1, ty, pos, af, gd⟩).run Tryd.prog w = .ok (.value v1) w := ext hx rfl
theorem ext3_2 (hx : ρ x = .tuple #[v0, v1, v2]) : (execOp ρ ⟨d, .extract x 2, ty, pos, af, gd⟩).run Tryd.prog w = .ok (.value v2) w := ext hx rfl
end
end Go.Proofs.YtejeloeaklpinaaDoor
namespace Go.Proofs.YtejeloeaklpinaaDoor
/-- The bytes as one number, the first byte the lowest. -/
def dnum (d : Nat → Nat) : Nat → Nat
 | 0 => 0
 | n + 1 => dnum d n + d n * 256 ^ n
/-- n bits of D from place p on. -/
def bv (D p n : Nat) : Nat := D / 2 ^ p % 2 ^ n
theorem dnum_lt (d : Nat → Nat) (h : ∀ k, d k < 256) : ∀ n, dnum d n < 256 ^ n
 | 0 => by simp [dnum]
 | n + 1 => by
  have ih := dnum_lt d h n
  have hd := h n
  simp only [dnum, Nat.pow_succ]
  have : d n * 256 ^ n ≤ 255 * 256 ^ n := Nat.mul_le_mul_right _ (by omega)
  omega
theorem dnum_byte (d : Nat → Nat) (h : ∀ k, d k < 256) : ∀ n pos, pos < n → dnum d n / 256 ^ pos % 256 = d pos
 | 0, _, hp => by omega
 | n + 1, pos, hp => by
  simp only [dnum]
  by_cases hpn : pos = n
  ·subst hpn
   rw [Nat.add_mul_div_right _ _ (Nat.pow_pos (by omega)), Nat.div_eq_of_lt (dnum_lt d h pos)]
   have := h pos
   omega
  ·have e : 256 ^ n = 256 ^ (n - pos - 1) * 256 * 256 ^ pos := by
    rw [← Nat.pow_succ, ← Nat.pow_add]; congr 1; omega
   rw [e, ← Nat.mul_assoc, Nat.add_mul_div_right _ _ (Nat.pow_pos (by omega)), ← Nat.mul_assoc, Nat.add_mul_mod_self_right]
   exact dnum_byte d h n pos (by omega)
theorem pow256 (n : Nat) : 256 ^ n = 2 ^ (8 * n) := by
 rw [Nat.pow_mul]
theorem bv_lt (D p n : Nat) : bv D p n < 2 ^ n := Nat.mod_lt _ (Nat.two_pow_pos n)
theorem bv_zero (D p : Nat) : bv D p 0 = 0 := by simp [bv, Nat.mod_one]
theorem bv_more (d : Nat → Nat) (h : ∀ k, d k < 256) (N p nb pos : Nat) (hp : p + nb = 8 * pos) (hlt : pos < N) :
  bv (dnum d N) p (nb + 8) = bv (dnum d N) p nb + d pos * 2 ^ nb := by
 have hb := dnum_byte d h N pos hlt
 unfold bv
 rw [Nat.pow_add, Nat.mod_mul, Nat.div_div_eq_div_mul, ← Nat.pow_add, hp, ← pow256, show (2 : Nat) ^ 8 = 256 from rfl, hb, Nat.mul_comm]
theorem bv_shift (D p nb k : Nat) (hk : k ≤ nb) : bv D p nb / 2 ^ k = bv D (p + k) (nb - k) := by
 unfold bv
 have e : 2 ^ nb = 2 ^ k * 2 ^ (nb - k) := by rw [← Nat.pow_add]; congr 1; omega
 rw [e, Nat.mod_mul_right_div_self, Nat.div_div_eq_div_mul, ← Nat.pow_add]
theorem bv_mod (D p nb k : Nat) (hk : k ≤ nb) : bv D p nb % 2 ^ k = bv D p k := by
 unfold bv
 exact Nat.mod_mod_of_dvd _ (Nat.pow_dvd_pow 2 hk)
theorem or_high (b c nb : Nat) (hb : b < 2 ^ nb) : b ||| (c * 2 ^ nb) = b + c * 2 ^ nb := by
 have := Nat.two_pow_add_eq_or_of_lt hb c
 rw [Nat.mul_comm c, Nat.or_comm, ← this, Nat.add_comm]
theorem bv_add (D p a b : Nat) : bv D p (a + b) = bv D p a + 2 ^ a * bv D (p + a) b := by
 unfold bv
 rw [Nat.pow_add, Nat.mod_mul, Nat.div_div_eq_div_mul, ← Nat.pow_add]
end Go.Proofs.YtejeloeaklpinaaDoor
namespace Go.Proofs.YtejeloeaklpinaaDoor
attribute [local irreducible] wpList wpStill Code.wp Calls fr
theorem readByte_ok (E : Env) (w : World) (pos : Nat) (hE : E.Ok) (hrd : Rd E w pos) (hp : pos < E.N) :
  Ret 82 [.pointer (some ⟨E.R, 0, none⟩)] w fun v w' => v = .tuple #[.int .u8 (E.d pos), .nilIface] ∧ Rd E w' (pos + 1) ∧ Kp [E.R] w w' := by
 obtain ⟨v, z, r, hR, r0, r1, r2, hle, hd⟩ := hrd
 have hN := hE.N47
 obtain ⟨sa, sc, rfl⟩ := hd.len
 have kp := Kp.refl [E.R] w
 refine calls_fr (N := 37) Tryd.func82 rfl rfl (by simp) rfl ?_
 refine wp_seq (reg_lit ?_)
 refine Ai rfl ?_
 refine L1 (asg (v := .nilIface) rfl) ?_
 refine nil_then ?_
 refine wp_seq (reg_lit ?_)
 refine Mp rfl ?_
 refine Np rfl ?_
 refine L1 (fa70_2 rfl) ?_
 refine Lst3 (v := .int _ _) rfl rfl rfl hR (by decide) ?_
 intro w1 hR kp1
 have hd := hd.kp kp1 (by simp; exact fun h => hE.RS h.symm)
 have kp := kp.trans (kp1.mono (by simp))
 refine nil_then ?_
 refine wp_seq ?_
 refine wp_seq (reg_still mixed (by kernel_rfl) ?_)
 refine S1 (mv (v := .pointer _) rfl) ?_
 refine S1 (nilP rfl) ?_
 refine S1 (fa70_1 rfl) ?_
 refine S1 (ld2 rfl (hR.cellv (by decide) r1)) ?_
 refine S1 (mv (v := .pointer _) rfl) ?_
 refine S1 (nilP rfl) ?_
 refine S1 (fa70_0 rfl) ?_
 refine S1 (ld22 rfl (hR.cellv (by decide) r0)) ?_
 refine S1 (ln und22 rfl) ?_
 refine S1 (bi rfl rfl (bn_geq (v := false) (decide_eq_false (by omega)))) ?_
 refine still_nil ?_
 have kp := kp.drew
 have hR := hR.drew
 have hd := hd.drew
 refine then_n ?_
 refine cond_f rfl ?_
 refine skn ?_
 rcases hd with ⟨h1, h2⟩ | ⟨c, n, g, h1, hS, hn, hg⟩
 ·omega
 simp only [Value.slice.injEq] at h1
 obtain ⟨rfl, -, rfl⟩ := h1
 refine wp_seq (reg_still mixed (by kernel_rfl) ?_)
 refine S1 (mv (v := .pointer _) rfl) ?_
 refine S1 (nilP rfl) ?_
 refine S1 (fa70_0 rfl) ?_
 refine S1 (ld22 rfl (hR.cellv (by decide) r0)) ?_
 refine S1 (mv (v := .pointer _) rfl) ?_
 refine S1 (nilP rfl) ?_
 refine S1 (fa70_1 rfl) ?_
 refine S1 (ld2 rfl (hR.cellv (by decide) r1)) ?_
 refine S1 (ix0 und22 sz5 rfl rfl rfl hp) ?_
 refine S1 (ld5 rfl (hS.cellv (by omega) (hg pos hp))) ?_
 refine S1 (asg (v := .int _ _) rfl) ?_
 refine still_nil ?_
 have kp := kp.drew
 have hR := hR.drew
 have hS := hS.drew
 refine then_n ?_
 refine wp_seq (reg_lit ?_)
 refine Mp rfl ?_
 refine Np rfl ?_
 refine L1 (fa70_1 rfl) ?_
 refine L1 (ld2 rfl (hR.cellv (by decide) r1)) ?_
 refine L1 (bi rfl rfl (bn_add rfl (by omega) (by omega))) ?_
 refine Np rfl ?_
 refine L1 (fa70_1 rfl) ?_
 refine Lst2 (v := .int _ _) rfl rfl rfl hR (by decide) ?_
 intro w1 hR kp1
 have hS := hS.kp kp1 (by simp; exact fun h => hE.RS h.symm)
 have kp := kp.trans (kp1.mono (by simp))
 refine nil_then ?_
 refine wp_seq (reg_lit ?_)
 refine Mi rfl ?_
 refine Ai rfl ?_
 refine L1 (asg (v := .nilIface) rfl) ?_
 refine nil_then ?_
 refine wp_ret ?_
 refine ret2 rfl rfl rfl ?_
 exact ⟨_, rfl, rfl, ⟨_, _, _, hR, r0, rfl, rfl, by omega, .inr ⟨_, n, g, rfl, hS, hn, hg⟩⟩, kp⟩
theorem readByte_eof (E : Env) (w : World) (pos : Nat) (hE : E.Ok) (hG : Gl E w) (hrd : Rd E w pos) (hp : pos = E.N) :
  Ret 82 [.pointer (some ⟨E.R, 0, none⟩)] w fun v w' => v = .tuple #[.int .u8 0, EOFv E] ∧ Rd E w' pos ∧ Kp [E.R] w w' := by
 obtain ⟨v, z, r, hR, r0, r1, r2, hle, hd⟩ := hrd
 have hN := hE.N47
 obtain ⟨sa, sc, rfl⟩ := hd.len
 have kp := Kp.refl [E.R] w
 have hL : ∀ b, b ∈ [E.R] → E.B ≤ b := by simp; exact hE.bR
 refine calls_fr (N := 37) Tryd.func82 rfl rfl (by simp) rfl ?_
 refine wp_seq (reg_lit ?_)
 refine Ai rfl ?_
 refine L1 (asg (v := .nilIface) rfl) ?_
 refine nil_then ?_
 refine wp_seq (reg_lit ?_)
 refine Mp rfl ?_
 refine Np rfl ?_
 refine L1 (fa70_2 rfl) ?_
 refine Lst3 (v := .int _ _) rfl rfl rfl hR (by decide) ?_
 intro w1 hR kp1
 have hd := hd.kp kp1 (by simp; exact fun h => hE.RS h.symm)
 have kp := kp.trans (kp1.mono (by simp))
 refine nil_then ?_
 refine wp_seq ?_
 refine wp_seq (reg_still mixed (by kernel_rfl) ?_)
 refine S1 (mv (v := .pointer _) rfl) ?_
 refine S1 (nilP rfl) ?_
 refine S1 (fa70_1 rfl) ?_
 refine S1 (ld2 rfl (hR.cellv (by decide) r1)) ?_
 refine S1 (mv (v := .pointer _) rfl) ?_
 refine S1 (nilP rfl) ?_
 refine S1 (fa70_0 rfl) ?_
 refine S1 (ld22 rfl (hR.cellv (by decide) r0)) ?_
 refine S1 (ln und22 rfl) ?_
 refine S1 (bi rfl rfl (bn_geq (v := true) (decide_eq_true (by omega)))) ?_
 refine still_nil ?_
 have kp := kp.drew
 have hR := hR.drew
 have hd := hd.drew
 refine then_n ?_
 refine cond_t rfl ?_
 refine wp_seq (reg_still mixed (by kernel_rfl) ?_)
 refine S1 (ld62 rfl (hG.kp kp hL).eof) ?_
 refine S1 (asg (v := .int _ _) rfl) ?_
 refine S1 (asg rfl) ?_
 refine still_nil ?_
 have kp := kp.drew
 have hR := hR.drew
 have hd := hd.drew
 refine then_n ?_
 refine wp_ret ?_
 refine then_r ?_
 refine ret2 rfl rfl rfl ?_
 exact ⟨_, rfl, rfl, ⟨_, _, _, hR, r0, r1, rfl, hle, hd⟩, kp⟩
theorem noEOF_eof (E : Env) (w : World) (hG : Gl E w) : Ret 48 [EOFv E] w fun v w' => v = UEOFv E ∧ w' = w := by
 refine calls_fr (N := 8) Tryd.func48 rfl rfl (by simp) rfl ?_
 refine wp_seq (reg_lit ?_)
 refine L1 (asg (v := .nilIface) rfl) ?_
 refine nil_then ?_
 refine wp_seq ?_
 refine wp_seq (reg_lit ?_)
 refine L1 (mv (v := .iface _ _) rfl) ?_
 refine L1 (ld62 (v := .iface _ _) rfl hG.eof) ?_
 refine L1 (ee_run rfl rfl (eq_same _)) ?_
 refine nil_then ?_
 refine cond_t rfl ?_
 refine wp_seq (reg_lit ?_)
 refine L1 (ld62 (v := .iface _ _) rfl hG.ueof) ?_
 refine L1 (asg (v := .iface _ _) rfl) ?_
 refine nil_then ?_
 refine wp_ret ?_
 refine then_r ?_
 refine ret1 rfl rfl ?_
 exact ⟨_, rfl, rfl, rfl⟩
theorem noEOF_ueof (E : Env) (w : World) (hG : Gl E w) : Ret 48 [UEOFv E] w fun v w' => v = UEOFv E ∧ w' = w := by
 refine calls_fr (N := 8) Tryd.func48 rfl rfl (by simp) rfl ?_
 refine wp_seq (reg_lit ?_)
 refine L1 (asg (v := .nilIface) rfl) ?_
 refine nil_then ?_
 refine wp_seq ?_
 refine wp_seq (reg_lit ?_)
 refine L1 (mv (v := .iface _ _) rfl) ?_
 refine L1 (ld62 (v := .iface _ _) rfl hG.eof) ?_
 refine L1 (ee_run rfl rfl (eq_other (fun h => hG.ne h.symm) hG.hU hG.hE)) ?_
 refine nil_then ?_
 refine cond_f rfl ?_
 refine skn ?_
 refine wp_seq (reg_lit ?_)
 refine L1 (mv (v := .iface _ _) rfl) ?_
 refine L1 (asg (v := .iface _ _) rfl) ?_
 refine nil_then ?_
 refine wp_ret ?_
 refine ret1 rfl rfl ?_
 exact ⟨_, rfl, rfl, rfl⟩
theorem codeOf_eof (E : Env) (w : World) (hG : Gl E w) : Ret 25 [EOFv E] w fun v w' => v = .int .i64 0 ∧ w' = w := by
 refine calls_fr (N := 10) Tryd.func25 rfl rfl (by simp) rfl ?_
 refine wp_seq (reg_lit ?_)
 refine Ai rfl ?_
 refine nil_then ?_
 refine wp_seq ?_
 refine wp_seq (reg_lit ?_)
 refine L1 (mv (v := .iface _ _) rfl) ?_
 refine nil_then ?_
 refine wp_block ?_
 refine wp_seq (reg_lit ?_)
 refine L1 (ld62 (v := .iface _ _) rfl hG.eof) ?_
 refine L1 (ee_run rfl rfl (eq_same _)) ?_
 refine Ab rfl ?_
 refine nil_then ?_
 refine cond_t rfl ?_
 refine wp_seq (reg_lit ?_)
 refine Ai rfl ?_
 refine nil_then ?_
 refine wp_ret ?_
 refine inb_r ?_
 refine then_r ?_
 refine ret1 rfl rfl ?_
 exact ⟨_, rfl, rfl, rfl⟩
theorem codeOf_ueof (E : Env) (w : World) (hG : Gl E w) : Ret 25 [UEOFv E] w fun v w' => v = .int .i64 2 ∧ w' = w := by
 refine calls_fr (N := 10) Tryd.func25 rfl rfl (by simp) rfl ?_
 refine wp_seq (reg_lit ?_)
 refine Ai rfl ?_
 refine nil_then ?_
 refine wp_seq ?_
 refine wp_seq (reg_lit ?_)
 refine L1 (mv (v := .iface _ _) rfl) ?_
 refine nil_then ?_
 refine wp_block ?_
 refine wp_seq (reg_lit ?_)
 refine L1 (ld62 (v := .iface _ _) rfl hG.eof) ?_
 refine L1 (ee_run rfl rfl (eq_other (fun h => hG.ne h.symm) hG.hU hG.hE)) ?_
 refine Ab rfl ?_
 refine nil_then ?_
 refine cond_f rfl ?_
 refine wp_seq (reg_lit ?_)
 refine L1 (ld62 (v := .iface _ _) rfl hG.ueof) ?_
 refine L1 (ee_run rfl rfl (eq_same _)) ?_
 refine Ab rfl ?_
 refine nil_then ?_
 refine cond_t rfl ?_
 refine wp_seq (reg_lit ?_)
 refine Ai rfl ?_
 refine nil_then ?_
 refine wp_ret ?_
 refine inb_r ?_
 refine then_r ?_
 refine ret1 rfl rfl ?_
 exact ⟨_, rfl, rfl, rfl⟩
theorem codeOf_cor (E : Env) (w : World) (hG : Gl E w) (n : Int) : Ret 25 [.iface 107 (.int .i64 n)] w fun v w' => v = .int .i64 1 ∧ w' = w := by
 refine calls_fr (N := 10) Tryd.func25 rfl rfl (by simp) rfl ?_
 refine wp_seq (reg_lit ?_)
 refine Ai rfl ?_
 refine nil_then ?_
 refine wp_seq ?_
 refine wp_seq (reg_lit ?_)
 refine L1 (mv (v := .iface _ _) rfl) ?_
 refine nil_then ?_
 refine wp_block ?_
 refine wp_seq (reg_lit ?_)
 refine L1 (ld62 (v := .iface _ _) rfl hG.eof) ?_
 refine L1 (ee_run rfl rfl (eq_int _ _)) ?_
 refine Ab rfl ?_
 refine nil_then ?_
 refine cond_f rfl ?_
 refine wp_seq (reg_lit ?_)
 refine L1 (ld62 (v := .iface _ _) rfl hG.ueof) ?_
 refine L1 (ee_run rfl rfl (eq_int _ _)) ?_
 refine Ab rfl ?_
 refine nil_then ?_
 refine cond_f rfl ?_
 refine wp_skip ?_
 refine inb_n ?_
 refine then_n ?_
 refine wp_seq (reg_lit ?_)
 refine Ai rfl ?_
 refine nil_then ?_
 refine wp_ret ?_
 refine ret1 rfl rfl ?_
 exact ⟨_, rfl, rfl, rfl⟩
end Go.Proofs.YtejeloeaklpinaaDoor
namespace Go.Proofs.YtejeloeaklpinaaDoor
attribute [local irreducible] wpList wpStill Code.wp Calls fr
def Env.D (E : Env) : Nat := dnum E.d E.N
/-- The reader's own block, and the bits that it holds: nb of them from place p on. -/
structure IS (E : Env) (w : World) (g : Nat → Value) (p nb : Nat) : Prop where
 blk : Bk w E.F 1054 95 g
 r : g 0 = .iface 43 (.pointer (some ⟨E.R, 0, none⟩))
 ro : ∃ n, g 2 = .int .i64 n
 fb : g 3 = .int .u32 (bv E.D p nb)
 fn : g 4 = .int .u64 nb
 nb32 : nb ≤ 32
 rd : ∃ pos, p + nb = 8 * pos ∧ Rd E w pos
theorem IS.drew {E : Env} {w : World} {g : Nat → Value} {p nb : Nat} (h : IS E w g p nb) : IS E w.drew g p nb :=
 ⟨h.blk.drew, h.r, h.ro, h.fb, h.fn, h.nb32, by obtain ⟨q, h1, h2⟩ := h.rd; exact ⟨q, h1, h2.drew⟩⟩
theorem IS.kp {E : Env} {w w' : World} {g : Nat → Value} {p nb : Nat} {L : List Nat} (h : IS E w g p nb) (k : Kp L w w') (hF : E.F ∉ L) (hR : E.R ∉ L) (hS : E.S ∉ L) : IS E w' g p nb :=
 ⟨h.blk.kp k hF, h.r, h.ro, h.fb, h.fn, h.nb32, by obtain ⟨q, h1, h2⟩ := h.rd; exact ⟨q, h1, h2.kp k hR hS⟩⟩
theorem meth_rb (a : Addr) (w : World) : (method (158 + Made.depth) 43 (.pointer (some a)) "ReadByte").run Tryd.prog w = .ok (82, .pointer (some a)) w := by kernel_rfl
theorem nFR {E : Env} (h : E.Ok) : E.F ∉ [E.R] := by simp; exact h.FR
theorem nRF {E : Env} (h : E.Ok) : E.R ∉ [E.F] := by simp; exact fun e => h.FR e.symm
theorem nSF {E : Env} (h : E.Ok) : E.S ∉ [E.F] := by simp; exact fun e => h.FS e.symm
theorem nSR {E : Env} (h : E.Ok) : E.S ∉ [E.R] := by simp; exact fun e => h.RS e.symm
theorem moreBits_ok (E : Env) (w : World) (g : Nat → Value) (p nb : Nat) (hE : E.Ok) (hI : IS E w g p nb) (hnb : nb ≤ 24) (hp : p + nb < 8 * E.N) :
  Ret 41 [.pointer (some ⟨E.F, 0, none⟩)] w fun v w' => v = .nilIface ∧ ∃ g', IS E w' g' p (nb + 8) ∧ Off [2, 3, 4] g g' ∧ Kp [E.F, E.R] w w' := by
 obtain ⟨hF, i0, ⟨ro, i2⟩, i3, i4, -, pos, hpos, hrd⟩ := hI
 have kp := Kp.refl [E.F, E.R] w
 have hlt : pos < E.N := by omega
 have h2 : 2 ^ nb ≤ 2 ^ 24 := Nat.pow_le_pow_right (by omega) hnb
 have hbv := bv_lt E.D p nb
 have hd8 := hE.d8 pos
 have hw : E.d pos * 2 ^ nb < 4294967296 := Nat.lt_of_le_of_lt (Nat.mul_le_mul (Nat.le_of_lt_succ hd8) h2) (by decide)
 have hN := hE.N47
 refine calls_fr (N := 45) Tryd.func41 rfl rfl (by simp) rfl ?_
 refine wp_seq (reg_lit ?_)
 refine L1 (asg (v := .nilIface) rfl) ?_
 refine nil_then ?_
 refine wp_seq (reg_lit ?_)
 refine Mp rfl ?_
 refine Np rfl ?_
 refine L1 (fa95_0 rfl) ?_
 refine L1 (ld80 rfl (hF.cellv (by decide) i0)) ?_
 refine LC (inv0 has82 rfl (meth_rb _)) (readByte_ok E _ pos hE hrd hlt) ?_
 rintro v w1 ⟨rfl, hrd, kp1⟩
 have hF := hF.kp kp1 (nFR hE)
 have kp := kp.trans (kp1.mono (by simp))
 refine L1 (mv (v := .tuple _) rfl) ?_
 refine L1 (ext2_0 rfl) ?_
 refine L1 (ext2_1 rfl) ?_
 refine Ai rfl ?_
 refine L1 (asg (v := .nilIface) rfl) ?_
 refine nil_then ?_
 refine wp_seq ?_
 refine wp_seq (reg_lit ?_)
 refine L1 (mv (v := .nilIface) rfl) ?_
 refine L1 (en_nil rfl rfl) ?_
 refine nil_then ?_
 refine cond_f rfl ?_
 refine skn ?_
 refine wp_seq (reg_lit ?_)
 refine Mp rfl ?_
 refine Np rfl ?_
 refine L1 (fa95_2 rfl) ?_
 refine L1 (ld2 rfl (hF.cellv (by decide) i2)) ?_
 refine L1 (bi rfl rfl (bn_addw)) ?_
 refine Np rfl ?_
 refine L1 (fa95_2 rfl) ?_
 refine Lst2 (v := .int _ _) rfl rfl rfl hF (by decide) ?_
 intro w1 hF kp1
 have hrd := hrd.kp kp1 (nRF hE) (nSF hE)
 have kp := kp.trans (kp1.mono (by simp))
 refine nil_then ?_
 refine wp_seq (reg_tail 11 mixed (by kernel_rfl) ?_)
 refine S1 (mv (v := .pointer _) rfl) ?_
 refine S1 (nilP rfl) ?_
 refine S1 (fa95_3 rfl) ?_
 refine S1 (ld82 rfl (hF.cellv (by decide) i3)) ?_
 refine S1 (mv (v := .int _ _) rfl) ?_
 refine S1 (cv5_82 rfl (wrap_u32n _ (by omega) (by omega))) ?_
 refine S1 (mv (v := .pointer _) rfl) ?_
 refine S1 (nilP rfl) ?_
 refine S1 (fa95_4 rfl) ?_
 refine S1 (ld38 rfl (hF.cellv (by decide) i4)) ?_
 refine S1 (bi rfl rfl (bn_shl32 rfl rfl (by omega) hw)) ?_
 refine still_nil ?_
 have kp := kp.drew
 have hF := hF.drew
 have hrd := hrd.drew
 refine L1 (bi rfl rfl (bn_or32 rfl rfl (by omega) hw)) ?_
 refine Np rfl ?_
 refine L1 (fa95_3 rfl) ?_
 refine Lst82 (v := .int _ _) rfl rfl rfl hF (by decide) ?_
 intro w1 hF kp1
 have hrd := hrd.kp kp1 (nRF hE) (nSF hE)
 have kp := kp.trans (kp1.mono (by simp))
 refine nil_then ?_
 refine wp_seq (reg_lit ?_)
 refine Mp rfl ?_
 refine Np rfl ?_
 refine L1 (fa95_4 rfl) ?_
 refine L1 (ld38 rfl (hF.cellv (by decide) i4)) ?_
 refine L1 (bi rfl rfl (bn_addu rfl (by omega) (by omega))) ?_
 refine Np rfl ?_
 refine L1 (fa95_4 rfl) ?_
 refine Lst38 (v := .int _ _) rfl rfl rfl hF (by decide) ?_
 intro w1 hF kp1
 have hrd := hrd.kp kp1 (nRF hE) (nSF hE)
 have kp := kp.trans (kp1.mono (by simp))
 refine nil_then ?_
 refine wp_seq (reg_lit ?_)
 refine L1 (asg (v := .nilIface) rfl) ?_
 refine nil_then ?_
 refine wp_ret ?_
 refine ret1 rfl rfl ?_
 refine ⟨_, rfl, rfl, _, ⟨hF, i0, ⟨_, rfl⟩, ?_, rfl, by omega, pos + 1, by omega, hrd⟩, ?_, kp⟩
 ·show Value.int .u32 _ = Value.int .u32 _
  rw [or_high _ _ _ hbv, Env.D, bv_more E.d hE.d8 E.N p nb pos hpos hlt]
 ·exact (((Off.refl _ g).upd (by simp) _).upd (by simp) _).upd (by simp) _
theorem moreBits_short (E : Env) (w : World) (g : Nat → Value) (p nb : Nat) (hE : E.Ok) (hG : Gl E w) (hI : IS E w g p nb) (hp : p + nb = 8 * E.N) :
  Ret 41 [.pointer (some ⟨E.F, 0, none⟩)] w fun v w' => v = UEOFv E ∧ IS E w' g p nb ∧ Kp [E.F, E.R] w w' := by
 have hI0 := hI
 have hL : ∀ b, b ∈ [E.F, E.R] → E.B ≤ b := by simp; exact ⟨hE.bF, hE.bR⟩
 obtain ⟨hF, i0, ⟨ro, i2⟩, i3, i4, -, pos, hpos, hrd⟩ := hI
 have kp := Kp.refl [E.F, E.R] w
 refine calls_fr (N := 45) Tryd.func41 rfl rfl (by simp) rfl ?_
 refine wp_seq (reg_lit ?_)
 refine L1 (asg (v := .nilIface) rfl) ?_
 refine nil_then ?_
 refine wp_seq (reg_lit ?_)
 refine Mp rfl ?_
 refine Np rfl ?_
 refine L1 (fa95_0 rfl) ?_
 refine L1 (ld80 rfl (hF.cellv (by decide) i0)) ?_
 refine LC (inv0 has82 rfl (meth_rb _)) (readByte_eof E _ pos hE hG hrd (by omega)) ?_
 rintro v w1 ⟨rfl, hrd, kp1⟩
 have hF := hF.kp kp1 (nFR hE)
 have kp := kp.trans (kp1.mono (by simp))
 refine L1 (mv (v := .tuple _) rfl) ?_
 refine L1 (ext2_0 rfl) ?_
 refine L1 (ext2_1 rfl) ?_
 refine Ai rfl ?_
 refine L1 (asg rfl) ?_
 refine nil_then ?_
 refine wp_seq ?_
 refine wp_seq (reg_lit ?_)
 refine L1 (mv rfl) ?_
 refine L1 (en_held (u := 131) rfl rfl) ?_
 refine nil_then ?_
 refine cond_t rfl ?_
 refine wp_seq (reg_lit ?_)
 refine L1 (mv rfl) ?_
 refine LC (cl1 has48 rfl rfl) (noEOF_eof E _ (hG.kp kp hL)) ?_
 rintro v w1 ⟨rfl, rfl⟩
 refine L1 (asg rfl) ?_
 refine nil_then ?_
 refine wp_ret ?_
 refine then_r ?_
 refine ret1 rfl rfl ?_
 exact ⟨_, rfl, rfl, ⟨hF, i0, ⟨_, i2⟩, i3, i4, hI0.nb32, pos, hpos, hrd⟩, kp⟩
end Go.Proofs.YtejeloeaklpinaaDoor
namespace Go.Proofs.YtejeloeaklpinaaDoor
/-- The address of a slice that is cut at l. -/
def cutA (a : Option Addr) (l m : Nat) : Option Addr := if m = l then a else a.map (·.add l)
theorem cutA_lt (b o l m : Nat) (h : l < m) : cutA (some ⟨b, o, none⟩) l m = some ⟨b, o + l, none⟩ := by
 have : ¬ m = l := by omega
 simp [cutA, this, Addr.add_lit]
theorem cutA_zero (a : Option Addr) (m : Nat) : cutA a 0 m = a := by
 cases a <;> simp [cutA, Addr.add]
section
variable {ρ : Operand → Value} {d : Option Nat} {x y z : Operand} {ty : TypeId} {pos : String} {af : Array Edge} {gd : Option (Nat × Bool)} {w : World}
variable {t e : TypeId} {a : Option Addr} {len cap l h : Nat} {k k' : IntKind} {i j : Int}
theorem elem_of (ht : Tryd.prog.underlying t = some (.slice e)) : Tryd.prog.elem t = e := by
 simp [Program.elem, ht]
theorem sl_lh (ht : Tryd.prog.underlying t = some (.slice e)) (he : ∀ w, (sizeOf e).run Tryd.prog w = .ok 1 w) (hx : ρ x = .slice a len cap) (hy : ρ y = .int k i) (hz : ρ z = .int k' j) (hi : i = (l : Int)) (hj : j = (h : Int)) (h1 : l ≤ h) (h2 : h ≤ cap) :
  (execOp ρ ⟨d, .slice t x (some y) (some z) none, ty, pos, af, gd⟩).run Tryd.prog w = .ok (.value (.slice (cutA a l cap) (h - l) (cap - l))) w := by
 subst hi hj
 have ht' : Tryd.prog.underlying t = some (.slice (Tryd.prog.elem t)) := by rw [elem_of ht]; exact ht
 have hs := run_slice_lh (P := Tryd.prog) w t a len cap ht' k k' (l : Int) (h : Int) (by omega) (by omega) (by omega)
 simp [execOp, hx, hy, hz, run_sliceAt_slice (P := Tryd.prog) w t _ _ _ _ ht', hs, elem_of ht, he, sliced, cutA]
theorem sl_l (ht : Tryd.prog.underlying t = some (.slice e)) (he : ∀ w, (sizeOf e).run Tryd.prog w = .ok 1 w) (hx : ρ x = .slice a len cap) (hy : ρ y = .int k i) (hi : i = (l : Int)) (h1 : l ≤ len) :
  (execOp ρ ⟨d, .slice t x (some y) none none, ty, pos, af, gd⟩).run Tryd.prog w = .ok (.value (.slice (cutA a l cap) (len - l) (cap - l))) w := by
 subst hi
 have ht' : Tryd.prog.underlying t = some (.slice (Tryd.prog.elem t)) := by rw [elem_of ht]; exact ht
 have hs := run_slice_l (P := Tryd.prog) w t a len cap ht' k (l : Int) (by omega) (by omega)
 simp [execOp, hx, hy, run_sliceAt_slice (P := Tryd.prog) w t _ _ _ _ ht', hs, elem_of ht, he, sliced, cutA]
theorem sl_h (ht : Tryd.prog.underlying t = some (.slice e)) (he : ∀ w, (sizeOf e).run Tryd.prog w = .ok 1 w) (hx : ρ x = .slice a len cap) (hz : ρ z = .int k' j) (hj : j = (h : Int)) (h2 : h ≤ cap) :
  (execOp ρ ⟨d, .slice t x none (some z) none, ty, pos, af, gd⟩).run Tryd.prog w = .ok (.value (.slice a h cap)) w := by
 subst hj
 have ht' : Tryd.prog.underlying t = some (.slice (Tryd.prog.elem t)) := by rw [elem_of ht]; exact ht
 have hs := run_slice_h (P := Tryd.prog) w t a len cap ht' k' (h : Int) (by omega) (by omega)
 have ea := cutA_zero a cap
 unfold cutA at ea
 simp [execOp, hx, hz, run_sliceAt_slice (P := Tryd.prog) w t _ _ _ _ ht', hs, elem_of ht, he, sliced, ea]
end
theorem fd90_0 {ρ : Operand → Value} {d : Option Nat} {x : Operand} {ty : TypeId} {pos : String} {af : Array Edge} {gd : Option (Nat × Bool)} {w : World} {b : Nat} (h : ρ x = .pointer (some ⟨b, 1037, none⟩)) : (execOp ρ ⟨d, .fieldAddr 90 x 0, ty, pos, af, gd⟩).run Tryd.prog w = .ok (.value (.pointer (some ⟨b, 1037, none⟩))) w := by
 show (Instr.fieldAt 90 (ρ x) 0 >>= fun v => pure (Next.value v)).run Tryd.prog w = _
 rw [h]
 kernel_rfl
theorem fd90_1 {ρ : Operand → Value} {d : Option Nat} {x : Operand} {ty : TypeId} {pos : String} {af : Array Edge} {gd : Option (Nat × Bool)} {w : World} {b : Nat} (h : ρ x = .pointer (some ⟨b, 1037, none⟩)) : (execOp ρ ⟨d, .fieldAddr 90 x 1, ty, pos, af, gd⟩).run Tryd.prog w = .ok (.value (.pointer (some ⟨b, 1038, none⟩))) w := by
 show (Instr.fieldAt 90 (ρ x) 1 >>= fun v => pure (Next.value v)).run Tryd.prog w = _
 rw [h]
 kernel_rfl
theorem fd90_2 {ρ : Operand → Value} {d : Option Nat} {x : Operand} {ty : TypeId} {pos : String} {af : Array Edge} {gd : Option (Nat × Bool)} {w : World} {b : Nat} (h : ρ x = .pointer (some ⟨b, 1037, none⟩)) : (execOp ρ ⟨d, .fieldAddr 90 x 2, ty, pos, af, gd⟩).run Tryd.prog w = .ok (.value (.pointer (some ⟨b, 1039, none⟩))) w := by
 show (Instr.fieldAt 90 (ρ x) 2 >>= fun v => pure (Next.value v)).run Tryd.prog w = _
 rw [h]
 kernel_rfl
theorem fd90_3 {ρ : Operand → Value} {d : Option Nat} {x : Operand} {ty : TypeId} {pos : String} {af : Array Edge} {gd : Option (Nat × Bool)} {w : World} {b : Nat} (h : ρ x = .pointer (some ⟨b, 1037, none⟩)) : (execOp ρ ⟨d, .fieldAddr 90 x 3, ty, pos, af, gd⟩).run Tryd.prog w = .ok (.value (.pointer (some ⟨b, 1040, none⟩))) w := by
 show (Instr.fieldAt 90 (ρ x) 3 >>= fun v => pure (Next.value v)).run Tryd.prog w = _
 rw [h]
 kernel_rfl
end Go.Proofs.YtejeloeaklpinaaDoor
namespace Go.Proofs.YtejeloeaklpinaaDoor
attribute [local irreducible] wpList wpStill Code.wp Calls fr
/-- The window's four cells. -/
structure DD (E : Env) (g : Nat → Value) (wr rd : Nat) (full : Bool) : Prop where
 hist : g 1037 = .slice (some ⟨E.H, 0, none⟩) 32768 32768
 wr : g 1038 = .int .i64 wr
 rd : g 1039 = .int .i64 rd
 full : g 1040 = .bool full
def ddp (E : Env) : Value := .pointer (some ⟨E.F, 1037, none⟩)
theorem availWrite_c (E : Env) (w : World) (g : Nat → Value) (wr rd : Nat) (full : Bool) (hF : Bk w E.F 1054 95 g) (hD : DD E g wr rd full) (hw : wr ≤ 32768) : Ret 56 [ddp E] w fun v w' => v = .int .i64 ((32768 - wr : Nat) : Int) ∧ w' = w.drew := by
 refine calls_fr (N := 13) Tryd.func56 rfl rfl (by simp [ddp]) rfl ?_
 refine wp_seq (reg_lit ?_)
 refine Ai rfl ?_
 refine nil_then ?_
 refine wp_seq (reg_still mixed (by kernel_rfl) ?_)
 refine S1 (mv (v := .pointer _) rfl) ?_
 refine S1 (nilP rfl) ?_
 refine S1 (fd90_0 rfl) ?_
 refine S1 (ld22 rfl (hF.cellv (by decide) hD.hist)) ?_
 refine S1 (ln und22 rfl) ?_
 refine S1 (mv (v := .pointer _) rfl) ?_
 refine S1 (nilP rfl) ?_
 refine S1 (fd90_1 rfl) ?_
 refine S1 (ld3 rfl (hF.cellv (by decide) hD.wr)) ?_
 refine S1 (bi rfl rfl (bn_sub (c := ((32768 - wr : Nat) : Int)) (by omega) (by omega) (by omega))) ?_
 refine S1 (asg (v := .int _ _) rfl) ?_
 refine still_nil ?_
 have hF := hF.drew
 refine then_n ?_
 refine wp_ret ?_
 refine ret1 rfl rfl ?_
 exact ⟨_, rfl, rfl, rfl⟩
theorem availRead_c (E : Env) (w : World) (g : Nat → Value) (wr rd : Nat) (full : Bool) (hF : Bk w E.F 1054 95 g) (hD : DD E g wr rd full) (hw : wr ≤ 32768) (hr : rd ≤ wr) : Ret 62 [ddp E] w fun v w' => v = .int .i64 ((wr - rd : Nat) : Int) ∧ w' = w.drew := by
 refine calls_fr (N := 12) Tryd.func62 rfl rfl (by simp [ddp]) rfl ?_
 refine wp_seq (reg_lit ?_)
 refine Ai rfl ?_
 refine nil_then ?_
 refine wp_seq (reg_still mixed (by kernel_rfl) ?_)
 refine S1 (mv (v := .pointer _) rfl) ?_
 refine S1 (nilP rfl) ?_
 refine S1 (fd90_1 rfl) ?_
 refine S1 (ld3 rfl (hF.cellv (by decide) hD.wr)) ?_
 refine S1 (mv (v := .pointer _) rfl) ?_
 refine S1 (nilP rfl) ?_
 refine S1 (fd90_2 rfl) ?_
 refine S1 (ld3 rfl (hF.cellv (by decide) hD.rd)) ?_
 refine S1 (bi rfl rfl (bn_sub (c := ((wr - rd : Nat) : Int)) (by omega) (by omega) (by omega))) ?_
 refine S1 (asg (v := .int _ _) rfl) ?_
 refine still_nil ?_
 have hF := hF.drew
 refine then_n ?_
 refine wp_ret ?_
 refine ret1 rfl rfl ?_
 exact ⟨_, rfl, rfl, rfl⟩
theorem histSize_c (E : Env) (w : World) (g : Nat → Value) (wr rd : Nat) (full : Bool) (hF : Bk w E.F 1054 95 g) (hD : DD E g wr rd full) : Ret 58 [ddp E] w fun v w' => v = .int .i64 ((if full then 32768 else wr : Nat) : Int) ∧ w' = w := by
 refine calls_fr (N := 16) Tryd.func58 rfl rfl (by simp [ddp]) rfl ?_
 refine wp_seq (reg_lit ?_)
 refine Ai rfl ?_
 refine nil_then ?_
 refine wp_seq ?_
 refine wp_seq (reg_lit ?_)
 refine Mp rfl ?_
 refine Np rfl ?_
 refine L1 (fd90_3 rfl) ?_
 refine L1 (ld4 rfl (hF.cellv (by decide) hD.full)) ?_
 refine nil_then ?_
 cases full
 ·skip
  refine cond_f rfl ?_
  refine skn ?_
  refine wp_seq (reg_lit ?_)
  refine Mp rfl ?_
  refine Np rfl ?_
  refine L1 (fd90_1 rfl) ?_
  refine L1 (ld3 rfl (hF.cellv (by decide) hD.wr)) ?_
  refine Ai rfl ?_
  refine nil_then ?_
  refine wp_ret ?_
  refine ret1 rfl rfl ?_
  exact ⟨_, rfl, rfl, rfl⟩
 ·skip
  refine cond_t rfl ?_
  refine wp_seq (reg_lit ?_)
  refine Mp rfl ?_
  refine Np rfl ?_
  refine L1 (fd90_0 rfl) ?_
  refine L1 (ld22 rfl (hF.cellv (by decide) hD.hist)) ?_
  refine L1 (ln und22 rfl) ?_
  refine Ai rfl ?_
  refine nil_then ?_
  refine wp_ret ?_
  refine then_r ?_
  refine ret1 rfl rfl ?_
  exact ⟨_, rfl, rfl, rfl⟩
theorem writeSlice_c (E : Env) (w : World) (g : Nat → Value) (wr rd : Nat) (full : Bool) (hF : Bk w E.F 1054 95 g) (hD : DD E g wr rd full) (hw : wr < 32768) : Ret 63 [ddp E] w fun v w' => v = .slice (some ⟨E.H, wr, none⟩) (32768 - wr) (32768 - wr) ∧ w' = w.drew := by
 refine calls_fr (N := 12) Tryd.func63 rfl rfl (by simp [ddp]) rfl ?_
 refine wp_seq (reg_lit ?_)
 refine L1 (asg (v := .slice _ _ _) rfl) ?_
 refine nil_then ?_
 refine wp_seq (reg_still mixed (by kernel_rfl) ?_)
 refine S1 (mv (v := .pointer _) rfl) ?_
 refine S1 (nilP rfl) ?_
 refine S1 (fd90_0 rfl) ?_
 refine S1 (ld22 rfl (hF.cellv (by decide) hD.hist)) ?_
 refine S1 (mv (v := .pointer _) rfl) ?_
 refine S1 (nilP rfl) ?_
 refine S1 (fd90_1 rfl) ?_
 refine S1 (ld3 rfl (hF.cellv (by decide) hD.wr)) ?_
 refine S1 (sl_l und22 sz5 rfl rfl rfl (by omega)) ?_
 refine S1 (asg (v := .slice _ _ _) rfl) ?_
 refine still_nil ?_
 have hF := hF.drew
 refine then_n ?_
 refine wp_ret ?_
 refine ret1 (v := .slice _ _ _) rfl rfl ?_
 exact ⟨_, rfl, by rw [cutA_lt _ _ _ _ hw, Nat.zero_add], rfl⟩
theorem writeMark_c (E : Env) (w : World) (g : Nat → Value) (wr rd : Nat) (full : Bool) (hF : Bk w E.F 1054 95 g) (hD : DD E g wr rd full) (n : Nat) (hw : wr + n ≤ 32768) : Ret 64 [ddp E, .int .i64 n] w fun v w' => v = .tuple #[] ∧ Bk w' E.F 1054 95 (upd g 1038 (.int .i64 ((wr + n : Nat) : Int))) ∧ Kp [E.F] w w' := by
 refine calls_fr (N := 12) Tryd.func64 rfl rfl (by simp [ddp]) rfl ?_
 have kp := Kp.refl [E.F] w
 refine reg_lit ?_
 refine Mp rfl ?_
 refine Np rfl ?_
 refine L1 (fd90_1 rfl) ?_
 refine L1 (ld3 rfl (hF.cellv (by decide) hD.wr)) ?_
 refine Mi rfl ?_
 refine L1 (bi rfl rfl (bn_add (c := ((wr + n : Nat) : Int)) (by omega) (by omega) (by omega))) ?_
 refine Np rfl ?_
 refine L1 (fd90_1 rfl) ?_
 refine Lst3 (v := .int _ _) rfl rfl rfl hF (by decide) ?_
 intro w1 hF kp1
 have kp := kp.trans (kp1.mono (by simp))
 refine wpList_nil ?_
 refine end0 rfl ?_
 exact ⟨_, rfl, rfl, hF, kp⟩
theorem writeByte_c (E : Env) (w : World) (g : Nat → Value) (wr rd : Nat) (full : Bool) (hF : Bk w E.F 1054 95 g) (hD : DD E g wr rd full) (hE : E.Ok) (hs : Nat → Value) (hH : Bk w E.H 32768 5 hs) (c : Nat) (hw : wr < 32768) : Ret 55 [ddp E, .int .u8 c] w fun v w' => v = .tuple #[] ∧ Bk w' E.F 1054 95 (upd g 1038 (.int .i64 ((wr + 1 : Nat) : Int))) ∧ Bk w' E.H 32768 5 (upd hs wr (.int .u8 c)) ∧ Kp [E.F, E.H] w w' := by
 refine calls_fr (N := 21) Tryd.func55 rfl rfl (by simp [ddp]) rfl ?_
 have kp := Kp.refl [E.F, E.H] w
 refine wp_seq (reg_tail 9 mixed (by kernel_rfl) ?_)
 refine S1 (mv (v := .pointer _) rfl) ?_
 refine S1 (nilP rfl) ?_
 refine S1 (fd90_0 rfl) ?_
 refine S1 (ld22 rfl (hF.cellv (by decide) hD.hist)) ?_
 refine S1 (mv (v := .pointer _) rfl) ?_
 refine S1 (nilP rfl) ?_
 refine S1 (fd90_1 rfl) ?_
 refine S1 (ld3 rfl (hF.cellv (by decide) hD.wr)) ?_
 refine S1 (mv (v := .int _ _) rfl) ?_
 refine still_nil ?_
 have kp := kp.drew
 have hF := hF.drew
 have hH := hH.drew
 refine L1 (ix0 und22 sz5 rfl rfl rfl hw) ?_
 refine Lst5 (v := .int _ _) rfl rfl rfl hH hw ?_
 intro w1 hH kp1
 have hF := hF.kp kp1 (by simp; exact hE.FH)
 have kp := kp.trans (kp1.mono (by simp))
 refine nil_then ?_
 refine reg_lit ?_
 refine Mp rfl ?_
 refine Np rfl ?_
 refine L1 (fd90_1 rfl) ?_
 refine L1 (ld3 rfl (hF.cellv (by decide) hD.wr)) ?_
 refine L1 (bi rfl rfl (bn_add (c := ((wr + 1 : Nat) : Int)) (by omega) (by omega) (by omega))) ?_
 refine Np rfl ?_
 refine L1 (fd90_1 rfl) ?_
 refine Lst3 (v := .int _ _) rfl rfl rfl hF (by decide) ?_
 intro w1 hF kp1
 have hH := hH.kp kp1 (by simp; exact fun h => hE.FH h.symm)
 have kp := kp.trans (kp1.mono (by simp))
 refine wpList_nil ?_
 refine end0 rfl ?_
 exact ⟨_, rfl, rfl, hF, hH, kp⟩
theorem readFlush_c (E : Env) (w : World) (g : Nat → Value) (wr rd : Nat) (full : Bool) (hF : Bk w E.F 1054 95 g) (hD : DD E g wr rd full) (hw : wr ≤ 32768) (hr : rd ≤ wr) : Ret 50 [ddp E] w fun v w' => v = .slice (cutA (some ⟨E.H, 0, none⟩) rd 32768) (wr - rd) (32768 - rd) ∧ ∃ g', Bk w' E.F 1054 95 g' ∧ DD E g' (if wr = 32768 then 0 else wr) (if wr = 32768 then 0 else wr) (full || decide (wr = 32768)) ∧ Off [1038, 1039, 1040] g g' ∧ Kp [E.F] w w' := by
 refine calls_fr (N := 44) Tryd.func50 rfl rfl (by simp [ddp]) rfl ?_
 have kp := Kp.refl [E.F] w
 refine wp_seq (reg_lit ?_)
 refine L1 (asg (v := .slice _ _ _) rfl) ?_
 refine nil_then ?_
 refine wp_seq (reg_still mixed (by kernel_rfl) ?_)
 refine S1 (mv (v := .pointer _) rfl) ?_
 refine S1 (nilP rfl) ?_
 refine S1 (fd90_0 rfl) ?_
 refine S1 (ld22 rfl (hF.cellv (by decide) hD.hist)) ?_
 refine S1 (mv (v := .pointer _) rfl) ?_
 refine S1 (nilP rfl) ?_
 refine S1 (fd90_2 rfl) ?_
 refine S1 (ld3 rfl (hF.cellv (by decide) hD.rd)) ?_
 refine S1 (mv (v := .pointer _) rfl) ?_
 refine S1 (nilP rfl) ?_
 refine S1 (fd90_1 rfl) ?_
 refine S1 (ld3 rfl (hF.cellv (by decide) hD.wr)) ?_
 refine S1 (sl_lh und22 sz5 rfl rfl rfl rfl rfl (by omega) (by omega)) ?_
 refine S1 (asg (v := .slice _ _ _) rfl) ?_
 refine still_nil ?_
 have kp := kp.drew
 have hF := hF.drew
 refine then_n ?_
 refine wp_seq (reg_lit ?_)
 refine Mp rfl ?_
 refine Mp rfl ?_
 refine Np rfl ?_
 refine L1 (fd90_1 rfl) ?_
 refine L1 (ld3 rfl (hF.cellv (by decide) hD.wr)) ?_
 refine Np rfl ?_
 refine L1 (fd90_2 rfl) ?_
 refine Lst3 (v := .int _ _) rfl rfl rfl hF (by decide) ?_
 intro w1 hF kp1
 have kp := kp.trans (kp1.mono (by simp))
 refine nil_then ?_
 refine wp_seq ?_
 by_cases hfull : wr = 32768
 ·skip
  refine wp_seq (reg_still mixed (by kernel_rfl) ?_)
  refine S1 (mv (v := .pointer _) rfl) ?_
  refine S1 (nilP rfl) ?_
  refine S1 (fd90_1 rfl) ?_
  refine S1 (ld3 rfl (hF.cellv (by decide) hD.wr)) ?_
  refine S1 (mv (v := .pointer _) rfl) ?_
  refine S1 (nilP rfl) ?_
  refine S1 (fd90_0 rfl) ?_
  refine S1 (ld22 rfl (hF.cellv (by decide) hD.hist)) ?_
  refine S1 (ln und22 rfl) ?_
  refine S1 (bi rfl rfl (bn_eql (v := true) (decide_eq_true (by omega)))) ?_
  refine still_nil ?_
  have kp := kp.drew
  have hF := hF.drew
  refine then_n ?_
  refine cond_t rfl ?_
  refine wp_seq (reg_lit ?_)
  refine Mp rfl ?_
  refine Mp rfl ?_
  refine Np rfl ?_
  refine L1 (fd90_1 rfl) ?_
  refine Lst3 (v := .int _ _) rfl rfl rfl hF (by decide) ?_
  intro w1 hF kp1
  have kp := kp.trans (kp1.mono (by simp))
  refine Np rfl ?_
  refine L1 (fd90_2 rfl) ?_
  refine Lst3 (v := .int _ _) rfl rfl rfl hF (by decide) ?_
  intro w1 hF kp1
  have kp := kp.trans (kp1.mono (by simp))
  refine nil_then ?_
  refine reg_lit ?_
  refine Mp rfl ?_
  refine Np rfl ?_
  refine L1 (fd90_3 rfl) ?_
  refine Lst4 (v := .bool _) rfl rfl rfl hF (by decide) ?_
  intro w1 hF kp1
  have kp := kp.trans (kp1.mono (by simp))
  refine nt ?_
  refine wp_seq (reg_lit ?_)
  refine Ms rfl ?_
  refine L1 (asg (v := .slice _ _ _) rfl) ?_
  refine nil_then ?_
  refine wp_ret ?_
  refine ret1 rfl rfl ?_
  refine ⟨_, rfl, rfl, _, hF, ?_, ?_, kp⟩
  ·rw [if_pos hfull]
   exact ⟨hD.hist, rfl, rfl, by simp [hfull]; rfl⟩
  ·exact ((((Off.refl _ g).upd (by simp) _).upd (by simp) _).upd (by simp) _).upd (by simp) _
 ·skip
  refine wp_seq (reg_still mixed (by kernel_rfl) ?_)
  refine S1 (mv (v := .pointer _) rfl) ?_
  refine S1 (nilP rfl) ?_
  refine S1 (fd90_1 rfl) ?_
  refine S1 (ld3 rfl (hF.cellv (by decide) hD.wr)) ?_
  refine S1 (mv (v := .pointer _) rfl) ?_
  refine S1 (nilP rfl) ?_
  refine S1 (fd90_0 rfl) ?_
  refine S1 (ld22 rfl (hF.cellv (by decide) hD.hist)) ?_
  refine S1 (ln und22 rfl) ?_
  refine S1 (bi rfl rfl (bn_eql (v := false) (decide_eq_false (by omega)))) ?_
  refine still_nil ?_
  have kp := kp.drew
  have hF := hF.drew
  refine then_n ?_
  refine cond_f rfl ?_
  refine skn ?_
  refine wp_seq (reg_lit ?_)
  refine Ms rfl ?_
  refine L1 (asg (v := .slice _ _ _) rfl) ?_
  refine nil_then ?_
  refine wp_ret ?_
  refine ret1 rfl rfl ?_
  refine ⟨_, rfl, rfl, _, hF, ?_, ?_, kp⟩
  ·rw [if_neg hfull]
   exact ⟨hD.hist, hD.wr, rfl, by simp [hfull]; exact hD.full⟩
  ·exact (Off.refl _ g).upd (by simp) _
end Go.Proofs.YtejeloeaklpinaaDoor
namespace Go.Proofs.YtejeloeaklpinaaDoor
/-- How many codes are of one length. -/
def cnt (L : List Nat) (n : Nat) : Nat := (L.filter (· == n)).length
/-- The first code of a length. -/
def nc (L : List Nat) : Nat → Nat
 | 0 => 0
 | n + 1 => 2 * (nc L n + (if n = 0 then 0 else cnt L n))
/-- The greatest length, and the least that is not 0. -/
def mx : List Nat → Nat
 | [] => 0
 | a :: l => max a (mx l)
def mn : List Nat → Nat
 | [] => 0
 | a :: l => if a = 0 then mn l else if mn l = 0 then a else min a (mn l)
/-- A number's lowest n bits turned about. -/
def rev : Nat → Nat → Nat
 | 0, _ => 0
 | n + 1, x => rev n (x / 2) + x % 2 * 2 ^ n
/-- The code of symbol s. -/
def cod (L : List Nat) (s : Nat) : Nat := nc L (L.getD s 0) + cnt (L.take s) (L.getD s 0)
/-- The bits X begin with the code of s. -/
def covers (L : List Nat) (X s : Nat) : Bool := L.getD s 0 != 0 && X % 2 ^ L.getD s 0 == rev (L.getD s 0) (cod L s)
/-- The look-up: 16 * symbol + length; 0: none. -/
def lkL (L : List Nat) (X : Nat) : Nat :=
 match (List.range L.length).find? (covers L X) with
 | some s => 16 * s + L.getD s 0
 | none => 0
/-- A set of codes that the reader takes: all codes are taken, or there is one of one bit, or none. -/
def okL (L : List Nat) : Bool := mx L == 0 || nc L (mx L) + cnt L (mx L) == 2 ^ mx L || (mx L == 1 && cnt L 1 == 1)
/-- Codes as the reader keeps them: how many bits it fetches at least, and the look-up. -/
structure Cd where
 m : Nat
 lk : Nat → Nat
def cdL (L : List Nat) : Cd := ⟨mn L, lkL L⟩
def fixL : List Nat := List.replicate 144 8 ++ List.replicate 112 9 ++ List.replicate 24 7 ++ List.replicate 8 8
/-- The source: so many bytes, and all their bits as one number. -/
structure Src where
 N : Nat
 D : Nat
/-- How many bytes are read when n bits from p on are held. -/
def rdTo (p pos n : Nat) : Nat := max pos ((p + n + 7) / 8)
inductive Mode where
 | next
 | data (n : Nat)
 | huff (hl : Cd) (hd : Option Cd) (c : Option (Nat × Nat))
/-- The machine: place (bit), bytes read, all that was told (behind the dictionary), the last block, what comes next, the error (0 none, 1 end, 2 too short, 3 refused), how much was handed on, how much of that was taken. -/
structure A where
 p : Nat
 pos : Nat
 out : List Nat
 fin : Bool
 md : Mode
 err : Nat
 fl : Nat
 e : Nat
def A.short (S : Src) (a : A) : A := { a with pos := S.N, err := 2 }
def A.bad (a : A) : A := { a with err := 3 }
def A.flush (a : A) : A := { a with fl := a.out.length }
def A.finish (a : A) : A := if a.fin then { a with md := .next, err := 1, fl := a.out.length } else { a with md := .next }
/-- What is fetched: a value and the place behind it, too few bits, or a refusal with the bytes read. -/
inductive Got where
 | ok (v p pos : Nat)
 | short
 | bad (p pos : Nat)
def getBits (S : Src) (p pos n : Nat) : Got := if p + n ≤ 8 * S.N then .ok (bv S.D p n) (p + n) (rdTo p pos n) else .short
def getSym (S : Src) (c : Cd) (p pos : Nat) : Got :=
 let v := c.lk (S.D / 2 ^ p)
 if v % 16 = 0 then (if p + c.m ≤ 8 * S.N then .bad p (rdTo p pos c.m) else .short)
 else if p + max c.m (v % 16) ≤ 8 * S.N then .ok (v / 16) (p + v % 16) (rdTo p pos (max c.m (v % 16))) else .short
def Got.bind (x : Got) (f : Nat → Nat → Nat → Got) : Got :=
 match x with
 | .ok v p pos => f v p pos
 | .short => .short
 | .bad p pos => .bad p pos
/-- The length that a symbol tells: its base and how many bits more. -/
def lenOf (v : Nat) : Nat × Nat :=
 if v < 265 then (v - 254, 0) else if v < 269 then (v * 2 - 519, 1) else if v < 273 then (v * 4 - 1057, 2) else if v < 277 then (v * 8 - 2149, 3)
 else if v < 281 then (v * 16 - 4365, 4) else if v < 285 then (v * 32 - 8861, 5) else (258, 0)
def getLen (S : Src) (v p pos : Nat) : Got :=
 if 286 ≤ v then .bad p pos else if (lenOf v).2 = 0 then .ok (lenOf v).1 p pos else (getBits S p pos (lenOf v).2).bind fun x p pos => .ok ((lenOf v).1 + x) p pos
def getDist (S : Src) (hd : Option Cd) (p pos : Nat) : Got :=
 ((match hd with
  | none => (getBits S p pos 5).bind fun x p pos => .ok (rev 5 x) p pos
  | some c => getSym S c p pos) : Got).bind fun d p pos =>
   if d < 4 then .ok (d + 1) p pos
   else if d < 30 then (getBits S p pos ((d - 2) / 2)).bind fun x p pos => .ok (2 ^ ((d - 2) / 2 + 1) + 1 + (d % 2 * 2 ^ ((d - 2) / 2) + x)) p pos
   else .bad p pos
/-- Copies from d back, one byte behind the other. -/
def lz (out : List Nat) (d : Nat) : Nat → List Nat
 | 0 => out
 | k + 1 => lz out d k ++ [(lz out d k).getD ((lz out d k).length - d) 0]
def avail (out : List Nat) : Nat := 32768 - out.length % 32768
/-- One round of a block with codes: true where the step ends. -/
def mHuff (S : Src) (a : A) (hl : Cd) (hd : Option Cd) : Option (Nat × Nat) → A × Bool
 | none =>
  match getSym S hl a.p a.pos with
  | .short => (a.short S, true)
  | .bad p pos => ({ a with p := p, pos := pos }.bad, true)
  | .ok v p pos =>
   if v < 256 then
    (if (a.out.length + 1) % 32768 = 0 then ({ a with p := p, pos := pos, out := a.out ++ [v], md := .huff hl hd none }.flush, true)
     else ({ a with p := p, pos := pos, out := a.out ++ [v], md := .huff hl hd none }, false))
   else if v = 256 then ({ a with p := p, pos := pos }.finish, true)
   else match getLen S v p pos with
    | .short => (a.short S, true)
    | .bad p pos => ({ a with p := p, pos := pos }.bad, true)
    | .ok len p pos => match getDist S hd p pos with
     | .short => (a.short S, true)
     | .bad p pos => ({ a with p := p, pos := pos }.bad, true)
     | .ok dist p pos => if min a.out.length 32768 < dist then ({ a with p := p, pos := pos }.bad, true)
      else ({ a with p := p, pos := pos, md := .huff hl hd (some (len, dist)) }, false)
 | some (len, dist) =>
  if avail a.out ≤ len then ({ a with out := lz a.out dist (avail a.out), md := .huff hl hd (some (len - avail a.out, dist)) }.flush, true)
  else ({ a with out := lz a.out dist len, md := .huff hl hd none }, false)
/-- Bytes of the source. -/
def bytesAt (S : Src) (pos : Nat) : Nat → List Nat
 | 0 => []
 | n + 1 => bv S.D (8 * pos) 8 :: bytesAt S (pos + 1) n
/-- A block that is as it stands: its head. -/
def mStored (S : Src) (a : A) : A × Bool :=
 if S.N < a.pos + 4 then (a.short S, true)
 else if bv S.D (8 * a.pos) 16 + bv S.D (8 * a.pos + 16) 16 ≠ 65535 then ({ a with p := 8 * (a.pos + 4), pos := a.pos + 4 }.bad, true)
 else if bv S.D (8 * a.pos) 16 = 0 then ({ a with p := 8 * (a.pos + 4), pos := a.pos + 4 }.flush.finish, true)
 else ({ a with p := 8 * (a.pos + 4), pos := a.pos + 4, md := .data (bv S.D (8 * a.pos) 16) }, false)
def mData (S : Src) (a : A) (n : Nat) : A × Bool :=
 if S.N < a.pos + min n (avail a.out) then ({ a with out := a.out ++ bytesAt S a.pos (S.N - a.pos) }.short S, true)
 else if avail a.out ≤ n then ({ a with p := 8 * (a.pos + avail a.out), pos := a.pos + avail a.out, out := a.out ++ bytesAt S a.pos (avail a.out), md := .data (n - avail a.out) }.flush, true)
 else ({ a with p := 8 * (a.pos + n), pos := a.pos + n, out := a.out ++ bytesAt S a.pos n }.finish, true)
/-- The lengths of a block's codes. -/
def clLens (S : Src) : Nat → Nat → Nat → (Nat → Nat) → Option ((Nat → Nat) × Nat × Nat)
 | 0, p, pos, f => some (f, p, pos)
 | k + 1, p, pos, f => match clLens S k p pos f with
  | none => none
  | some (f, p, pos) => if p + 3 ≤ 8 * S.N then some (fun j => if j = [16, 17, 18, 0, 8, 7, 9, 6, 10, 5, 11, 4, 12, 3, 13, 2, 14, 1, 15].getD k 0 then bv S.D p 3 else f j, p + 3, rdTo p pos 3) else none
/-- The lengths told by codes: the list so far is in lens. -/
inductive Lens where
 | ok (l : List Nat) (p pos : Nat)
 | short
 | bad (p pos : Nat)
def rdLens (S : Src) (c : Cd) (n : Nat) : Nat → List Nat → Nat → Nat → Lens
 | 0, l, p, pos => .ok l p pos
 | fuel + 1, l, p, pos =>
  if n ≤ l.length then .ok l p pos else
  match getSym S c p pos with
  | .short => .short
  | .bad p pos => .bad p pos
  | .ok x p pos =>
   if x < 16 then rdLens S c n fuel (l ++ [x]) p pos
   else if x = 16 ∧ l.length = 0 then .bad p pos
   else match getBits S p pos (if x = 16 then 2 else if x = 17 then 3 else 7) with
    | .short => .short
    | .bad p pos => .bad p pos
    | .ok r p pos =>
     let rep := (if x = 18 then 11 else 3) + r
     if n < l.length + rep then .bad p pos
     else rdLens S c n fuel (l ++ List.replicate rep (if x = 16 then l.getD (l.length - 1) 0 else 0)) p pos
/-- A block with codes of its own: its head. -/
def mDyn (S : Src) (a : A) : A × Bool :=
 if 8 * S.N < a.p + 14 then (a.short S, true) else
 let pos := rdTo a.p a.pos 14
 let v := bv S.D a.p 14
 let nlit := v % 32 + 257
 let ndist := v / 32 % 32 + 1
 let ncl := v / 1024 + 4
 if 286 < nlit ∨ 30 < ndist then ({ a with pos := pos }.bad, true) else
 match clLens S ncl (a.p + 14) pos (fun _ => 0) with
 | none => (a.short S, true)
 | some (f, p, pos) =>
  let cl := (List.range 19).map f
  if okL cl = false then ({ a with p := p, pos := pos }.bad, true) else
  match rdLens S (cdL cl) (nlit + ndist) (nlit + ndist) [] p pos with
  | .short => (a.short S, true)
  | .bad p pos => ({ a with p := p, pos := pos }.bad, true)
  | .ok l p pos =>
   if okL (l.take nlit) = false ∨ okL (l.drop nlit) = false then ({ a with p := p, pos := pos }.bad, true)
   else ({ a with p := p, pos := pos, md := .huff ⟨max (mn (l.take nlit)) (l.getD 256 0), lkL (l.take nlit)⟩ (some (cdL (l.drop nlit))) none }, false)
/-- A block's head. -/
def mNext (S : Src) (a : A) : A × Bool :=
 if 8 * S.N < a.p + 3 then (a.short S, true) else
 let b : A := { a with p := a.p + 3, pos := rdTo a.p a.pos 3, fin := decide (bv S.D a.p 3 % 2 = 1) }
 if bv S.D a.p 3 / 2 = 0 then mStored S b
 else if bv S.D a.p 3 / 2 = 1 then ({ b with md := .huff (cdL fixL) none none }, false)
 else if bv S.D a.p 3 / 2 = 2 then mDyn S b
 else (b.bad, true)
def mic (S : Src) (a : A) : A × Bool :=
 match a.md with
 | .next => mNext S a
 | .data n => mData S a n
 | .huff hl hd c => mHuff S a hl hd c
/-- What one step of the reader comes to. -/
inductive Runs (S : Src) : A → A → Prop where
 | stop {a b : A} : mic S a = (b, true) → Runs S a b
 | more {a b c : A} : mic S a = (b, false) → Runs S b c → Runs S a c
theorem Runs.det {S : Src} {a b c : A} (h : Runs S a b) (k : Runs S a c) : b = c := by
 induction h with
 | stop h => cases k with
  | stop k => rw [h] at k; exact congrArg Prod.fst k
  | more k _ => rw [h] at k; exact absurd (congrArg Prod.snd k) (by simp)
 | more h _ ih => cases k with
  | stop k => rw [h] at k; exact absurd (congrArg Prod.snd k) (by simp)
  | more k k2 => rw [h] at k; have := congrArg Prod.fst k; simp only at this; subst this; exact ih k2
/-- What a Read of so many bytes comes to: how many, the error, the machine behind it. -/
def A.late (a : A) : A := if a.err ≠ 0 ∧ a.e = a.fl then a.flush else a
inductive Reads (S : Src) (n : Nat) : A → Nat → Nat → A → Prop where
 | give {a : A} : a.e < a.fl → Reads S n a (min n (a.fl - a.e)) (if a.fl - a.e ≤ n then a.err else 0) { a with e := a.e + min n (a.fl - a.e) }
 | done {a : A} : a.e = a.fl → a.err ≠ 0 → Reads S n a 0 a.err a
 | step {a b c : A} {k er : Nat} : a.e = a.fl → a.err = 0 → Runs S a b → Reads S n b.late k er c → Reads S n a k er c
theorem Reads.det {S : Src} {n : Nat} {a b c : A} {k k' er er' : Nat} (h : Reads S n a k er b) (h' : Reads S n a k' er' c) : k = k' ∧ er = er' ∧ b = c := by
 induction h with
 | give h => cases h' with
  | give h' => exact ⟨rfl, rfl, rfl⟩
  | done h1 _ => omega
  | step h1 _ _ _ => omega
 | done h1 h2 => cases h' with
  | give h' => omega
  | done h1 _ => exact ⟨rfl, rfl, rfl⟩
  | step _ h3 _ _ => omega
 | step h1 h2 hr _ ih => cases h' with
  | give h' => omega
  | done _ h3 => omega
  | step _ _ hr' hx => rw [hr.det hr'] at *; exact ih hx
end Go.Proofs.YtejeloeaklpinaaDoor
namespace Go.Proofs.YtejeloeaklpinaaDoor
open Go
section
variable {P : Program} {ops : Array Oper} {md : Region.Mode} {C : World → Prop}
/-- What an operation comes to: a value, nothing, or a call that returns. -/
def uponE (P : Program) (o : Oper) (a : Act) (K : Act → World → Prop) : Result Next → Prop
 | .ok (.value v) w' => K (a.put o.dst v) w'
 | .ok .skip w' => K (a.put o.dst undef) w'
 | .ok (.enter f args) w' => Calls P f args w' fun en w'' => ∃ v, en = .returned v ∧ K (a.put o.dst v) w''
 | _ => False
/-- One operation by its run, its worlds in C. -/
def eOper (P : Program) (ops : Array Oper) (C : World → Prop) (o : Oper) (K : Act → World → Prop) (a : Act) (w : World) : Prop :=
 if Region.wanted o (yielded ops a.tmps) = true then uponE P o a (fun a' w' => C w' ∧ K a' w') ((execOp a.eval o).run P w) else K (a.put o.dst undef) w
def eOp (P : Program) (ops : Array Oper) (C : World → Prop) (i : Nat) (K : Act → World → Prop) (a : Act) (w : World) : Prop :=
 match ops[i]? with
 | none => K a w
 | some o => eOper P ops C o K a w
def aE (P : Program) (md : Region.Mode) (ops : Array Oper) (C : World → Prop) (Q : Act → World → Prop) : Nat → Array Bool → Act → World → Prop
 | 0, listed, a, w => Region.ready md ops listed = [] ∧ Q a w
 | fuel + 1, listed, a, w => (Region.ready md ops listed = [] → Q a w) ∧
  ∀ i ∈ Region.ready md ops listed, eOp P ops C i (aE P md ops C Q fuel (listed.setIfInBounds i true)) a w
theorem uponE_upon {o : Oper} {a : Act} {K K' : Act → World → Prop} {Q : Exit → Act → World → Prop} (h : ∀ a w, K a w → K' a w) {r : Result Next}
  (hh : uponE P o a K r) : o.upon P a K' Q r := by
 cases r with
 | ok n w' =>
  cases n <;> simp only [uponE] at hh <;> simp only [Oper.upon]
  case value => exact h _ _ hh
  case skip => exact h _ _ hh
  case enter f args => exact hh.mono fun en w'' ⟨v, he, hr⟩ => by subst he; exact h _ _ hr
 | halt x w' => simp only [uponE] at hh
theorem uponE_mono {o : Oper} {a : Act} {K K' : Act → World → Prop} (h : ∀ a w, K a w → K' a w) {r : Result Next} (hh : uponE P o a K r) : uponE P o a K' r := by
 cases r with
 | ok n w' =>
  cases n <;> simp only [uponE] at hh ⊢
  case value => exact h _ _ hh
  case skip => exact h _ _ hh
  case enter f args => exact hh.mono fun en w'' ⟨v, he, hr⟩ => ⟨v, he, h _ _ hr⟩
 | halt x w' => simp only [uponE] at hh
theorem uponE_put {oi oj : Oper} {v : Value} {a : Act} {K : Act → World → Prop} (h2 : ∀ x y, (a.put oi.dst x).put oj.dst y = (a.put oj.dst y).put oi.dst x) {r : Result Next}
  (hh : uponE P oj (a.put oi.dst v) K r) : uponE P oj a (fun a' w' => (∃ u, a' = a.put oj.dst u) ∧ K (a'.put oi.dst v) w') r := by
 cases r with
 | ok n w' =>
  cases n <;> simp only [uponE] at hh ⊢
  case value u => exact ⟨⟨_, rfl⟩, by rw [← h2]; exact hh⟩
  case skip => exact ⟨⟨_, rfl⟩, by rw [← h2]; exact hh⟩
  case enter f args => exact hh.mono fun en w'' ⟨u, he, hr⟩ => ⟨u, he, ⟨_, rfl⟩, by rw [← h2]; exact hr⟩
 | halt x w' => simp only [uponE] at hh
theorem wpOp_of_eOp {i : Nat} {K : Act → World → Prop} {K' : Act → World → Prop} {Q' : Exit → Act → World → Prop} {a : Act} {w : World} (h : ∀ a w, K a w → K' a w) (hh : eOp P ops C i K a w) : wpOp P ops Q' i K' a w := by
 unfold eOp at hh
 unfold wpOp
 split
 ·rename_i ho; simp only [ho] at hh; exact h _ _ hh
 ·rename_i o ho
  simp only [ho, eOper] at hh
  split
  ·rename_i hw; rw [if_pos hw] at hh
   exact .inl (uponE_upon (fun a w x => h _ _ x.2) hh)
  ·rename_i hw; rw [if_neg hw] at hh
   exact h _ _ hh
theorem wpAny_of_aE {Q : Act → World → Prop} {Q' : Exit → Act → World → Prop} (hQ : ∀ a w, Q a w → Q' .normal a w) : ∀ (fuel : Nat) (listed : Array Bool) (a : Act) (w : World),
  aE P md ops C Q fuel listed a w → wpAny P md ops Q' fuel listed a w
 | 0, _, _, _, h => ⟨h.1, hQ _ _ h.2⟩
 | fuel + 1, _, _, _, h => ⟨fun h0 => hQ _ _ (h.1 h0), fun i hi => wpOp_of_eOp (fun a' w' => wpAny_of_aE hQ fuel _ a' w') (h.2 i hi)⟩
theorem eOp_mono {i : Nat} {K K' : Act → World → Prop} {a : Act} {w : World} (hC : C w) (h : ∀ a w, C w → K a w → K' a w) (hh : eOp P ops C i K a w) : eOp P ops C i K' a w := by
 unfold eOp at *
 split
 ·rename_i ho; simp only [ho] at hh; exact h _ _ hC hh
 ·rename_i o ho
  simp only [ho] at hh
  unfold eOper at *
  split
  ·rename_i hi; rw [if_pos hi] at hh; exact uponE_mono (fun a w x => ⟨x.1, h _ _ x.1 x.2⟩) hh
  ·rename_i hi; rw [if_neg hi] at hh; exact h _ _ hC hh
/-- An operation yields one value in all worlds of the class. -/
def Stb (P : Program) (ops : Array Oper) (C : World → Prop) (o : Oper) (v : Value) (a : Act) : Prop := ∀ w', C w' → YieldsAt P ops w' o v a
theorem eOp_put {j : Nat} {oi oj : Oper} {v : Value} (hj : ops[j]? = some oj) (hap : oi.apart ops oj = true)
  (hsi : ∀ cs b, oi.op ≠ .select cs b) (hsj : ∀ cs b, oj.op ≠ .select cs b) {K : Act → World → Prop} {a : Act} {w : World}
  (hy : Stb P ops C oi v a) (h : eOp P ops C j K (a.put oi.dst v) w) :
  eOp P ops C j (fun a' w' => Stb P ops C oi v a' ∧ K (a'.put oi.dst v) w') a w := by
 obtain ⟨h1, h2, h3⟩ := Oper.apart_spec hap
 have keep : ∀ u, Stb P ops C oi v (a.put oj.dst u) := fun u w' hC =>
  (hy w' hC).of_same (execOp_put oi hsi a oj.dst u h3) (wanted_put oi a oj.dst u h3)
 unfold eOp at *
 simp only [hj] at *
 unfold eOper at *
 rw [wanted_put oj a oi.dst v h1] at h
 split
 ·rename_i hi
  rw [if_pos hi, execOp_put oj hsj a oi.dst v h1] at h
  refine uponE_mono ?_ (uponE_put (fun x y => Act.put_comm a x y h2) h)
  rintro a' w' ⟨⟨u, rfl⟩, hC, hk⟩
  exact ⟨hC, keep u, hk⟩
 ·rename_i hi
  rw [if_neg hi] at h
  exact ⟨keep _, by rw [← Act.put_comm a v undef h2]; exact h⟩
theorem eOp_yield {i : Nat} {o : Oper} {v : Value} {a : Act} {w : World} (hi : ops[i]? = some o) (hC : C w) (hy : YieldsAt P ops w o v a) {K : Act → World → Prop} (h : K (a.put o.dst v) w) : eOp P ops C i K a w := by
 unfold eOp eOper
 simp only [hi]
 rcases hy with ⟨hw, hv | ⟨hv, rfl⟩ | ⟨f, args, hv, hc⟩⟩ | ⟨hw, rfl⟩
 ·rw [if_pos hw, hv]; exact ⟨hC, h⟩
 ·rw [if_pos hw, hv]; exact ⟨hC, h⟩
 ·rw [if_pos hw, hv]; exact hc.mono fun e w'' ⟨he, hw'⟩ => ⟨v, he, by subst hw'; exact ⟨hC, h⟩⟩
 ·rw [if_neg (by simp [hw])]; exact h
theorem aE_first {Q : Act → World → Prop} {i : Nat} {oi : Oper} {v : Value} (hi : ops[i]? = some oi) (hsel : ∀ (j : Nat) (o : Oper) cs b, ops[j]? = some o → o.op ≠ .select cs b) :
  ∀ (fuel : Nat) (listed : Array Bool) (a : Act) (w : World), C w →
   (∀ j oj, ops[j]? = some oj → j ≠ i → listed.getD j true = false → (∀ e ∈ oj.after, Region.binds md e = true → e.on ≠ i) → oi.apart ops oj = true) →
   i ∈ Region.ready md ops listed → Stb P ops C oi v a →
   aE P md ops C Q fuel (listed.setIfInBounds i true) (a.put oi.dst v) w → aE P md ops C Q (fuel + 1) listed a w := by
 intro fuel
 induction fuel with
 | zero =>
  intro listed a w hC _ hr hy H
  refine ⟨fun h => (by rw [h] at hr; cases hr), fun j hj => ?_⟩
  by_cases hji : j = i
  ·subst hji; exact eOp_yield hi hC (hy w hC) H
  ·have := ready_mono hj hji
   rw [H.1] at this
   cases this
 | succ fuel ih =>
  intro listed a w hC hfree hr hy H
  refine ⟨fun h => (by rw [h] at hr; cases hr), fun j hj => ?_⟩
  by_cases hji : j = i
  ·subst hji; exact eOp_yield hi hC (hy w hC) H
  ·have h1 := H.2 j (ready_mono hj hji)
   obtain ⟨hjun, oj, hoj, hall⟩ := mem_ready.1 hj
   have hnot : ∀ e ∈ oj.after, Region.binds md e = true → e.on ≠ i := fun e he hb heq => by
    have h1 := hall e he hb
    have h0 := (mem_ready.1 hr).1
    rw [heq] at h1
    rcases Nat.lt_or_ge i listed.size with h' | h'
    ·simp [h'] at h0 h1; rw [h0] at h1; cases h1
    ·simp [Array.getElem?_eq_none h'] at h1
   have h2 := eOp_put hoj (hfree j oj hoj hji hjun hnot) (fun cs b => hsel i oi cs b hi) (fun cs b => hsel j oj cs b hoj) hy h1
   have hfree' : ∀ k ok, ops[k]? = some ok → k ≠ i → (listed.setIfInBounds j true).getD k true = false →
     (∀ e ∈ ok.after, Region.binds md e = true → e.on ≠ i) → oi.apart ops ok = true := fun k ok hk hki hun hno => by
    refine hfree k ok hk hki ?_ hno
    by_cases hjk : j = k
    ·subst hjk; exact hjun
    ·rw [getD_set_ne true hjk] at hun; exact hun
   refine eOp_mono hC (fun a' w' hC' h3 => ih (listed.setIfInBounds j true) a' w' hC' hfree' (ready_mono hr (Ne.symm hji)) h3.1 ?_) h2
   rw [Array.setIfInBounds_comm _ _ hji]
   exact h3.2
/-- The operations in the text's order, each with a mark: true: it stands alone (it may have an effect, its world is in the class); false: it yields one value in all worlds of the class. -/
def wpMix (P : Program) (ops : Array Oper) (C : World → Prop) (Q : Act → World → Prop) : List Oper → List Bool → Act → World → Prop
 | [], _, a, w => Q a w
 | o :: rest, true :: fs, a, w => eOper P ops C o (wpMix P ops C Q rest fs) a w
 | o :: rest, false :: fs, a, w => ∃ v, Stb P ops C o v a ∧ wpMix P ops C Q rest fs (a.put o.dst v) w
 | _ :: _, [], _, _ => False
def mixF (md : Region.Mode) (ops : Array Oper) : List Bool → Nat → Nat → Array Bool → Bool
 | _, 0, _, listed => (Region.ready md ops listed).isEmpty
 | true :: fs, n + 1, k, listed => decide (Region.ready md ops listed = [k]) && mixF md ops fs n (k + 1) (listed.setIfInBounds k true)
 | false :: fs, n + 1, k, listed => (Region.ready md ops listed).contains k && Region.free md ops listed k && mixF md ops fs n (k + 1) (listed.setIfInBounds k true)
 | [], _ + 1, _, _ => false
theorem aE_mix {Q : Act → World → Prop} (hsel : Region.noSelect ops = true) :
  ∀ (l : List Oper) (fs : List Bool) (k : Nat) (listed : Array Bool) (a : Act) (w : World), C w → (∀ j, l[j]? = ops[k + j]?) →
  mixF md ops fs l.length k listed = true → wpMix P ops C Q l fs a w → aE P md ops C Q l.length listed a w
 | [], _, k, listed, a, w, hC, hl, hB, h => by
  refine ⟨?_, ?_⟩
  ·simpa [mixF] using hB
  ·simpa [wpMix] using h
 | o :: l, true :: fs, k, listed, a, w, hC, hl, hB, h => by
  have h0 : ops[k]? = some o := by simpa using (hl 0).symm
  simp only [List.length_cons, mixF, Bool.and_eq_true, decide_eq_true_eq] at hB
  refine ⟨fun h1 => (by rw [hB.1] at h1; cases h1), fun i hi => ?_⟩
  rw [hB.1] at hi
  have hik : i = k := by simpa using hi
  subst hik
  simp only [eOp, h0]
  unfold wpMix at h
  unfold eOper at h ⊢
  split
  ·rename_i hw; rw [if_pos hw] at h
   exact uponE_mono (fun a' w' hh => ⟨hh.1, aE_mix hsel l fs (i + 1) _ a' w' hh.1 (fun j => by have := hl (j + 1); simpa [Nat.add_assoc, Nat.add_comm 1 j] using this) hB.2 hh.2⟩) h
  ·rename_i hw; rw [if_neg hw] at h
   exact aE_mix hsel l fs (i + 1) _ _ _ hC (fun j => by have := hl (j + 1); simpa [Nat.add_assoc, Nat.add_comm 1 j] using this) hB.2 h
 | o :: l, false :: fs, k, listed, a, w, hC, hl, hB, h => by
  have h0 : ops[k]? = some o := by simpa using (hl 0).symm
  simp only [List.length_cons, mixF, Bool.and_eq_true] at hB
  obtain ⟨⟨hr, hf⟩, hB'⟩ := hB
  unfold wpMix at h
  obtain ⟨v, hy, hK⟩ := h
  exact aE_first h0 (Region.noSelect_spec hsel) _ listed a w hC (Region.free_spec h0 hf) (by simpa using hr) hy
   (aE_mix hsel l fs (k + 1) _ _ w hC (fun j => by have := hl (j + 1); simpa [Nat.add_assoc, Nat.add_comm 1 j] using this) hB' hK)
 | _ :: _, [], _, _, _, _, _, _, hB, _ => by simp [mixF] at hB
def mixB (ops : Array Oper) (fs : List Bool) : Bool := Region.noSelect ops && mixF .any ops fs ops.size 0 (Array.replicate ops.size false)
/-- A statement whose order is open, with effects. -/
theorem wp_region_mix {id : Nat} {Q : Exit → Act → World → Prop} {a : Act} {w : World} {l : List Oper} (fs : List Bool) (C : World → Prop) (hm : P.follows .mixedOrders = true) (hB : mixB l.toArray fs = true)
  (hC : C w.drew) (h : wpMix P l.toArray C (Q .normal) l fs a w.drew) : (Code.region id l.toArray true).wp P Q a w := by
 simp only [mixB, Bool.and_eq_true] at hB
 obtain ⟨hs, hl⟩ := hB
 refine wp_region_any hm (wpAny_of_aE (C := C) (Q := Q .normal) (fun _ _ h => h) _ _ _ _ ?_)
 have := aE_mix (md := .any) hs l fs 0 (Array.replicate l.toArray.size false) a w.drew hC (by simp) (by simpa using hl) h
 simpa using this
end
end Go.Proofs.YtejeloeaklpinaaDoor
namespace Go.Proofs.YtejeloeaklpinaaDoor
def Env.L (E : Env) : List Nat := [E.F, E.H, E.R, E.bt, E.cb]
def Env.X (E : Env) : List Nat := [E.F, E.H, E.R, E.bt, E.cb, E.buf, E.own]
def Env.S' (E : Env) : Src := ⟨E.N, E.D⟩
def fp (E : Env) : Value := .pointer (some ⟨E.F, 0, none⟩)
structure Wd (E : Env) (w : World) (g hs bs cs : Nat → Value) (pos : Nat) : Prop where
 F : Bk w E.F 1054 95 g
 H : Bk w E.H 32768 5 hs
 bt : Bk w E.bt 316 97 bs
 cb : Bk w E.cb 19 98 cs
 rd : Rd E w pos
 gl : Gl E w
 bu : E.buf < w.heap.size ∧ E.own < w.heap.size
section
variable {E : Env} {w w1 : World} {g hs bs cs g' : Nat → Value} {pos pos' : Nat}
theorem Wd.setF (h : Wd E w g hs bs cs pos) (hE : E.Ok) (hF : Bk w1 E.F 1054 95 g') (k : Kp [E.F] w w1) : Wd E w1 g' hs bs cs pos :=
 ⟨hF, h.H.kp k (by simp; exact fun e => hE.FH e.symm), h.bt.kp k (by simp; exact fun e => hE.Fb e.symm), h.cb.kp k (by simp; exact fun e => hE.Fc e.symm),
  h.rd.kp k (by simp; exact fun e => hE.FR e.symm) (by simp; exact fun e => hE.FS e.symm), h.gl.kp k (by simp; exact hE.bF), ⟨Nat.lt_of_lt_of_le h.bu.1 k.size, Nat.lt_of_lt_of_le h.bu.2 k.size⟩⟩
theorem Wd.setH (h : Wd E w g hs bs cs pos) (hE : E.Ok) (hH : Bk w1 E.H 32768 5 g') (k : Kp [E.H] w w1) : Wd E w1 g g' bs cs pos :=
 ⟨h.F.kp k (by simp; exact hE.FH), hH, h.bt.kp k (by simp; exact fun e => hE.Hb e.symm), h.cb.kp k (by simp; exact fun e => hE.Hc e.symm),
  h.rd.kp k (by simp; exact hE.RH) (by simp; exact hE.SH), h.gl.kp k (by simp; exact hE.bH), ⟨Nat.lt_of_lt_of_le h.bu.1 k.size, Nat.lt_of_lt_of_le h.bu.2 k.size⟩⟩
theorem Wd.setFH (h : Wd E w g hs bs cs pos) (hE : E.Ok) (hF : Bk w1 E.F 1054 95 g') {hs' : Nat → Value} (hH : Bk w1 E.H 32768 5 hs') (k : Kp [E.F, E.H] w w1) : Wd E w1 g' hs' bs cs pos :=
 ⟨hF, hH, h.bt.kp k (by simp; exact ⟨fun e => hE.Fb e.symm, fun e => hE.Hb e.symm⟩), h.cb.kp k (by simp; exact ⟨fun e => hE.Fc e.symm, fun e => hE.Hc e.symm⟩),
  h.rd.kp k (by simp; exact ⟨fun e => hE.FR e.symm, hE.RH⟩) (by simp; exact ⟨fun e => hE.FS e.symm, hE.SH⟩), h.gl.kp k (by simp; exact ⟨hE.bF, hE.bH⟩), ⟨Nat.lt_of_lt_of_le h.bu.1 k.size, Nat.lt_of_lt_of_le h.bu.2 k.size⟩⟩
theorem Wd.setFR (h : Wd E w g hs bs cs pos) (hE : E.Ok) (hF : Bk w1 E.F 1054 95 g') (hR : Rd E w1 pos') (k : Kp [E.F, E.R] w w1) : Wd E w1 g' hs bs cs pos' :=
 ⟨hF, h.H.kp k (by simp; exact ⟨fun e => hE.FH e.symm, fun e => hE.RH e.symm⟩), h.bt.kp k (by simp; exact ⟨fun e => hE.Fb e.symm, fun e => hE.Rb e.symm⟩),
  h.cb.kp k (by simp; exact ⟨fun e => hE.Fc e.symm, fun e => hE.Rc e.symm⟩), hR, h.gl.kp k (by simp; exact ⟨hE.bF, hE.bR⟩), ⟨Nat.lt_of_lt_of_le h.bu.1 k.size, Nat.lt_of_lt_of_le h.bu.2 k.size⟩⟩
theorem Wd.setR (h : Wd E w g hs bs cs pos) (hE : E.Ok) (hR : Rd E w1 pos') (k : Kp [E.R] w w1) : Wd E w1 g hs bs cs pos' :=
 ⟨h.F.kp k (by simp; exact hE.FR), h.H.kp k (by simp; exact fun e => hE.RH e.symm), h.bt.kp k (by simp; exact fun e => hE.Rb e.symm),
  h.cb.kp k (by simp; exact fun e => hE.Rc e.symm), hR, h.gl.kp k (by simp; exact hE.bR), ⟨Nat.lt_of_lt_of_le h.bu.1 k.size, Nat.lt_of_lt_of_le h.bu.2 k.size⟩⟩
theorem Wd.setbt (h : Wd E w g hs bs cs pos) (hE : E.Ok) (hb : Bk w1 E.bt 316 97 g') (k : Kp [E.bt] w w1) : Wd E w1 g hs g' cs pos :=
 ⟨h.F.kp k (by simp; exact hE.Fb), h.H.kp k (by simp; exact hE.Hb), hb, h.cb.kp k (by simp; exact fun e => hE.bc e.symm),
  h.rd.kp k (by simp; exact hE.Rb) (by simp; exact hE.Sb), h.gl.kp k (by simp; exact hE.bbt), ⟨Nat.lt_of_lt_of_le h.bu.1 k.size, Nat.lt_of_lt_of_le h.bu.2 k.size⟩⟩
theorem Wd.setcb (h : Wd E w g hs bs cs pos) (hE : E.Ok) (hb : Bk w1 E.cb 19 98 g') (k : Kp [E.cb] w w1) : Wd E w1 g hs bs g' pos :=
 ⟨h.F.kp k (by simp; exact hE.Fc), h.H.kp k (by simp; exact hE.Hc), h.bt.kp k (by simp; exact hE.bc), hb,
  h.rd.kp k (by simp; exact hE.Rc) (by simp; exact hE.Sc), h.gl.kp k (by simp; exact hE.bcb), ⟨Nat.lt_of_lt_of_le h.bu.1 k.size, Nat.lt_of_lt_of_le h.bu.2 k.size⟩⟩
theorem Wd.drew (h : Wd E w g hs bs cs pos) : Wd E w.drew g hs bs cs pos :=
 ⟨h.F.drew, h.H.drew, h.bt.drew, h.cb.drew, h.rd.drew, h.gl.drew, h.bu⟩
theorem Wd.setbuf (h : Wd E w g hs bs cs pos) (hE : E.OkB) (k : Kp [E.buf] w w1) : Wd E w1 g hs bs cs pos :=
 ⟨h.F.kp k (by simp; exact fun e => hE.uF e.symm), h.H.kp k (by simp; exact fun e => hE.uH e.symm), h.bt.kp k (by simp; exact fun e => hE.ub e.symm), h.cb.kp k (by simp; exact fun e => hE.uc e.symm),
  h.rd.kp k (by simp; exact fun e => hE.uR e.symm) (by simp; exact fun e => hE.uS e.symm), h.gl.kp k (by simp; exact hE.bbu), ⟨Nat.lt_of_lt_of_le h.bu.1 k.size, Nat.lt_of_lt_of_le h.bu.2 k.size⟩⟩
theorem Wd.setown (h : Wd E w g hs bs cs pos) (hE : E.OkO) (k : Kp [E.own] w w1) : Wd E w1 g hs bs cs pos :=
 ⟨h.F.kp k (by simp; exact fun e => hE.oF e.symm), h.H.kp k (by simp; exact fun e => hE.oH e.symm), h.bt.kp k (by simp; exact fun e => hE.ob e.symm), h.cb.kp k (by simp; exact fun e => hE.oc e.symm),
  h.rd.kp k (by simp; exact fun e => hE.oR e.symm) (by simp; exact fun e => hE.oS e.symm), h.gl.kp k (by simp; exact hE.bo), ⟨Nat.lt_of_lt_of_le h.bu.1 k.size, Nat.lt_of_lt_of_le h.bu.2 k.size⟩⟩
/-- A call that changes only what is new. -/
theorem Wd.new (h : Wd E w g hs bs cs pos) (k : Kp [] w w1) : Wd E w1 g hs bs cs pos :=
 ⟨h.F.kp k (by simp), h.H.kp k (by simp), h.bt.kp k (by simp), h.cb.kp k (by simp), h.rd.kp k (by simp) (by simp), h.gl.kp k (by simp), ⟨Nat.lt_of_lt_of_le h.bu.1 k.size, Nat.lt_of_lt_of_le h.bu.2 k.size⟩⟩
theorem nbuf (hE : E.OkB) : E.buf ∉ E.L := by
 simp [Env.L]; exact ⟨hE.uF, hE.uH, hE.uR, hE.ub, hE.uc⟩
theorem Kp.sub {L : List Nat} {w0 : World} (h : Kp E.L w0 w) (k : Kp L w w1) (hl : ∀ b, b ∈ L → b ∈ E.L) : Kp E.L w0 w1 := h.trans (k.mono hl)
theorem Kp.F {w0 : World} (h : Kp E.L w0 w) (k : Kp [E.F] w w1) : Kp E.L w0 w1 := h.trans (k.mono (by simp [Env.L]))
theorem Kp.H {w0 : World} (h : Kp E.L w0 w) (k : Kp [E.H] w w1) : Kp E.L w0 w1 := h.trans (k.mono (by simp [Env.L]))
theorem Kp.R {w0 : World} (h : Kp E.L w0 w) (k : Kp [E.R] w w1) : Kp E.L w0 w1 := h.trans (k.mono (by simp [Env.L]))
theorem Kp.FH {w0 : World} (h : Kp E.L w0 w) (k : Kp [E.F, E.H] w w1) : Kp E.L w0 w1 := h.trans (k.mono (by simp [Env.L]))
theorem Kp.FR {w0 : World} (h : Kp E.L w0 w) (k : Kp [E.F, E.R] w w1) : Kp E.L w0 w1 := h.trans (k.mono (by simp [Env.L]))
theorem Kp.bt {w0 : World} (h : Kp E.L w0 w) (k : Kp [E.bt] w w1) : Kp E.L w0 w1 := h.trans (k.mono (by simp [Env.L]))
theorem Kp.cb {w0 : World} (h : Kp E.L w0 w) (k : Kp [E.cb] w w1) : Kp E.L w0 w1 := h.trans (k.mono (by simp [Env.L]))
theorem Kp.X (h : Kp E.L w w1) : Kp E.X w w1 := h.mono (by intro k hk; simp only [Env.L, Env.X, List.mem_cons, List.not_mem_nil, or_false] at hk ⊢; omega)
theorem Kp.nil {w0 : World} (h : Kp E.L w0 w) (k : Kp [] w w1) : Kp E.L w0 w1 := h.trans (k.mono (by simp))
end
/-- The cells of a reader that stay as they are. -/
structure Stc (E : Env) (g : Nat → Value) : Prop where
 r : g 0 = .iface 43 (.pointer (some ⟨E.R, 0, none⟩))
 bt : g 1035 = .pointer (some ⟨E.bt, 0, none⟩)
 cb : g 1036 = .pointer (some ⟨E.cb, 0, none⟩)
 hi : g 1037 = .slice (some ⟨E.H, 0, none⟩) 32768 32768
 rb : g 1 = .pointer none
/-- The bits that are held: from place p on, up to the bytes read. -/
structure Bt (E : Env) (g : Nat → Value) (p pos : Nat) : Prop where
 ro : ∃ n, g 2 = .int .i64 n
 b : g 3 = .int .u32 (bv E.D p (8 * pos - p))
 nb : g 4 = .int .u64 ((8 * pos - p : Nat) : Int)
 le : p ≤ 8 * pos
 l32 : 8 * pos ≤ p + 32
/-- The window: the last bytes told. -/
structure Win (out : List Nat) (hs : Nat → Value) : Prop where
 byte : ∀ k, k < 32768 → ∃ c : Nat, c < 256 ∧ hs k = .int .u8 c
 last : ∀ i, i < out.length → out.length ≤ i + 32768 → hs (i % 32768) = .int .u8 (out.getD i 0)
 small : ∀ i, i < out.length → out.getD i 0 < 256
theorem Stc.off {E : Env} {g g' : Nat → Value} {L : List Nat} (h : Stc E g) (o : Off L g g') (h0 : 0 ∉ L ∧ 1035 ∉ L ∧ 1036 ∉ L ∧ 1037 ∉ L ∧ 1 ∉ L) : Stc E g' :=
 ⟨(o _ h0.1).trans h.r, (o _ h0.2.1).trans h.bt, (o _ h0.2.2.1).trans h.cb, (o _ h0.2.2.2.1).trans h.hi, (o _ h0.2.2.2.2).trans h.rb⟩
theorem Bt.off {E : Env} {g g' : Nat → Value} {p pos : Nat} {L : List Nat} (h : Bt E g p pos) (o : Off L g g') (h0 : 2 ∉ L ∧ 3 ∉ L ∧ 4 ∉ L) : Bt E g' p pos :=
 ⟨by obtain ⟨n, hn⟩ := h.ro; exact ⟨n, (o _ h0.1).trans hn⟩, (o _ h0.2.1).trans h.b, (o _ h0.2.2).trans h.nb, h.le, h.l32⟩
/-- Between two steps. -/
structure Dk (E : Env) (g : Nat → Value) (n fl : Nat) : Prop where
 wr : g 1038 = .int .i64 ((n % 32768 : Nat) : Int)
 rd : ∃ rd, g 1039 = .int .i64 ((rd : Nat) : Int) ∧ fl + (n % 32768 - rd) = n ∧ rd ≤ n % 32768
 full : g 1040 = .bool (decide (32768 ≤ n))
theorem Dk.off {E : Env} {g g' : Nat → Value} {n fl : Nat} {L : List Nat} (h : Dk E g n fl) (o : Off L g g') (h0 : 1038 ∉ L ∧ 1039 ∉ L ∧ 1040 ∉ L) : Dk E g' n fl :=
 ⟨(o _ h0.1).trans h.wr, by obtain ⟨r, h1, h2⟩ := h.rd; exact ⟨r, (o _ h0.2.1).trans h1, h2⟩, (o _ h0.2.2).trans h.full⟩
/-- The fetching of eight bits more. -/
theorem more_ok (E : Env) (w : World) (g hs bs cs : Nat → Value) (p pos : Nat) (hE : E.Ok) (hW : Wd E w g hs bs cs pos) (hS : Stc E g) (hB : Bt E g p pos) (hn : 8 * pos ≤ p + 24) (hp : pos < E.N) :
  Ret 41 [fp E] w fun v w' => v = .nilIface ∧ ∃ g', Wd E w' g' hs bs cs (pos + 1) ∧ Bt E g' p (pos + 1) ∧ Off [2, 3, 4] g g' ∧ Kp E.L w w' := by
 have hI : IS E w g p (8 * pos - p) := ⟨hW.F, hS.r, hB.ro, hB.b, hB.nb, by have := hB.l32; omega, pos, by have := hB.le; omega, hW.rd⟩
 have hle := hB.le
 refine (moreBits_ok E w g p _ hE hI (by omega) (by omega)).mono ?_
 rintro e w' ⟨v, rfl, rfl, g', hI', ho, kp⟩
 obtain ⟨pos', h1, h2⟩ := hI'.rd
 obtain rfl : pos' = pos + 1 := by omega
 refine ⟨_, rfl, rfl, g', hW.setFR hE hI'.blk h2 kp, ⟨hI'.ro, ?_, ?_, by omega, by omega⟩, ho, kp.mono (by simp [Env.L])⟩
 ·rw [hI'.fb, show 8 * pos - p + 8 = 8 * (pos + 1) - p by omega]
 ·rw [hI'.fn, show 8 * pos - p + 8 = 8 * (pos + 1) - p by omega]
theorem more_short (E : Env) (w : World) (g hs bs cs : Nat → Value) (p pos : Nat) (hE : E.Ok) (hW : Wd E w g hs bs cs pos) (hS : Stc E g) (hB : Bt E g p pos) (hp : pos = E.N) :
  Ret 41 [fp E] w fun v w' => v = UEOFv E ∧ Wd E w' g hs bs cs pos ∧ Kp E.L w w' := by
 have hI : IS E w g p (8 * pos - p) := ⟨hW.F, hS.r, hB.ro, hB.b, hB.nb, by have := hB.l32; omega, pos, by have := hB.le; omega, hW.rd⟩
 have hle := hB.le
 refine (moreBits_short E w g p _ hE hW.gl hI (by omega)).mono ?_
 rintro e w' ⟨v, rfl, rfl, hI', kp⟩
 obtain ⟨pos', h1, h2⟩ := hI'.rd
 obtain rfl : pos' = pos := by omega
 exact ⟨_, rfl, rfl, hW.setFR hE hI'.blk h2 kp, kp.mono (by simp [Env.L])⟩
end Go.Proofs.YtejeloeaklpinaaDoor
namespace Go.Proofs.YtejeloeaklpinaaDoor
attribute [local irreducible] wpList wpStill Code.wp Calls fr
def fnv (k : Nat) : Value := .func (.func k) #[] #[]
/-- The window's marks where n bytes were told, fl of them handed on, and the place of writing is wr. -/
def Dw (E : Env) (g : Nat → Value) (n fl wr : Nat) : Prop :=
 ∃ q rd, n = 32768 * q + wr ∧ wr ≤ 32768 ∧ rd ≤ wr ∧ fl = 32768 * q + rd ∧ DD E g wr rd (decide (0 < q))
/-- A slice of the window that holds what was handed on and not yet taken. -/
def TRv (E : Env) (v : Value) (e fl : Nat) : Prop :=
 e ≤ fl ∧ ∃ a c, v = .slice a (fl - e) c ∧ fl - e ≤ c ∧ (e < fl → a = some ⟨E.H, e % 32768, none⟩ ∧ e % 32768 + (fl - e) ≤ 32768)
def TR (E : Env) (g : Nat → Value) (e fl : Nat) : Prop := TRv E (g 1049) e fl
theorem Dw.off {E : Env} {g g' : Nat → Value} {n fl wr : Nat} {L : List Nat} (h : Dw E g n fl wr) (o : Off L g g') (h0 : 1037 ∉ L ∧ 1038 ∉ L ∧ 1039 ∉ L ∧ 1040 ∉ L) : Dw E g' n fl wr := by
 obtain ⟨q, rd, h1, h2, h3, h4, h5⟩ := h
 exact ⟨q, rd, h1, h2, h3, h4, (o _ h0.1).trans h5.hist, (o _ h0.2.1).trans h5.wr, (o _ h0.2.2.1).trans h5.rd, (o _ h0.2.2.2).trans h5.full⟩
theorem TR.off {E : Env} {g g' : Nat → Value} {e fl : Nat} {L : List Nat} (h : TR E g e fl) (o : Off L g g') (h0 : 1049 ∉ L) : TR E g' e fl := by
 unfold TR
 rw [o _ h0]
 exact h
def nx (wr : Nat) : Nat := if wr = 32768 then 0 else wr
/-- readFlush. -/
theorem rf_c (E : Env) (w : World) (g hs bs cs : Nat → Value) (pos n fl wr : Nat) (hE : E.Ok) (hW : Wd E w g hs bs cs pos) (hD : Dw E g n fl wr) :
  Ret 50 [ddp E] w fun v w' => TRv E v fl n ∧ ∃ g', Wd E w' g' hs bs cs pos ∧ Dw E g' n n (nx wr) ∧ Off [1038, 1039, 1040] g g' ∧ Kp E.L w w' := by
 obtain ⟨q, rd, h1, h2, h3, h4, h5⟩ := hD
 refine (readFlush_c E w g wr rd _ hW.F h5 h2 h3).mono ?_
 rintro e w' ⟨v, rfl, rfl, g', hF, hD', ho, kp⟩
 have e1 : wr - rd = n - fl := by omega
 rw [e1]
 refine ⟨_, rfl, ⟨by omega, _, _, rfl, by omega, ?_⟩, g', hW.setF hE hF kp, ?_, ho, kp.mono (by simp [Env.L])⟩
 ·intro hlt
  have : fl % 32768 = rd := by omega
  rw [this]
  exact ⟨by rw [cutA_lt _ _ _ _ (by omega), Nat.zero_add], by omega⟩
 ·unfold nx
  by_cases hw : wr = 32768
  ·rw [if_pos hw] at hD' ⊢
   exact ⟨q + 1, 0, by omega, by omega, by omega, by omega, by simpa [hw] using hD'⟩
  ·rw [if_neg hw] at hD' ⊢
   exact ⟨q, wr, by omega, by omega, by omega, by omega, by simpa [hw] using hD'⟩
theorem finish_more (E : Env) (w : World) (g hs bs cs : Nat → Value) (pos : Nat) (hE : E.Ok) (hW : Wd E w g hs bs cs pos) (hf : g 1047 = .bool false) :
  Ret 51 [fp E] w fun v w' => v = .tuple #[] ∧ ∃ g', Wd E w' g' hs bs cs pos ∧ g' 1045 = fnv 35 ∧ Off [1045] g g' ∧ Kp E.L w w' := by
 have kp := Kp.refl E.L w
 refine calls_fr (N := 25) Tryd.func51 rfl rfl (by simp [fp]) rfl ?_
 refine wp_seq ?_
 refine sqr ?_
 refine Mp rfl ?_
 refine Np rfl ?_
 refine L1 (fa95_13 rfl) ?_
 refine L1 (ld4 rfl (hW.F.cellv (by decide) hf)) ?_
 refine nt ?_
 refine cond_f rfl ?_
 refine skn ?_
 refine reg_lit ?_
 refine Mp rfl ?_
 refine Np rfl ?_
 refine L1 (fa95_11 rfl) ?_
 refine Lst92 (v := .func _ _ _) rfl rfl rfl hW.F (by decide) ?_
 intro w1 hb1 kp1
 have hW := hW.setF hE hb1 kp1
 have kp := kp.F kp1
 clear hb1 kp1
 refine wpList_nil ?_
 refine end0 rfl ?_
 exact ⟨_, rfl, rfl, _, hW, rfl, (Off.refl _ g).upd (by simp) _, kp⟩
theorem finish_last (E : Env) (w : World) (g hs bs cs : Nat → Value) (pos : Nat) (hE : E.Ok) (hW : Wd E w g hs bs cs pos) (hf : g 1047 = .bool true) (n fl wr : Nat) (hw : wr < 32768) (hD : Dw E g n fl wr) (hT : TR E g fl fl) :
  Ret 51 [fp E] w fun v w' => v = .tuple #[] ∧ ∃ g', Wd E w' g' hs bs cs pos ∧ g' 1045 = fnv 35 ∧ g' 1048 = EOFv E ∧ Dw E g' n n (nx wr) ∧ TR E g' fl n ∧ Off [1038, 1039, 1040, 1045, 1048, 1049] g g' ∧ Kp E.L w w' := by
 have kp := Kp.refl E.L w
 have hD0 := hD
 obtain ⟨q, rd, h1, h2, h3, h4, h5⟩ := hD
 refine calls_fr (N := 25) Tryd.func51 rfl rfl (by simp [fp]) rfl ?_
 refine wp_seq ?_
 refine sqr ?_
 refine Mp rfl ?_
 refine Np rfl ?_
 refine L1 (fa95_13 rfl) ?_
 refine L1 (ld4 rfl (hW.F.cellv (by decide) hf)) ?_
 refine nt ?_
 refine cond_t rfl ?_
 refine wp_seq ?_
 refine sqr ?_
 refine Mp rfl ?_
 refine Np rfl ?_
 refine L1 (fa95_9 rfl) ?_
 refine LC (cl1 has62 rfl rfl) (availRead_c E _ g wr rd _ hW.F h5 h2 h3) ?_
 rintro v w1 ⟨rfl, rfl⟩
 have hW := hW.drew
 have kp := kp.drew
 refine L1 (bi rfl rfl (bn_gtr (v := decide (rd < wr)) (decide_eq_decide.2 (by omega)))) ?_
 refine nt ?_
 refine cond_d (p := rd < wr) rfl (fun hlt => ?_) (fun hlt => ?_)
 ·skip
  refine reg_lit ?_
  refine Mp rfl ?_
  refine Mp rfl ?_
  refine Np rfl ?_
  refine L1 (fa95_9 rfl) ?_
  refine LC (cl1 has50 rfl rfl) (rf_c E _ g hs bs cs pos n fl wr hE hW hD0) ?_
  rintro v w1 ⟨hv, g1, hW, hD, ho, kp1⟩
  have kp := kp.trans kp1
  refine Np rfl ?_
  refine L1 (fa95_15 rfl) ?_
  refine Lst22 (v := v) rfl rfl (by obtain ⟨_, _, _, rfl, _⟩ := hv; rfl) hW.F (by decide) ?_
  intro w1 hb1 kp1
  have hW := hW.setF hE hb1 kp1
  have kp := kp.F kp1
  refine nt ?_
  refine reg_lit ?_
  refine Mp rfl ?_
  refine L1 (ld62 (v := .iface _ _) rfl hW.gl.eof) ?_
  refine Np rfl ?_
  refine L1 (fa95_14 rfl) ?_
  refine Lst62 (v := .iface _ _) rfl rfl rfl hW.F (by decide) ?_
  intro w1 hb1 kp1
  have hW := hW.setF hE hb1 kp1
  have kp := kp.F kp1
  clear hb1 kp1
  refine nt ?_
  refine reg_lit ?_
  refine Mp rfl ?_
  refine Np rfl ?_
  refine L1 (fa95_11 rfl) ?_
  refine Lst92 (v := .func _ _ _) rfl rfl rfl hW.F (by decide) ?_
  intro w1 hb1 kp1
  have hW := hW.setF hE hb1 kp1
  have kp := kp.F kp1
  clear hb1 kp1
  refine wpList_nil ?_
  refine end0 rfl ?_
  refine ⟨_, rfl, rfl, _, hW, rfl, rfl, hD.off (((Off.refl _ g1).upd (k := 1049) (by decide) _).upd (k := 1048) (by decide) _ |>.upd (k := 1045) (by decide) _ : Off [1045, 1048, 1049] g1 _) (by decide), hv, ?_, kp⟩
  exact (((ho.mono (by simp)).upd (by simp) _).upd (by simp) _).upd (by simp) _
 ·skip
  refine skn ?_
  refine reg_lit ?_
  refine Mp rfl ?_
  refine L1 (ld62 (v := .iface _ _) rfl hW.gl.eof) ?_
  refine Np rfl ?_
  refine L1 (fa95_14 rfl) ?_
  refine Lst62 (v := .iface _ _) rfl rfl rfl hW.F (by decide) ?_
  intro w1 hb1 kp1
  have hW := hW.setF hE hb1 kp1
  have kp := kp.F kp1
  clear hb1 kp1
  refine nt ?_
  refine reg_lit ?_
  refine Mp rfl ?_
  refine Np rfl ?_
  refine L1 (fa95_11 rfl) ?_
  refine Lst92 (v := .func _ _ _) rfl rfl rfl hW.F (by decide) ?_
  intro w1 hb1 kp1
  have hW := hW.setF hE hb1 kp1
  have kp := kp.F kp1
  clear hb1 kp1
  refine wpList_nil ?_
  refine end0 rfl ?_
  have e1 : fl = n := by omega
  subst e1
  refine ⟨_, rfl, rfl, _, hW, rfl, rfl, ?_, hT, ?_, kp⟩
  ·have : nx wr = wr := by unfold nx; rw [if_neg (by omega)]
   rw [this]
   exact hD0.off (((Off.refl _ g).upd (k := 1048) (by decide) _).upd (k := 1045) (by decide) _ : Off [1045, 1048] g _) (by decide)
  ·exact ((Off.refl _ g).upd (by simp) _).upd (by simp) _
end Go.Proofs.YtejeloeaklpinaaDoor
namespace Go.Proofs.YtejeloeaklpinaaDoor
/-- Cells set one by one: the block told by a function. -/
theorem Bk.setCells {w : World} {b n : Nat} {t : TypeId} {g : Nat → Value} (h : Bk w b n t g) : ∀ (vs : List Value) (o : Nat),
  Bk (w.setCells b o vs) b n t (fun j => if o ≤ j ∧ j < o + vs.length then vs.getD (j - o) undef else g j)
 | [], o => by
  refine h.congr fun k _ => ?_
  rw [if_neg (by simp)]
 | v :: r, o => by
  refine (Bk.setCells (h.set o v) r (o + 1)).congr fun k _ => ?_
  by_cases h1 : k = o
  ·subst h1
   rw [if_neg (by omega), upd_same, if_pos (by simp)]
   simp
  ·rw [upd_ne _ _ _ _ h1]
   by_cases h2 : o + 1 ≤ k ∧ k < o + 1 + r.length
   ·rw [if_pos h2, if_pos (by simp only [List.length_cons]; omega), show k - o = (k - (o + 1)) + 1 by omega]
    simp
   ·rw [if_neg h2, if_neg (by simp only [List.length_cons]; omega)]
theorem Kp.setCells {L : List Nat} {w w' : World} {b : Nat} (hb : b ∈ L) : ∀ (vs : List Value) (o : Nat), Kp L w w' → Kp L w (w'.setCells b o vs)
 | [], _, h => h
 | v :: r, o, h => by
  simp only [World.setCells]
  have h1 : Kp L w (w'.setCell ⟨b, o, none⟩ v) := h.setCell (a := ⟨b, o, none⟩) hb v
  exact Kp.setCells hb r (o + 1) h1
theorem sz1_5 : (Tryd.prog.info? 5).map (·.size) = some 1 := by kernel_rfl
/-- What a copy leaves in the block. -/
def cpg (g g2 : Nat → Value) (o o2 k : Nat) : Nat → Value := fun j => if o ≤ j ∧ j < o + k then g2 (o2 + (j - o)) else g j
section
variable {ρ : Operand → Value} {d : Option Nat} {x y z : Operand} {ty : TypeId} {pos : String} {af : Array Edge} {gd : Option (Nat × Bool)} {w : World}
theorem run_cp {b o dl dc b2 o2 sl sc n n2 : Nat} {t t2 : TypeId} {g g2 : Nat → Value} (hx : ρ x = .slice (some ⟨b, o, none⟩) dl dc) (hy : ρ y = .slice (some ⟨b2, o2, none⟩) sl sc) (hB : Bk w b n t g) (hB2 : Bk w b2 n2 t2 g2)
  (h1 : o + min sl dl ≤ n) (h2 : o2 + min sl dl ≤ n2) (hone : ∀ j, j < min sl dl → (g2 (o2 + j)).oneCell' = true) :
  ∃ w', (execOp ρ ⟨d, .call ⟨.builtin .copy, #[x, y], #[22, 22]⟩, ty, pos, af, gd⟩).run Tryd.prog w = .ok (.value (.int .i64 (min sl dl : Nat))) w' ∧ Bk w' b n t (cpg g g2 o o2 (min sl dl)) ∧ Kp [b] w w' := by
 have hl : ((List.range (min sl dl)).map (fun j => g2 (o2 + j))).length = min sl dl := by simp
 have hr := run_copy_cells (P := Tryd.prog) w 22 22 ty 5 b o dl dc ⟨b2, o2, none⟩ sl sc ((List.range (min sl dl)).map (fun j => g2 (o2 + j))) und22 sz1_5 hl
  (fun j v hj => by
   rw [List.getElem?_map, Option.map_eq_some_iff] at hj
   obtain ⟨i, hi, rfl⟩ := hj
   obtain ⟨hlt, rfl⟩ := List.getElem?_eq_some_iff.1 hi
   have hlt' : j < min sl dl := by simpa using hlt
   rw [Addr.add_lit]
   simp only [List.getElem_range]
   exact hB2.cell (by omega))
  (fun j hj => by rw [hl] at hj; rw [hB.cell (k := o + j) (by omega)]; rfl)
  (fun j _ => hB.frozen _)
  (fun v hv => by
   rw [List.mem_map] at hv
   obtain ⟨i, hi, rfl⟩ := hv
   exact hone i (List.mem_range.1 hi))
 rw [hl] at hr
 refine ⟨w.setCells b o ((List.range (min sl dl)).map (fun j => g2 (o2 + j))), ?_, (hB.setCells _ o).congr fun k hk => ?_, Kp.setCells (by simp) _ _ (Kp.refl [b] w)⟩
 ·simp [execOp, resolve, invoke, builtin, hx, hy, hr, goInt]
 ·rw [hl]
  unfold cpg
  split
  ·rename_i hh
   have : k - o < min sl dl := by omega
   rw [List.getD_eq_getElem?_getD, List.getElem?_map, List.getElem?_range this]
   rfl
  ·rfl
theorem run_cp0 {a a2 : Option Addr} {dl dc sl sc : Nat} (hx : ρ x = .slice a dl dc) (hy : ρ y = .slice a2 sl sc) (h0 : min sl dl = 0) :
  (execOp ρ ⟨d, .call ⟨.builtin .copy, #[x, y], #[22, 22]⟩, ty, pos, af, gd⟩).run Tryd.prog w = .ok (.value (.int .i64 0)) w := by
 have hr := run_copy_none (P := Tryd.prog) w 22 22 ty 5 a a2 dl dc sl sc und22 sz1_5 h0
 simp [execOp, resolve, invoke, builtin, hx, hy, hr, goInt]
theorem pk_t {u : Value} (hx : ρ x = .bool true) (hy : ρ y = u) : (execOp ρ ⟨d, .pick x y z, ty, pos, af, gd⟩).run Tryd.prog w = .ok (.value u) w := pick hx hy rfl
theorem pk_f {u : Value} (hx : ρ x = .bool false) (hz : ρ z = u) : (execOp ρ ⟨d, .pick x y z, ty, pos, af, gd⟩).run Tryd.prog w = .ok (.value u) w := pick hx rfl hz
/-- A method's value of an interface, held against nil. -/
theorem mkM {m : String} {u : Value} (hx : ρ x = u) : (execOp ρ ⟨d, .makeFunc (.method m) #[x] #[], ty, pos, af, gd⟩).run Tryd.prog w = .ok (.value (.func (.method m) #[u] #[])) w := by
 simp [execOp, hx, Instr.makeFunc]
theorem nilM43 {a : Addr} (hx : ρ x = .func (.method "Read") #[.iface 43 (.pointer (some a))] #[]) : (execOp ρ ⟨d, .nilCheck x, ty, pos, af, gd⟩).run Tryd.prog w = .ok (.value (.func (.method "Read") #[.iface 43 (.pointer (some a))] #[])) w := by
 simp only [execOp, hx]
 kernel_rfl
theorem meth_rd (a : Addr) (w : World) : (method (158 + Made.depth) 43 (.pointer (some a)) "Read").run Tryd.prog w = .ok (81, .pointer (some a)) w := by kernel_rfl
theorem meth_rd99 (a : Addr) (w : World) : (method (158 + Made.depth) 99 (.pointer (some a)) "Read").run Tryd.prog w = .ok (90, .pointer (some a)) w := by kernel_rfl
/-- Errors held against nil, by ==. -/
theorem ee_nil (hx : ρ x = .nilIface) (hy : ρ (.const .nilIface) = .nilIface) : (execOp ρ ⟨d, .binOp .eql 62 x (.const .nilIface) 62, ty, pos, af, gd⟩).run Tryd.prog w = .ok (.value (.bool true)) w := by
 have hg : eqGuard .eql 62 x (.const .nilIface) .nilIface .nilIface = pure () := by
  unfold eqGuard; simp
 have he : (Op.equal 62 .nilIface .nilIface).run Tryd.prog w = .ok true w := by kernel_rfl
 simp [execOp, hx, hy, hg, binOp, he]
theorem ee_held {u : TypeId} {v : Value} (hx : ρ x = .iface u v) (hy : ρ y = .nilIface) : (execOp ρ ⟨d, .binOp .eql 62 x y 62, ty, pos, af, gd⟩).run Tryd.prog w = .ok (.value (.bool false)) w := by
 have hg : eqGuard .eql 62 x y (.iface u v) .nilIface = pure () := by
  unfold eqGuard; rfl
 have he : (Op.equal 62 (.iface u v) .nilIface).run Tryd.prog w = .ok false w := by kernel_rfl
 simp [execOp, hx, hy, hg, binOp, he]
/-- The buffer of four bytes as a slice. -/
theorem sl91 {b o : Nat} (h0 : ρ (.const (.int .i64 0)) = .int .i64 0) (h4 : ρ (.const (.int .i64 4)) = .int .i64 4) (hx : ρ x = .pointer (some ⟨b, o, none⟩)) : (execOp ρ ⟨d, .slice 91 x (some (.const (.int .i64 0))) (some (.const (.int .i64 4))) none, ty, pos, af, gd⟩).run Tryd.prog w = .ok (.value (.slice (some ⟨b, o, none⟩) 4 4)) w := by
 simp only [execOp, hx, h0, h4, Option.map_some, Option.map_none]
 kernel_rfl
end
/- The steps of a statement whose order is open and that has an effect. -/
section
variable {P : Program} {ops : Array Oper} {Q : Act → World → Prop} {N : Nat} {L : List (Nat × Value)} {B : Nat → Value} {f : Nat → Value} {w w' : World} {rest : List Oper} {C : World → Prop} {fs : List Bool}
 {d : Nat} {op : Op} {ty : TypeId} {pos : String} {af : Array Edge} {v : Value}
theorem T1 (h : ∀ w, C w → (execOp (ev N (fl L B)) ⟨some d, op, ty, pos, af, none⟩).run P w = .ok (.value v) w) (k : wpMix P ops C Q rest fs (fr N (fl ((d, v) :: L) B)) w) :
  wpMix P ops C Q (⟨some d, op, ty, pos, af, none⟩ :: rest) (false :: fs) (fr N (fl L B)) w := by
 refine ⟨v, fun w' hC => .inl ⟨rfl, .inl ?_⟩, ?_⟩
 ·rw [fr_eval]; exact h w' hC
 ·rw [fr_put]; exact k
theorem E1 (h : (execOp (ev N (fl L B)) ⟨some d, op, ty, pos, af, none⟩).run P w = .ok (.value v) w') (hC : C w') (k : wpMix P ops C Q rest fs (fr N (fl ((d, v) :: L) B)) w') :
  wpMix P ops C Q (⟨some d, op, ty, pos, af, none⟩ :: rest) (true :: fs) (fr N (fl L B)) w := by
 unfold wpMix eOper
 rw [if_pos (by rfl), fr_eval, h]
 simp only [uponE]
 rw [fr_put]
 exact ⟨hC, k⟩
theorem E0 (h : (execOp (ev N f) ⟨none, op, ty, pos, af, none⟩).run P w = .ok .skip w') (hC : C w') (k : wpMix P ops C Q rest fs (fr N f) w') :
  wpMix P ops C Q (⟨none, op, ty, pos, af, none⟩ :: rest) (true :: fs) (fr N f) w := by
 unfold wpMix eOper
 rw [if_pos (by rfl), fr_eval, h]
 exact ⟨hC, k⟩
theorem EC {g : FuncId} {args : Array Value} {R : Value → World → Prop} (h : (execOp (ev N (fl L B)) ⟨some d, op, ty, pos, af, none⟩).run P w = .ok (.enter g args) w')
  (hc : Calls P g args w' fun e w2 => ∃ v, e = .returned v ∧ R v w2) (k : ∀ v w2, R v w2 → C w2 ∧ wpMix P ops C Q rest fs (fr N (fl ((d, v) :: L) B)) w2) :
  wpMix P ops C Q (⟨some d, op, ty, pos, af, none⟩ :: rest) (true :: fs) (fr N (fl L B)) w := by
 unfold wpMix eOper
 rw [if_pos (by rfl), fr_eval, h]
 simp only [uponE]
 refine hc.mono fun e w2 ⟨v, he, hr⟩ => ⟨v, he, ?_⟩
 rw [fr_put]
 exact k v w2 hr
theorem mix_nil {a : Act} (h : Q a w) : wpMix P ops C Q [] fs a w := by
 unfold wpMix; exact h
end
section
variable {ops : Array Oper} {N : Nat} {L : List (Nat × Value)} {B : Nat → Value} {w : World} {rest : List Oper} {C : World → Prop}
 {dd : Nat} {x y : Operand} {ty : TypeId} {pos : String} {af : Array Edge}
 {b o dl dc b2 o2 sl sc n n2 : Nat} {t t2 : TypeId} {g g2 : Nat → Value}
theorem Lcp {Q : Exit → Act → World → Prop} (hx : ev N (fl L B) x = .slice (some ⟨b, o, none⟩) dl dc) (hy : ev N (fl L B) y = .slice (some ⟨b2, o2, none⟩) sl sc) (hB : Bk w b n t g) (hB2 : Bk w b2 n2 t2 g2)
  (h1 : o + min sl dl ≤ n) (h2 : o2 + min sl dl ≤ n2) (hone : ∀ j, j < min sl dl → (g2 (o2 + j)).oneCell' = true)
  (K : ∀ w1, Bk w1 b n t (cpg g g2 o o2 (min sl dl)) → Kp [b] w w1 → wpList Tryd.prog ops Q rest (fr N (fl ((dd, .int .i64 (min sl dl : Nat)) :: L) B)) w1) :
  wpList Tryd.prog ops Q (⟨some dd, .call ⟨.builtin .copy, #[x, y], #[22, 22]⟩, ty, pos, af, none⟩ :: rest) (fr N (fl L B)) w := by
 obtain ⟨w1, hr, h3, h4⟩ := run_cp (d := some dd) (ty := ty) (pos := pos) (af := af) (gd := none) hx hy hB hB2 h1 h2 hone
 exact L1 hr (K w1 h3 h4)
theorem Ecp {fs : List Bool} {Q : Act → World → Prop} (hx : ev N (fl L B) x = .slice (some ⟨b, o, none⟩) dl dc) (hy : ev N (fl L B) y = .slice (some ⟨b2, o2, none⟩) sl sc) (hB : Bk w b n t g) (hB2 : Bk w b2 n2 t2 g2)
  (h1 : o + min sl dl ≤ n) (h2 : o2 + min sl dl ≤ n2) (hone : ∀ j, j < min sl dl → (g2 (o2 + j)).oneCell' = true)
  (K : ∀ w1, Bk w1 b n t (cpg g g2 o o2 (min sl dl)) → Kp [b] w w1 → C w1 ∧ wpMix Tryd.prog ops C Q rest fs (fr N (fl ((dd, .int .i64 (min sl dl : Nat)) :: L) B)) w1) :
  wpMix Tryd.prog ops C Q (⟨some dd, .call ⟨.builtin .copy, #[x, y], #[22, 22]⟩, ty, pos, af, none⟩ :: rest) (true :: fs) (fr N (fl L B)) w := by
 obtain ⟨w1, hr, h3, h4⟩ := run_cp (d := some dd) (ty := ty) (pos := pos) (af := af) (gd := none) hx hy hB hB2 h1 h2 hone
 exact E1 hr (K w1 h3 h4).1 (K w1 h3 h4).2
end
section
variable {ρ : Operand → Value} {d : Option Nat} {x y z : Operand} {ty : TypeId} {pos : String} {af : Array Edge} {gd : Option (Nat × Bool)} {w : World}
variable {t e : TypeId} {b o len cap l h : Nat} {k k' : IntKind} {i j : Int}
theorem slb_l (ht : Tryd.prog.underlying t = some (.slice e)) (he : ∀ w, (sizeOf e).run Tryd.prog w = .ok 1 w) (hx : ρ x = .slice (some ⟨b, o, none⟩) len cap) (hy : ρ y = .int k i) (hi : i = (l : Int)) (h1 : l ≤ len) (hc : l < cap) :
  (execOp ρ ⟨d, .slice t x (some y) none none, ty, pos, af, gd⟩).run Tryd.prog w = .ok (.value (.slice (some ⟨b, o + l, none⟩) (len - l) (cap - l))) w := by
 rw [sl_l ht he hx hy hi h1, cutA_lt _ _ _ _ hc]
theorem slb_lh (ht : Tryd.prog.underlying t = some (.slice e)) (he : ∀ w, (sizeOf e).run Tryd.prog w = .ok 1 w) (hx : ρ x = .slice (some ⟨b, o, none⟩) len cap) (hy : ρ y = .int k i) (hz : ρ z = .int k' j) (hi : i = (l : Int)) (hj : j = (h : Int)) (h1 : l ≤ h) (h2 : h ≤ cap) (hc : l < cap) :
  (execOp ρ ⟨d, .slice t x (some y) (some z) none, ty, pos, af, gd⟩).run Tryd.prog w = .ok (.value (.slice (some ⟨b, o + l, none⟩) (h - l) (cap - l))) w := by
 rw [sl_lh ht he hx hy hz hi hj h1 h2, cutA_lt _ _ _ _ hc]
end
theorem reg_mix {P : Program} {Q : Exit → Act → World → Prop} {N : Nat} {f : Nat → Value} {w : World} {id : Nat} {l : List Oper} (fs : List Bool) (C : World → Prop) (hm : P.follows .mixedOrders = true) (hB : mixB l.toArray fs = true)
  (hC : C w.drew) (h : wpMix P l.toArray C (Q .normal) l fs (fr N f) w.drew) : (Code.region id l.toArray true).wp P Q (fr N f) w := wp_region_mix fs C hm hB hC h
end Go.Proofs.YtejeloeaklpinaaDoor
namespace Go.Proofs.YtejeloeaklpinaaDoor
attribute [local irreducible] wpList wpStill wpMix Code.wp Calls fr
/-- A block behind k bytes of the source, from place pos on, laid at o. -/
def cpd (E : Env) (gb : Nat → Value) (o pos k : Nat) : Nat → Value := fun j => if o ≤ j ∧ j < o + k then .int .u8 (E.d (pos + (j - o))) else gb j
theorem rd_ok (E : Env) (w : World) (pos : Nat) (hE : E.Ok) (hrd : Rd E w pos) (hp : pos < E.N) (b o m c n : Nat) (t : TypeId) (gb : Nat → Value) (hb : Bk w b n t gb) (hbR : b ≠ E.R) (hbS : b ≠ E.S) (hm : o + m ≤ n) :
  Ret 81 [.pointer (some ⟨E.R, 0, none⟩), .slice (some ⟨b, o, none⟩) m c] w fun v w' => v = .tuple #[.int .i64 ((min (E.N - pos) m : Nat) : Int), .nilIface] ∧ Rd E w' (pos + min (E.N - pos) m) ∧ Bk w' b n t (cpd E gb o pos (min (E.N - pos) m)) ∧ Kp [E.R, b] w w' := by
 have kp := Kp.refl [E.R, b] w
 obtain ⟨v, z, r, hR, r0, r1, r2, hle, hd⟩ := hrd
 have hN := hE.N47
 rcases hd with ⟨h1, h2⟩ | ⟨c0, n0, g0, rfl, hS, hn, hg⟩
 ·omega
 have hcc : pos < c0 := by omega
 have hmin : min (E.N - pos) m ≤ E.N - pos := Nat.min_le_left _ _
 have hmin2 : min (E.N - pos) m ≤ m := Nat.min_le_right _ _
 refine calls_fr (N := 39) Tryd.func81 rfl rfl (by simp) rfl ?_
 refine sqr ?_
 refine Ai rfl ?_
 refine L1 (asg (v := .nilIface) rfl) ?_
 refine nt ?_
 refine wp_seq ?_
 refine wp_seq ?_
 refine reg_still mixed (by kernel_rfl) ?_
 have hR := hR.drew
 have hS := hS.drew
 have hb := hb.drew
 have kp := kp.drew
 refine S1 (mv (v := .pointer _) rfl) ?_
 refine S1 (nilP rfl) ?_
 refine S1 (fa70_1 rfl) ?_
 refine S1 (ld2 rfl (hR.cellv (by decide) r1)) ?_
 refine S1 (mv (v := .pointer _) rfl) ?_
 refine S1 (nilP rfl) ?_
 refine S1 (fa70_0 rfl) ?_
 refine S1 (ld22 rfl (hR.cellv (by decide) r0)) ?_
 refine S1 (ln und22 rfl) ?_
 refine S1 (bi rfl rfl (bn_geq (v := false) (decide_eq_false (by omega)))) ?_
 refine still_nil ?_
 refine then_n ?_
 refine cond_f rfl ?_
 refine skn ?_
 refine sqr ?_
 refine Mp rfl ?_
 refine Np rfl ?_
 refine L1 (fa70_2 rfl) ?_
 refine Lst3 (v := .int _ _) rfl rfl rfl hR (by decide) ?_
 intro w1 hR kp1
 have hS := hS.kp kp1 (nSR hE)
 have hb := hb.kp kp1 (by simp; exact hbR)
 have kp := kp.trans (kp1.mono (by simp))
 clear kp1
 refine nt ?_
 refine wp_seq ?_
 refine reg_tail 10 mixed (by kernel_rfl) ?_
 have hR := hR.drew
 have hS := hS.drew
 have hb := hb.drew
 have kp := kp.drew
 refine S1 (mv (v := .slice _ _ _) rfl) ?_
 refine S1 (mv (v := .pointer _) rfl) ?_
 refine S1 (nilP rfl) ?_
 refine S1 (fa70_0 rfl) ?_
 refine S1 (ld22 rfl (hR.cellv (by decide) r0)) ?_
 refine S1 (mv (v := .pointer _) rfl) ?_
 refine S1 (nilP rfl) ?_
 refine S1 (fa70_1 rfl) ?_
 refine S1 (ld2 rfl (hR.cellv (by decide) r1)) ?_
 refine S1 (slb_l und22 sz5 rfl rfl rfl (by omega) hcc) ?_
 refine still_nil ?_
 refine Lcp rfl rfl hb hS (by omega) (by omega) (fun j hj => by rw [hg _ (by omega)]; rfl) ?_
 intro w1 hb kp1
 have hR := hR.kp kp1 (by simp; exact fun e => hbR e.symm)
 have hS := hS.kp kp1 (by simp; exact fun e => hbS e.symm)
 have kp := kp.trans (kp1.mono (by simp))
 clear kp1
 refine Ai rfl ?_
 refine nt ?_
 refine sqr ?_
 refine Mp rfl ?_
 refine Np rfl ?_
 refine L1 (fa70_1 rfl) ?_
 refine L1 (ld2 rfl (hR.cellv (by decide) r1)) ?_
 refine Mi rfl ?_
 refine L1 (bi rfl rfl (bn_add (c := ((pos + min (E.N - pos) m : Nat) : Int)) (by omega) (by omega) (by omega))) ?_
 refine Np rfl ?_
 refine L1 (fa70_1 rfl) ?_
 refine Lst2 (v := .int _ _) rfl rfl rfl hR (by decide) ?_
 intro w1 hR kp1
 have hS := hS.kp kp1 (nSR hE)
 have hb := hb.kp kp1 (by simp; exact hbR)
 have kp := kp.trans (kp1.mono (by simp))
 clear kp1
 refine nt ?_
 refine wp_ret ?_
 refine ret2 rfl rfl rfl ?_
 refine ⟨_, rfl, rfl, ⟨_, _, _, hR, r0, rfl, rfl, by omega, .inr ⟨_, n0, g0, rfl, hS, hn, hg⟩⟩, hb.congr fun k hk => ?_, kp⟩
 unfold cpg cpd
 split
 ·rw [Nat.zero_add, hg _ (by omega)]
 ·rfl
theorem rd_eof (E : Env) (w : World) (pos : Nat) (hE : E.Ok) (hG : Gl E w) (hrd : Rd E w pos) (hp : pos = E.N) (s : Value) :
  Ret 81 [.pointer (some ⟨E.R, 0, none⟩), s] w fun v w' => v = .tuple #[.int .i64 0, EOFv E] ∧ Rd E w' pos ∧ Kp [] w w' := by
 have hN := hE.N47
 have hk := Kp.refl [] w
 have hrd0 := hrd
 obtain ⟨v, z, r, hR, r0, r1, r2, hle, hd⟩ := hrd
 obtain ⟨sa, sc, rfl⟩ := hd.len
 refine calls_fr (N := 39) Tryd.func81 rfl rfl (by simp) rfl ?_
 refine sqr ?_
 refine Ai rfl ?_
 refine L1 (asg (v := .nilIface) rfl) ?_
 refine nt ?_
 refine wp_seq ?_
 refine wp_seq ?_
 refine reg_still mixed (by kernel_rfl) ?_
 have hR := hR.drew
 have hd := hd.drew
 have hG := hG.drew
 have hk := hk.drewN 1
 refine S1 (mv (v := .pointer _) rfl) ?_
 refine S1 (nilP rfl) ?_
 refine S1 (fa70_1 rfl) ?_
 refine S1 (ld2 rfl (hR.cellv (by decide) r1)) ?_
 refine S1 (mv (v := .pointer _) rfl) ?_
 refine S1 (nilP rfl) ?_
 refine S1 (fa70_0 rfl) ?_
 refine S1 (ld22 rfl (hR.cellv (by decide) r0)) ?_
 refine S1 (ln und22 rfl) ?_
 refine S1 (bi rfl rfl (bn_geq (v := true) (decide_eq_true (by omega)))) ?_
 refine still_nil ?_
 refine then_n ?_
 refine cond_t rfl ?_
 refine wp_seq ?_
 refine reg_still mixed (by kernel_rfl) ?_
 have hR := hR.drew
 have hd := hd.drew
 have hG := hG.drew
 have hk := hk.drewN 1
 refine S1 (ld62 (v := .iface _ _) rfl hG.eof) ?_
 refine S1 (asg (v := .int _ _) rfl) ?_
 refine S1 (asg (v := .iface _ _) rfl) ?_
 refine still_nil ?_
 refine then_n ?_
 refine wp_ret ?_
 refine then_r ?_
 refine ret2 rfl rfl rfl ?_
 exact ⟨_, rfl, rfl, ⟨_, _, _, hR, r0, r1, r2, hle, hd⟩, hk⟩
theorem ral_ok (E : Env) (w : World) (pos : Nat) (hE : E.Ok) (hG : Gl E w) (hrd : Rd E w pos) (b o m c n : Nat) (t : TypeId) (gb : Nat → Value) (hb : Bk w b n t gb) (hbR : b ≠ E.R) (hbS : b ≠ E.S) (hbB : E.B ≤ b) (hm : o + m ≤ n) (hmc : m ≤ c) (hm0 : 0 < m) (hn : n < 1000000) (hp : pos + m ≤ E.N) :
  Ret 61 [.iface 43 (.pointer (some ⟨E.R, 0, none⟩)), .slice (some ⟨b, o, none⟩) m c, .int .i64 m] w fun v w' => v = .tuple #[.int .i64 m, .nilIface] ∧ Rd E w' (pos + m) ∧ Bk w' b n t (cpd E gb o pos m) ∧ Kp [E.R, b] w w' := by
 have hN := hE.N47
 have kp := Kp.refl [E.R, b] w
 have hL : ∀ x, x ∈ [E.R, b] → E.B ≤ x := by simp; exact ⟨hE.bR, hbB⟩
 have hle : pos ≤ E.N := by obtain ⟨_, _, _, _, _, _, _, h, _⟩ := hrd; exact h
 refine calls_fr (N := 46) Tryd.func61 rfl rfl (by simp) rfl ?_
 refine sqr ?_
 refine Ai rfl ?_
 refine L1 (asg (v := .nilIface) rfl) ?_
 refine nt ?_
 refine wp_seq ?_
 refine sqr ?_
 refine Ms rfl ?_
 refine L1 (ln und22 rfl) ?_
 refine Mi rfl ?_
 refine L1 (bi rfl rfl (bn_lss (v := false) (decide_eq_false (by omega)))) ?_
 refine nt ?_
 refine cond_f rfl ?_
 refine skn ?_
 refine wp_seq ?_
 refine wp_block ?_
 refine loop_fr (fun k f w' => f 0 = .iface 43 (.pointer (some ⟨E.R, 0, none⟩)) ∧ f 1 = .slice (some ⟨b, o, none⟩) m c ∧ f 2 = .int .i64 (m : Int) ∧ Gl E w' ∧ Kp [E.R, b] w w' ∧ ((k = 2 ∧ f 6 = .int .i64 ((0 : Nat) : Int) ∧ f 7 = .nilIface ∧ Rd E w' pos ∧ Bk w' b n t gb) ∨ (k = 1 ∧ f 6 = .int .i64 ((min (E.N - pos) m : Nat) : Int) ∧ f 7 = .nilIface ∧ Rd E w' (pos + min (E.N - pos) m) ∧ Bk w' b n t (cpd E gb o pos (min (E.N - pos) m))) ∨ (k = 0 ∧ min (E.N - pos) m < m ∧ f 6 = .int .i64 ((min (E.N - pos) m : Nat) : Int) ∧ f 7 = EOFv E ∧ Rd E w' (pos + min (E.N - pos) m) ∧ Bk w' b n t (cpd E gb o pos (min (E.N - pos) m))))) 2 ⟨rfl, rfl, rfl, hG, kp, .inl ⟨rfl, rfl, rfl, hrd, hb⟩⟩ ?_
 clear hG kp hrd hb
 intro k f w1 HJ
 obtain ⟨s0, s1, s2, hG, kp, HJ⟩ := HJ
 have hmin : min (E.N - pos) m ≤ E.N - pos := Nat.min_le_left _ _
 have hmin2 : min (E.N - pos) m ≤ m := Nat.min_le_right _ _
 rcases HJ with ⟨rfl, s6, s7, hrd, hb⟩ | ⟨rfl, s6, s7, hrd, hb⟩ | ⟨rfl, hkm, s6, s7, hrd, hb⟩
 ·skip
  refine slots (fc s0 (fc s1 (fc s2 (fc s6 (fc s7 fnil))))) ?_
  refine wp_seq ?_
  refine sqr ?_
  refine Mi rfl ?_
  refine Mi rfl ?_
  refine L1 (bi rfl rfl (bn_lss (v := true) (decide_eq_true (by omega)))) ?_
  refine Mb rfl ?_
  refine L1g (t := 17) (b := true) rfl (by decide) rfl (mv (v := .nilIface) rfl) ?_
  refine L1g (t := 17) (b := true) rfl (by decide) rfl (ee_nil rfl rfl) ?_
  refine L1 (pk_t rfl rfl) ?_
  refine nt ?_
  refine cond_t rfl ?_
  refine skn ?_
  refine wp_block ?_
  refine sqr ?_
  refine Ai rfl ?_
  refine nt ?_
  refine wp_seq ?_
  refine reg_mix [false, false, false, false, false, false, false, true, false, false, false, false, false] (fun _ => True) mixed (by kernel_rfl) ?_ ?_
  ·exact trivial
  have hG := hG.drew
  have hrd := hrd.drew
  have hb := hb.drew
  have kp := kp.drew
  refine T1 (fun w hC => mv (v := .iface _ _) rfl) ?_
  refine T1 (fun w hC => mv (v := .slice _ _ _) rfl) ?_
  refine T1 (fun w hC => mv (v := .int _ _) rfl) ?_
  refine T1 (fun w hC => slb_l und22 sz5 rfl rfl rfl (by omega) (by omega)) ?_
  refine T1 (fun w hC => mkM rfl) ?_
  refine T1 (fun w hC => nilM43 rfl) ?_
  refine T1 (fun w hC => mv (v := .iface _ _) rfl) ?_
  refine EC (inv1 has81 rfl (meth_rd _) rfl) (rd_ok E _ _ hE hrd (by omega) b _ _ _ n t _ hb hbR hbS (by omega)) ?_
  rintro v w2 ⟨rfl, hrd, hb, kp1⟩
  refine ⟨trivial, ?_⟩
  have hG := hG.kp kp1 hL
  have kp := kp.trans kp1
  refine T1 (fun w hC => mv (v := .tuple _) rfl) ?_
  refine T1 (fun w hC => ext2_0 rfl) ?_
  refine T1 (fun w hC => ext2_1 rfl) ?_
  refine T1 (fun w hC => asg (v := .int _ _) rfl) ?_
  refine T1 (fun w hC => asg (v := .nilIface) rfl) ?_
  refine mix_nil ?_
  refine then_n ?_
  refine reg_lit ?_
  refine Mi rfl ?_
  refine Mi rfl ?_
  refine L1 (bi rfl rfl (bn_add (c := ((min (E.N - pos) m : Nat) : Int)) (by omega) (by omega) (by omega))) ?_
  refine Ai rfl ?_
  refine wpList_nil ?_
  refine inb_n ?_
  refine then_n ?_
  refine ⟨1, _, by omega, rfl, rfl, rfl, rfl, hG, kp, .inr (.inl ⟨rfl, rfl, rfl, hrd, hb.congr fun j _ => ?_⟩)⟩
  simp only [Nat.add_zero, Nat.sub_zero]
 ·skip
  refine slots (fc s0 (fc s1 (fc s2 (fc s6 (fc s7 fnil))))) ?_
  refine wp_seq ?_
  refine sqr ?_
  refine Mi rfl ?_
  refine Mi rfl ?_
  refine L1 (bi rfl rfl (bn_lss (v := false) (decide_eq_false (by omega)))) ?_
  refine Mb rfl ?_
  refine Lskip (t := 17) (b := true) rfl (by decide) rfl ?_
  refine Lskip (t := 17) (b := true) rfl (by decide) rfl ?_
  refine L1 (pk_f rfl rfl) ?_
  refine nt ?_
  refine cond_f rfl ?_
  refine wp_exit ?_
  refine then_e ?_
  refine then_e ?_
  refine inb_same ?_
  refine then_n ?_
  refine wp_seq ?_
  refine sqr ?_
  refine Mi rfl ?_
  refine Mi rfl ?_
  refine L1 (bi rfl rfl (bn_geq (v := true) (decide_eq_true (by omega)))) ?_
  refine nt ?_
  refine cond_t rfl ?_
  refine reg_lit ?_
  refine L1 (asg (v := .nilIface) rfl) ?_
  refine nt ?_
  refine wp_ret ?_
  have ek : min (E.N - pos) m = m := by omega
  rw [ek] at hrd hb
  refine ret2 rfl rfl rfl ?_
  exact ⟨_, rfl, congrArg (fun x : Nat => Value.tuple #[.int .i64 (x : Int), .nilIface]) ek, hrd, hb, kp⟩
 ·skip
  omega
theorem ral_short (E : Env) (w : World) (pos : Nat) (hE : E.Ok) (hG : Gl E w) (hrd : Rd E w pos) (b o m c n : Nat) (t : TypeId) (gb : Nat → Value) (hb : Bk w b n t gb) (hbR : b ≠ E.R) (hbS : b ≠ E.S) (hbB : E.B ≤ b) (hm : o + m ≤ n) (hmc : m ≤ c) (hm0 : 0 < m) (hn : n < 1000000) (hp : E.N < pos + m) :
  Ret 61 [.iface 43 (.pointer (some ⟨E.R, 0, none⟩)), .slice (some ⟨b, o, none⟩) m c, .int .i64 m] w fun v w' => v = .tuple #[.int .i64 ((E.N - pos : Nat) : Int), if E.N - pos = 0 then EOFv E else UEOFv E] ∧ Rd E w' E.N ∧ Bk w' b n t (cpd E gb o pos (E.N - pos)) ∧ Kp [E.R, b] w w' := by
 have hN := hE.N47
 have kp := Kp.refl [E.R, b] w
 have hL : ∀ x, x ∈ [E.R, b] → E.B ≤ x := by simp; exact ⟨hE.bR, hbB⟩
 have hle : pos ≤ E.N := by obtain ⟨_, _, _, _, _, _, _, h, _⟩ := hrd; exact h
 refine calls_fr (N := 46) Tryd.func61 rfl rfl (by simp) rfl ?_
 refine sqr ?_
 refine Ai rfl ?_
 refine L1 (asg (v := .nilIface) rfl) ?_
 refine nt ?_
 refine wp_seq ?_
 refine sqr ?_
 refine Ms rfl ?_
 refine L1 (ln und22 rfl) ?_
 refine Mi rfl ?_
 refine L1 (bi rfl rfl (bn_lss (v := false) (decide_eq_false (by omega)))) ?_
 refine nt ?_
 refine cond_f rfl ?_
 refine skn ?_
 refine wp_seq ?_
 refine wp_block ?_
 refine loop_fr (fun k f w' => f 0 = .iface 43 (.pointer (some ⟨E.R, 0, none⟩)) ∧ f 1 = .slice (some ⟨b, o, none⟩) m c ∧ f 2 = .int .i64 (m : Int) ∧ Gl E w' ∧ Kp [E.R, b] w w' ∧ ((k = 2 ∧ f 6 = .int .i64 ((0 : Nat) : Int) ∧ f 7 = .nilIface ∧ Rd E w' pos ∧ Bk w' b n t gb) ∨ (k = 1 ∧ f 6 = .int .i64 ((min (E.N - pos) m : Nat) : Int) ∧ f 7 = .nilIface ∧ Rd E w' (pos + min (E.N - pos) m) ∧ Bk w' b n t (cpd E gb o pos (min (E.N - pos) m))) ∨ (k = 0 ∧ min (E.N - pos) m < m ∧ f 6 = .int .i64 ((min (E.N - pos) m : Nat) : Int) ∧ f 7 = EOFv E ∧ Rd E w' (pos + min (E.N - pos) m) ∧ Bk w' b n t (cpd E gb o pos (min (E.N - pos) m))))) 2 ⟨rfl, rfl, rfl, hG, kp, .inl ⟨rfl, rfl, rfl, hrd, hb⟩⟩ ?_
 clear hG kp hrd hb
 intro k f w1 HJ
 obtain ⟨s0, s1, s2, hG, kp, HJ⟩ := HJ
 have hmin : min (E.N - pos) m ≤ E.N - pos := Nat.min_le_left _ _
 have hmin2 : min (E.N - pos) m ≤ m := Nat.min_le_right _ _
 rcases HJ with ⟨rfl, s6, s7, hrd, hb⟩ | ⟨rfl, s6, s7, hrd, hb⟩ | ⟨rfl, hkm, s6, s7, hrd, hb⟩
 ·skip
  by_cases hpe : E.N - pos = 0
  ·skip
   refine slots (fc s0 (fc s1 (fc s2 (fc s6 (fc s7 fnil))))) ?_
   refine wp_seq ?_
   refine sqr ?_
   refine Mi rfl ?_
   refine Mi rfl ?_
   refine L1 (bi rfl rfl (bn_lss (v := true) (decide_eq_true (by omega)))) ?_
   refine Mb rfl ?_
   refine L1g (t := 17) (b := true) rfl (by decide) rfl (mv (v := .nilIface) rfl) ?_
   refine L1g (t := 17) (b := true) rfl (by decide) rfl (ee_nil rfl rfl) ?_
   refine L1 (pk_t rfl rfl) ?_
   refine nt ?_
   refine cond_t rfl ?_
   refine skn ?_
   refine wp_block ?_
   refine sqr ?_
   refine Ai rfl ?_
   refine nt ?_
   refine wp_seq ?_
   refine reg_mix [false, false, false, false, false, false, false, true, false, false, false, false, false] (fun _ => True) mixed (by kernel_rfl) ?_ ?_
   ·exact trivial
   have hG := hG.drew
   have hrd := hrd.drew
   have hb := hb.drew
   have kp := kp.drew
   refine T1 (fun w hC => mv (v := .iface _ _) rfl) ?_
   refine T1 (fun w hC => mv (v := .slice _ _ _) rfl) ?_
   refine T1 (fun w hC => mv (v := .int _ _) rfl) ?_
   refine T1 (fun w hC => slb_l und22 sz5 rfl rfl rfl (by omega) (by omega)) ?_
   refine T1 (fun w hC => mkM rfl) ?_
   refine T1 (fun w hC => nilM43 rfl) ?_
   refine T1 (fun w hC => mv (v := .iface _ _) rfl) ?_
   refine EC (inv1 has81 rfl (meth_rd _) rfl) (rd_eof E _ _ hE hG hrd (by omega) _) ?_
   rintro v w2 ⟨rfl, hrd, kp1⟩
   refine ⟨trivial, ?_⟩
   have hG := hG.kp kp1 (by simp)
   have hb := hb.kp kp1 (by simp)
   have kp := kp.trans (kp1.mono (by simp))
   refine T1 (fun w hC => mv (v := .tuple _) rfl) ?_
   refine T1 (fun w hC => ext2_0 rfl) ?_
   refine T1 (fun w hC => ext2_1 rfl) ?_
   refine T1 (fun w hC => asg (v := .int _ _) rfl) ?_
   refine T1 (fun w hC => asg (v := .iface _ _) rfl) ?_
   refine mix_nil ?_
   refine then_n ?_
   refine reg_lit ?_
   refine Mi rfl ?_
   refine Mi rfl ?_
   refine L1 (bi rfl rfl (bn_add (c := ((min (E.N - pos) m : Nat) : Int)) (by omega) (by omega) (by omega))) ?_
   refine Ai rfl ?_
   refine wpList_nil ?_
   refine inb_n ?_
   refine then_n ?_
   have e0 : min (E.N - pos) m = 0 := by omega
   refine ⟨0, _, by omega, rfl, rfl, rfl, rfl, hG, kp, .inr (.inr ⟨rfl, by omega, rfl, rfl, by rw [e0]; exact hrd, hb.congr fun j _ => ?_⟩)⟩
   rw [e0]
   unfold cpd
   rw [if_neg (by omega)]
  ·skip
   refine slots (fc s0 (fc s1 (fc s2 (fc s6 (fc s7 fnil))))) ?_
   refine wp_seq ?_
   refine sqr ?_
   refine Mi rfl ?_
   refine Mi rfl ?_
   refine L1 (bi rfl rfl (bn_lss (v := true) (decide_eq_true (by omega)))) ?_
   refine Mb rfl ?_
   refine L1g (t := 17) (b := true) rfl (by decide) rfl (mv (v := .nilIface) rfl) ?_
   refine L1g (t := 17) (b := true) rfl (by decide) rfl (ee_nil rfl rfl) ?_
   refine L1 (pk_t rfl rfl) ?_
   refine nt ?_
   refine cond_t rfl ?_
   refine skn ?_
   refine wp_block ?_
   refine sqr ?_
   refine Ai rfl ?_
   refine nt ?_
   refine wp_seq ?_
   refine reg_mix [false, false, false, false, false, false, false, true, false, false, false, false, false] (fun _ => True) mixed (by kernel_rfl) ?_ ?_
   ·exact trivial
   have hG := hG.drew
   have hrd := hrd.drew
   have hb := hb.drew
   have kp := kp.drew
   refine T1 (fun w hC => mv (v := .iface _ _) rfl) ?_
   refine T1 (fun w hC => mv (v := .slice _ _ _) rfl) ?_
   refine T1 (fun w hC => mv (v := .int _ _) rfl) ?_
   refine T1 (fun w hC => slb_l und22 sz5 rfl rfl rfl (by omega) (by omega)) ?_
   refine T1 (fun w hC => mkM rfl) ?_
   refine T1 (fun w hC => nilM43 rfl) ?_
   refine T1 (fun w hC => mv (v := .iface _ _) rfl) ?_
   refine EC (inv1 has81 rfl (meth_rd _) rfl) (rd_ok E _ _ hE hrd (by omega) b _ _ _ n t _ hb hbR hbS (by omega)) ?_
   rintro v w2 ⟨rfl, hrd, hb, kp1⟩
   refine ⟨trivial, ?_⟩
   have hG := hG.kp kp1 hL
   have kp := kp.trans kp1
   refine T1 (fun w hC => mv (v := .tuple _) rfl) ?_
   refine T1 (fun w hC => ext2_0 rfl) ?_
   refine T1 (fun w hC => ext2_1 rfl) ?_
   refine T1 (fun w hC => asg (v := .int _ _) rfl) ?_
   refine T1 (fun w hC => asg (v := .nilIface) rfl) ?_
   refine mix_nil ?_
   refine then_n ?_
   refine reg_lit ?_
   refine Mi rfl ?_
   refine Mi rfl ?_
   refine L1 (bi rfl rfl (bn_add (c := ((min (E.N - pos) m : Nat) : Int)) (by omega) (by omega) (by omega))) ?_
   refine Ai rfl ?_
   refine wpList_nil ?_
   refine inb_n ?_
   refine then_n ?_
   refine ⟨1, _, by omega, rfl, rfl, rfl, rfl, hG, kp, .inr (.inl ⟨rfl, rfl, rfl, hrd, hb.congr fun j _ => ?_⟩)⟩
   simp only [Nat.add_zero, Nat.sub_zero]
 ·skip
  refine slots (fc s0 (fc s1 (fc s2 (fc s6 (fc s7 fnil))))) ?_
  refine wp_seq ?_
  refine sqr ?_
  refine Mi rfl ?_
  refine Mi rfl ?_
  refine L1 (bi rfl rfl (bn_lss (v := true) (decide_eq_true (by omega)))) ?_
  refine Mb rfl ?_
  refine L1g (t := 17) (b := true) rfl (by decide) rfl (mv (v := .nilIface) rfl) ?_
  refine L1g (t := 17) (b := true) rfl (by decide) rfl (ee_nil rfl rfl) ?_
  refine L1 (pk_t rfl rfl) ?_
  refine nt ?_
  refine cond_t rfl ?_
  refine skn ?_
  refine wp_block ?_
  refine sqr ?_
  refine Ai rfl ?_
  refine nt ?_
  refine wp_seq ?_
  refine reg_mix [false, false, false, false, false, false, false, true, false, false, false, false, false] (fun _ => True) mixed (by kernel_rfl) ?_ ?_
  ·exact trivial
  have hG := hG.drew
  have hrd := hrd.drew
  have hb := hb.drew
  have kp := kp.drew
  refine T1 (fun w hC => mv (v := .iface _ _) rfl) ?_
  refine T1 (fun w hC => mv (v := .slice _ _ _) rfl) ?_
  refine T1 (fun w hC => mv (v := .int _ _) rfl) ?_
  refine T1 (fun w hC => slb_l und22 sz5 rfl rfl rfl (by omega) (by omega)) ?_
  refine T1 (fun w hC => mkM rfl) ?_
  refine T1 (fun w hC => nilM43 rfl) ?_
  refine T1 (fun w hC => mv (v := .iface _ _) rfl) ?_
  refine EC (inv1 has81 rfl (meth_rd _) rfl) (rd_eof E _ _ hE hG hrd (by omega) _) ?_
  rintro v w2 ⟨rfl, hrd, kp1⟩
  refine ⟨trivial, ?_⟩
  have hG := hG.kp kp1 (by simp)
  have hb := hb.kp kp1 (by simp)
  have kp := kp.trans (kp1.mono (by simp))
  refine T1 (fun w hC => mv (v := .tuple _) rfl) ?_
  refine T1 (fun w hC => ext2_0 rfl) ?_
  refine T1 (fun w hC => ext2_1 rfl) ?_
  refine T1 (fun w hC => asg (v := .int _ _) rfl) ?_
  refine T1 (fun w hC => asg (v := .iface _ _) rfl) ?_
  refine mix_nil ?_
  refine then_n ?_
  refine reg_lit ?_
  refine Mi rfl ?_
  refine Mi rfl ?_
  refine L1 (bi rfl rfl (bn_add (c := ((min (E.N - pos) m : Nat) : Int)) (by omega) (by omega) (by omega))) ?_
  refine Ai rfl ?_
  refine wpList_nil ?_
  refine inb_n ?_
  refine then_n ?_
  refine ⟨0, _, by omega, rfl, rfl, rfl, rfl, hG, kp, .inr (.inr ⟨rfl, by omega, rfl, rfl, hrd, hb⟩)⟩
 ·skip
  refine slots (fc s0 (fc s1 (fc s2 (fc s6 (fc s7 fnil))))) ?_
  by_cases hk0 : min (E.N - pos) m = 0
  ·skip
   refine wp_seq ?_
   refine sqr ?_
   refine Mi rfl ?_
   refine Mi rfl ?_
   refine L1 (bi rfl rfl (bn_lss (v := true) (decide_eq_true (by omega)))) ?_
   refine Mb rfl ?_
   refine L1g (t := 17) (b := true) rfl (by decide) rfl (mv (v := .iface _ _) rfl) ?_
   refine L1g (t := 17) (b := true) rfl (by decide) rfl (ee_held rfl rfl) ?_
   refine L1 (pk_t rfl rfl) ?_
   refine nt ?_
   refine cond_f rfl ?_
   refine wp_exit ?_
   refine then_e ?_
   refine then_e ?_
   refine inb_same ?_
   refine then_n ?_
   refine wp_seq ?_
   refine sqr ?_
   refine Mi rfl ?_
   refine Mi rfl ?_
   refine L1 (bi rfl rfl (bn_geq (v := false) (decide_eq_false (by omega)))) ?_
   refine nt ?_
   refine cond_f rfl ?_
   refine sqr ?_
   refine Mi rfl ?_
   refine L1 (bi rfl rfl (bn_gtr (v := false) (decide_eq_false (by omega)))) ?_
   refine Mb rfl ?_
   refine Lskip (t := 40) (b := true) rfl (by decide) rfl ?_
   refine Lskip (t := 40) (b := true) rfl (by decide) rfl ?_
   refine Lskip (t := 40) (b := true) rfl (by decide) rfl ?_
   refine L1 (pk_f rfl rfl) ?_
   refine nt ?_
   refine cond_f rfl ?_
   refine skn ?_
   refine wp_ret ?_
   refine ret2 rfl rfl rfl ?_
   rw [show min (E.N - pos) m = E.N - pos by omega] at hrd hb ⊢
   exact ⟨_, rfl, by rw [if_pos (by omega)]; rfl, by rwa [show pos + (E.N - pos) = E.N by omega] at hrd, hb, kp⟩
  ·skip
   refine wp_seq ?_
   refine sqr ?_
   refine Mi rfl ?_
   refine Mi rfl ?_
   refine L1 (bi rfl rfl (bn_lss (v := true) (decide_eq_true (by omega)))) ?_
   refine Mb rfl ?_
   refine L1g (t := 17) (b := true) rfl (by decide) rfl (mv (v := .iface _ _) rfl) ?_
   refine L1g (t := 17) (b := true) rfl (by decide) rfl (ee_held rfl rfl) ?_
   refine L1 (pk_t rfl rfl) ?_
   refine nt ?_
   refine cond_f rfl ?_
   refine wp_exit ?_
   refine then_e ?_
   refine then_e ?_
   refine inb_same ?_
   refine then_n ?_
   refine wp_seq ?_
   refine sqr ?_
   refine Mi rfl ?_
   refine Mi rfl ?_
   refine L1 (bi rfl rfl (bn_geq (v := false) (decide_eq_false (by omega)))) ?_
   refine nt ?_
   refine cond_f rfl ?_
   refine sqr ?_
   refine Mi rfl ?_
   refine L1 (bi rfl rfl (bn_gtr (v := true) (decide_eq_true (by omega)))) ?_
   refine Mb rfl ?_
   refine L1g (t := 40) (b := true) rfl (by decide) rfl (mv (v := .iface _ _) rfl) ?_
   refine L1g (t := 40) (b := true) rfl (by decide) rfl (ld62 (v := .iface _ _) rfl hG.eof) ?_
   refine L1g (t := 40) (b := true) rfl (by decide) rfl (ee_run rfl rfl (eq_same _)) ?_
   refine L1 (pk_t rfl rfl) ?_
   refine nt ?_
   refine cond_t rfl ?_
   refine reg_lit ?_
   refine L1 (ld62 (v := .iface _ _) rfl hG.ueof) ?_
   refine L1 (asg (v := .iface _ _) rfl) ?_
   refine nt ?_
   refine wp_ret ?_
   refine ret2 rfl rfl rfl ?_
   rw [show min (E.N - pos) m = E.N - pos by omega] at hrd hb ⊢
   exact ⟨_, rfl, by rw [if_neg (by omega)]; rfl, by rwa [show pos + (E.N - pos) = E.N by omega] at hrd, hb, kp⟩
theorem rdf_ok (E : Env) (w : World) (pos : Nat) (hE : E.Ok) (hG : Gl E w) (hrd : Rd E w pos) (b o m c n : Nat) (t : TypeId) (gb : Nat → Value) (hb : Bk w b n t gb) (hbR : b ≠ E.R) (hbS : b ≠ E.S) (hbB : E.B ≤ b) (hm : o + m ≤ n) (hmc : m ≤ c) (hm0 : 0 < m) (hn : n < 1000000) (hp : pos + m ≤ E.N) :
  Ret 49 [.iface 43 (.pointer (some ⟨E.R, 0, none⟩)), .slice (some ⟨b, o, none⟩) m c] w fun v w' => v = .tuple #[.int .i64 m, .nilIface] ∧ Rd E w' (pos + m) ∧ Bk w' b n t (cpd E gb o pos m) ∧ Kp [E.R, b] w w' := by
 refine calls_fr (N := 13) Tryd.func49 rfl rfl (by simp) rfl ?_
 refine sqr ?_
 refine Ai rfl ?_
 refine L1 (asg (v := .nilIface) rfl) ?_
 refine nt ?_
 refine sqr ?_
 refine L1 (mv (v := .iface _ _) rfl) ?_
 refine Ms rfl ?_
 refine Ms rfl ?_
 refine L1 (ln und22 rfl) ?_
 refine LC (cl3 has61 rfl rfl rfl rfl) (ral_ok E w pos hE hG hrd b o m c n t gb hb hbR hbS hbB hm hmc hm0 hn hp) ?_
 rintro v w1 ⟨rfl, hr⟩
 refine L1 (ext2_0 rfl) ?_
 refine L1 (ext2_1 rfl) ?_
 refine Ai rfl ?_
 refine L1 (asg rfl) ?_
 refine nt ?_
 refine wp_ret ?_
 refine ret2 rfl rfl rfl ?_
 exact ⟨_, rfl, rfl, hr⟩
theorem rdf_short (E : Env) (w : World) (pos : Nat) (hE : E.Ok) (hG : Gl E w) (hrd : Rd E w pos) (b o m c n : Nat) (t : TypeId) (gb : Nat → Value) (hb : Bk w b n t gb) (hbR : b ≠ E.R) (hbS : b ≠ E.S) (hbB : E.B ≤ b) (hm : o + m ≤ n) (hmc : m ≤ c) (hm0 : 0 < m) (hn : n < 1000000) (hp : E.N < pos + m) :
  Ret 49 [.iface 43 (.pointer (some ⟨E.R, 0, none⟩)), .slice (some ⟨b, o, none⟩) m c] w fun v w' => v = .tuple #[.int .i64 ((E.N - pos : Nat) : Int), if E.N - pos = 0 then EOFv E else UEOFv E] ∧ Rd E w' E.N ∧ Bk w' b n t (cpd E gb o pos (E.N - pos)) ∧ Kp [E.R, b] w w' := by
 refine calls_fr (N := 13) Tryd.func49 rfl rfl (by simp) rfl ?_
 refine sqr ?_
 refine Ai rfl ?_
 refine L1 (asg (v := .nilIface) rfl) ?_
 refine nt ?_
 refine sqr ?_
 refine L1 (mv (v := .iface _ _) rfl) ?_
 refine Ms rfl ?_
 refine Ms rfl ?_
 refine L1 (ln und22 rfl) ?_
 refine LC (cl3 has61 rfl rfl rfl rfl) (ral_short E w pos hE hG hrd b o m c n t gb hb hbR hbS hbB hm hmc hm0 hn hp) ?_
 rintro v w1 ⟨rfl, hr⟩
 refine L1 (ext2_0 rfl) ?_
 refine L1 (ext2_1 rfl) ?_
 refine Ai rfl ?_
 refine L1 (asg rfl) ?_
 refine nt ?_
 refine wp_ret ?_
 refine ret2 rfl rfl rfl ?_
 exact ⟨_, rfl, rfl, hr⟩
theorem ral_zero (w : World) (r : Value) (a : Option Addr) (c : Nat) :
  Ret 61 [r, .slice a 0 c, .int .i64 ((0 : Nat) : Int)] w fun v w' => v = .tuple #[.int .i64 ((0 : Nat) : Int), .nilIface] ∧ w' = w := by
 refine calls_fr (N := 46) Tryd.func61 rfl rfl (by simp) rfl ?_
 refine sqr ?_
 refine Ai rfl ?_
 refine L1 (asg (v := .nilIface) rfl) ?_
 refine nt ?_
 refine wp_seq ?_
 refine sqr ?_
 refine Ms rfl ?_
 refine L1 (ln und22 rfl) ?_
 refine Mi rfl ?_
 refine L1 (bi rfl rfl (bn_lss (v := false) (decide_eq_false (by omega)))) ?_
 refine nt ?_
 refine cond_f rfl ?_
 refine skn ?_
 refine wp_seq ?_
 refine wp_block ?_
 refine loop_fr (fun k f w' => w' = w ∧ f 2 = .int .i64 ((0 : Nat) : Int) ∧ f 6 = .int .i64 ((0 : Nat) : Int)) 0 ⟨rfl, rfl, rfl⟩ ?_
 rintro k f _ ⟨rfl, s2, s6⟩
 refine slots (fc s2 (fc s6 fnil)) ?_
 refine wp_seq ?_
 refine sqr ?_
 refine Mi rfl ?_
 refine Mi rfl ?_
 refine L1 (bi rfl rfl (bn_lss (v := false) (decide_eq_false (by omega)))) ?_
 refine Mb rfl ?_
 refine Lskip (t := 17) (b := true) rfl (by decide) rfl ?_
 refine Lskip (t := 17) (b := true) rfl (by decide) rfl ?_
 refine L1 (pk_f rfl rfl) ?_
 refine nt ?_
 refine cond_f rfl ?_
 refine wp_exit ?_
 refine then_e ?_
 refine then_e ?_
 refine inb_same ?_
 refine then_n ?_
 refine wp_seq ?_
 refine sqr ?_
 refine Mi rfl ?_
 refine Mi rfl ?_
 refine L1 (bi rfl rfl (bn_geq (v := true) (decide_eq_true (by omega)))) ?_
 refine nt ?_
 refine cond_t rfl ?_
 refine reg_lit ?_
 refine L1 (asg (v := .nilIface) rfl) ?_
 refine nt ?_
 refine wp_ret ?_
 refine ret2 rfl rfl rfl ?_
 exact ⟨_, rfl, rfl, rfl⟩
theorem rdf_zero (w : World) (r : Value) (a : Option Addr) (c : Nat) :
  Ret 49 [r, .slice a 0 c] w fun v w' => v = .tuple #[.int .i64 ((0 : Nat) : Int), .nilIface] ∧ w' = w := by
 refine calls_fr (N := 13) Tryd.func49 rfl rfl (by simp) rfl ?_
 refine sqr ?_
 refine Ai rfl ?_
 refine L1 (asg (v := .nilIface) rfl) ?_
 refine nt ?_
 refine sqr ?_
 refine L1 (mv (v := r) rfl) ?_
 refine Ms rfl ?_
 refine Ms rfl ?_
 refine L1 (ln und22 rfl) ?_
 refine LC (cl3 has61 rfl rfl rfl rfl) (ral_zero w r a c) ?_
 rintro v w1 ⟨rfl, hr⟩
 refine L1 (ext2_0 rfl) ?_
 refine L1 (ext2_1 rfl) ?_
 refine Ai rfl ?_
 refine L1 (asg rfl) ?_
 refine nt ?_
 refine wp_ret ?_
 refine ret2 rfl rfl rfl ?_
 exact ⟨_, rfl, rfl, hr⟩
end Go.Proofs.YtejeloeaklpinaaDoor
namespace Go.Proofs.YtejeloeaklpinaaDoor
/-- A set of codes that lies in cells told by gx from o on: least length, 512 chunks, links, mask. -/
def HTab (E : Env) (w : World) (gx : Nat → Value) (o : Nat) (c : Cd) : Prop :=
 gx o = .int .i64 (c.m : Int) ∧ ∃ (la : Option Addr) (ll lc mask : Nat), gx (o + 513) = .slice la ll lc ∧ gx (o + 514) = .int .u32 (mask : Int) ∧ mask < 4294967296 ∧
 ∀ x : Nat, c.lk x < 4294967296 ∧ ∃ ch : Nat, gx (o + 1 + x % 512) = .int .u32 (ch : Int) ∧ ch < 4294967296 ∧
  ((ch % 16 ≤ 9 ∧ c.lk x = ch) ∨
   (9 < ch % 16 ∧ ch / 16 < ll ∧ ∃ lb lo ib io il ic, la = some ⟨lb, lo, none⟩ ∧ lb ∉ E.X ∧ ib ∉ E.X ∧ w.cell? ⟨lb, lo + ch / 16, none⟩ = some (.slice (some ⟨ib, io, none⟩) il ic) ∧
   (x / 512) &&& mask < il ∧ w.cell? ⟨ib, io + ((x / 512) &&& mask), none⟩ = some (.int .u32 (c.lk x : Int))))
theorem HTab.keep {E : Env} {w w' : World} {gx gx' : Nat → Value} {o : Nat} {c : Cd} (h : HTab E w gx o c) (k : Kp E.X w w') (hg : ∀ j, o ≤ j → j < o + 515 → gx' j = gx j) : HTab E w' gx' o c := by
 obtain ⟨h0, la, ll, lc, mask, h1, h2, h3, h4⟩ := h
 refine ⟨(hg o (by omega) (by omega)).trans h0, la, ll, lc, mask, (hg _ (by omega) (by omega)).trans h1, (hg _ (by omega) (by omega)).trans h2, h3, fun x => ?_⟩
 obtain ⟨h5, ch, h6, h7, h8⟩ := h4 x
 have hx : x % 512 < 512 := Nat.mod_lt _ (by omega)
 refine ⟨h5, ch, (hg _ (by omega) (by omega)).trans h6, h7, ?_⟩
 rcases h8 with h8 | ⟨h8, h9, lb, lo, ib, io, il, ic, h10, h11, h12, h13, h14, h15⟩
 ·exact .inl h8
 ·exact .inr ⟨h8, h9, lb, lo, ib, io, il, ic, h10, h11, h12, k.cell h13 h11, h14, k.cell h15 h12⟩
/-- What of the look-up is known of every number of bits. -/
structure LkOk (c : Cd) : Prop where
 le : ∀ X nb, c.m ≤ nb → c.lk (X % 2 ^ nb) % 16 ≤ nb → c.lk X = c.lk (X % 2 ^ nb)
 gt : ∀ X nb, c.m ≤ nb → nb < c.lk (X % 2 ^ nb) % 16 → c.lk (X % 2 ^ nb) % 16 ≤ c.lk X % 16
 m15 : c.m ≤ 15
 small : ∀ X, c.lk X < 8192
def HMode (E : Env) (w : World) (g : Nat → Value) (hl : Cd) : Option Cd → Prop
 | none => LkOk hl ∧ g 1051 = .pointer none ∧ ∃ X gx, g 1050 = .pointer (some ⟨X, 0, none⟩) ∧ X ∉ E.X ∧ Bk w X 515 86 gx ∧ HTab E w gx 0 hl
 | some hd => LkOk hl ∧ LkOk hd ∧ g 1050 = .pointer (some ⟨E.F, 5, none⟩) ∧ g 1051 = .pointer (some ⟨E.F, 520, none⟩) ∧ HTab E w g 5 hl ∧ HTab E w g 520 hd
theorem HMode.keep {E : Env} {w w' : World} {g g' : Nat → Value} {hl : Cd} {hd : Option Cd} {L : List Nat} (h : HMode E w g hl hd) (k : Kp E.X w w') (o : Off L g g') (hL : ∀ j, j ∈ L → j < 5 ∨ 1035 ≤ j) (h0 : 1050 ∉ L ∧ 1051 ∉ L) : HMode E w' g' hl hd := by
 have hg : ∀ j, 5 ≤ j → j < 1035 → g' j = g j := fun j h1 h2 => o j (fun hm => by have := hL j hm; omega)
 cases hd with
 | none =>
  obtain ⟨h1, h2, X, gx, h3, h4, h5, h6⟩ := h
  exact ⟨h1, (o _ h0.2).trans h2, X, gx, (o _ h0.1).trans h3, h4, h5.kp k h4, h6.keep k (fun _ _ _ => rfl)⟩
 | some hd =>
  obtain ⟨h1, h2, h3, h4, h5, h6⟩ := h
  exact ⟨h1, h2, (o _ h0.1).trans h3, (o _ h0.2).trans h4, h5.keep k (fun j a b => hg j (by omega) (by omega)), h6.keep k (fun j a b => hg j (by omega) (by omega))⟩
/-- A table that was used, or one that is all zero. -/
def HZ (g : Nat → Value) (o : Nat) : Prop :=
 (∃ m : Int, m ≠ 0 ∧ g o = .int .i64 m) ∨ (g o = .int .i64 0 ∧ (∀ k, k < 512 → g (o + 1 + k) = .int .u32 0) ∧ g (o + 513) = .slice none 0 0 ∧ g (o + 514) = .int .u32 0)
theorem HZ.keep {g g' : Nat → Value} {o : Nat} (h : HZ g o) (hg : ∀ j, o ≤ j → j < o + 515 → g' j = g j) : HZ g' o := by
 rcases h with ⟨m, h1, h2⟩ | ⟨h1, h2, h3, h4⟩
 ·exact .inl ⟨m, h1, (hg _ (by omega) (by omega)).trans h2⟩
 ·exact .inr ⟨(hg _ (by omega) (by omega)).trans h1, fun k hk => (hg _ (by omega) (by omega)).trans (h2 k hk), (hg _ (by omega) (by omega)).trans h3, (hg _ (by omega) (by omega)).trans h4⟩
/-- The step's own state: at a symbol, or behind a copy that was cut (its distance is in bounds). -/
def SS (g : Nat → Value) : Prop := g 1046 = .int .i64 0 ∨ (g 1046 = .int .i64 1 ∧ ∃ cd : Nat, g 1053 = .int .i64 cd ∧ 1 ≤ cd ∧ cd ≤ 32768)
theorem SS.off {g g' : Nat → Value} {L : List Nat} (h : SS g) (o : Off L g g') (h0 : 1046 ∉ L ∧ 1053 ∉ L) : SS g' := by
 rcases h with h | ⟨h, cd, h1, h2⟩
 ·exact .inl ((o _ h0.1).trans h)
 ·exact .inr ⟨(o _ h0.1).trans h, cd, (o _ h0.2).trans h1, h2⟩
/-- What holds at every point: place of bytes, what was told, how much was handed on and taken, the place of writing. -/
structure Cr (E : Env) (w : World) (g hs bs cs : Nat → Value) (pos : Nat) (out : List Nat) (fl wr e : Nat) : Prop where
 W : Wd E w g hs bs cs pos
 S : Stc E g
 V : Win out hs
 D : Dw E g out.length fl wr
 T : TR E g e fl
 Z : HZ g 5 ∧ HZ g 520
/-- The mode's own cells. -/
def Md (E : Env) (w : World) (g : Nat → Value) (out : List Nat) : Mode → Prop
 | .next => SS g ∧ g 1052 = .int .i64 0
 | .data n => SS g ∧ g 1052 = .int .i64 n ∧ n ≤ 65535 ∧ g 3 = .int .u32 0 ∧ g 4 = .int .u64 0
 | .huff hl hd none => HMode E w g hl hd ∧ SS g ∧ g 1052 = .int .i64 0
 | .huff hl hd (some (len, dist)) => HMode E w g hl hd ∧ g 1052 = .int .i64 len ∧ len ≤ 258 ∧ g 1053 = .int .i64 dist ∧ 1 ≤ dist ∧ dist ≤ 32768 ∧ dist ≤ out.length
def stepOf : Mode → Nat
 | .next => 35
 | .data _ => 52
 | .huff _ _ _ => 44
/-- The step's state at a step's start. -/
def SSm (g : Nat → Value) : Mode → Prop
 | .huff _ _ (some _) => g 1046 = .int .i64 1
 | _ => True
structure Live (E : Env) (w : World) (g : Nat → Value) (a : A) : Prop where
 B : Bt E g a.p a.pos
 fin : g 1047 = .bool a.fin
 err : g 1048 = .nilIface
 md : Md E w g a.out a.md
/-- The blocks stand for the state a, between two steps. -/
def Rep (E : Env) (w : World) (a : A) : Prop :=
 ∃ g hs bs cs, Cr E w g hs bs cs a.pos a.out a.fl (a.out.length % 32768) a.e ∧ ErrV E a.err (g 1048) ∧ (a.err = 0 → Live E w g a ∧ g 1045 = fnv (stepOf a.md) ∧ SSm g a.md)
/-- The same inside a step: the step's own cell is not told. -/
def RepI (E : Env) (w : World) (a : A) : Prop :=
 ∃ g hs bs cs, Cr E w g hs bs cs a.pos a.out a.fl (a.out.length % 32768) a.e ∧ Live E w g a
theorem noEOF_any (E : Env) (w : World) (hG : Gl E w) (x : Addr) (hx : x = E.aE ∨ x = E.aU) : Ret 48 [.iface 131 (.pointer (some x))] w fun v w' => v = UEOFv E ∧ w' = w := by
 rcases hx with rfl | rfl
 ·exact noEOF_eof E w hG
 ·exact noEOF_ueof E w hG
theorem bytesAt_length (S : Src) : ∀ (n pos : Nat), (bytesAt S pos n).length = n
 | 0, _ => rfl
 | n + 1, pos => by simp [bytesAt, bytesAt_length S n]
theorem bytesAt_getD (S : Src) : ∀ (n pos j : Nat), j < n → (bytesAt S pos n).getD j 0 = bv S.D (8 * (pos + j)) 8
 | 0, _, _, h => by omega
 | n + 1, pos, 0, _ => by simp [bytesAt]
 | n + 1, pos, j + 1, h => by
  have := bytesAt_getD S n (pos + 1) j (by omega)
  rw [show pos + (j + 1) = pos + 1 + j by omega, ← this]
  simp [bytesAt]
theorem bv_byte {E : Env} (hE : E.Ok) {k : Nat} (hk : k < E.N) : bv E.D (8 * k) 8 = E.d k := by
 have := dnum_byte E.d hE.d8 E.N k hk
 rw [pow256] at this
 exact this
theorem win_data {E : Env} (hE : E.Ok) {out : List Nat} {hs : Nat → Value} {pos wr k : Nat} (h : Win out hs) (hw : wr = out.length % 32768) (hk : wr + k ≤ 32768) (hp : pos + k ≤ E.N) :
  Win (out ++ bytesAt E.S' pos k) (cpd E hs wr pos k) := by
 have hl := bytesAt_length E.S' k pos
 have hget : ∀ i, (out ++ bytesAt E.S' pos k).getD i 0 = if i < out.length then out.getD i 0 else if i < out.length + k then E.d (pos + (i - out.length)) else 0 := by
  intro i
  by_cases h1 : i < out.length
  ·rw [if_pos h1, List.getD_eq_getElem?_getD, List.getElem?_append_left h1, ← List.getD_eq_getElem?_getD]
  ·rw [if_neg h1, List.getD_eq_getElem?_getD, List.getElem?_append_right (by omega), ← List.getD_eq_getElem?_getD]
   by_cases h2 : i < out.length + k
   ·rw [if_pos h2, bytesAt_getD _ _ _ _ (by omega)]
    exact bv_byte hE (by omega)
   ·rw [if_neg h2, List.getD_eq_getElem?_getD, List.getElem?_eq_none (by omega)]
    rfl
 refine ⟨fun j hj => ?_, fun i hi hi2 => ?_, fun i hi => ?_⟩
 ·unfold cpd
  split
  ·exact ⟨_, hE.d8 _, rfl⟩
  ·exact h.byte j hj
 ·rw [List.length_append, hl] at hi hi2
  rw [hget]
  unfold cpd
  by_cases h1 : i < out.length
  ·rw [if_pos h1, if_neg (by omega)]
   exact h.last i h1 (by omega)
  ·rw [if_neg h1, if_pos hi, if_pos (by omega), show i % 32768 - wr = i - out.length by omega]
 ·rw [List.length_append, hl] at hi
  rw [hget]
  split
  ·rename_i h1; exact h.small i h1
  ·exact hE.d8 _
theorem Cr.off {E : Env} {w w' : World} {g g' hs bs cs : Nat → Value} {pos pos' : Nat} {out : List Nat} {fl wr e : Nat} {L : List Nat} (h : Cr E w g hs bs cs pos out fl wr e) (hW : Wd E w' g' hs bs cs pos') (o : Off L g g')
  (hL : ∀ j, j ∈ L → j = 2 ∨ j = 3 ∨ j = 4 ∨ 1041 ≤ j ∧ j ≠ 1049) : Cr E w' g' hs bs cs pos' out fl wr e := by
 have n : ∀ j, j ≠ 2 → j ≠ 3 → j ≠ 4 → (j < 1041 ∨ j = 1049) → j ∉ L := fun j h2 h3 h4 h5 hm => by have := hL j hm; omega
 refine ⟨hW, h.S.off o ⟨n _ ?_ ?_ ?_ ?_, n _ ?_ ?_ ?_ ?_, n _ ?_ ?_ ?_ ?_, n _ ?_ ?_ ?_ ?_, n _ ?_ ?_ ?_ ?_⟩, h.V, h.D.off o ⟨n _ ?_ ?_ ?_ ?_, n _ ?_ ?_ ?_ ?_, n _ ?_ ?_ ?_ ?_, n _ ?_ ?_ ?_ ?_⟩, h.T.off o (n _ ?_ ?_ ?_ ?_),
  h.Z.1.keep fun j a b => o j (n _ (by omega) (by omega) (by omega) (by omega)), h.Z.2.keep fun j a b => o j (n _ (by omega) (by omega) (by omega) (by omega))⟩ <;> omega
end Go.Proofs.YtejeloeaklpinaaDoor
namespace Go.Proofs.YtejeloeaklpinaaDoor
attribute [local irreducible] wpList wpStill wpMix Code.wp Calls fr
theorem rdf_short' (E : Env) (w : World) (pos : Nat) (hE : E.Ok) (hG : Gl E w) (hrd : Rd E w pos) (b o m c n : Nat) (t : TypeId) (gb : Nat → Value) (hb : Bk w b n t gb) (hbR : b ≠ E.R) (hbS : b ≠ E.S) (hbB : E.B ≤ b) (hm : o + m ≤ n) (hmc : m ≤ c) (hm0 : 0 < m) (hn : n < 1000000) (hp : E.N < pos + m) :
  Ret 49 [.iface 43 (.pointer (some ⟨E.R, 0, none⟩)), .slice (some ⟨b, o, none⟩) m c] w fun v w' => ∃ x, (x = E.aE ∨ x = E.aU) ∧ v = .tuple #[.int .i64 ((E.N - pos : Nat) : Int), .iface 131 (.pointer (some x))] ∧ Rd E w' E.N ∧ Bk w' b n t (cpd E gb o pos (E.N - pos)) ∧ Kp [E.R, b] w w' := by
 refine (rdf_short E w pos hE hG hrd b o m c n t gb hb hbR hbS hbB hm hmc hm0 hn hp).mono ?_
 rintro e w' ⟨v, rfl, rfl, h⟩
 by_cases h0 : E.N - pos = 0
 ·rw [if_pos h0]; exact ⟨_, rfl, E.aE, .inl rfl, rfl, h⟩
 ·rw [if_neg h0]; exact ⟨_, rfl, E.aU, .inr rfl, rfl, h⟩
theorem Wd.setHR {E : Env} {w w1 : World} {g hs bs cs g' : Nat → Value} {pos pos' : Nat} (h : Wd E w g hs bs cs pos) (hE : E.Ok) (hH : Bk w1 E.H 32768 5 g') (hR : Rd E w1 pos') (k : Kp [E.R, E.H] w w1) : Wd E w1 g g' bs cs pos' :=
 ⟨h.F.kp k (by simp; exact ⟨hE.FR, hE.FH⟩), hH, h.bt.kp k (by simp; exact ⟨fun e => hE.Rb e.symm, fun e => hE.Hb e.symm⟩), h.cb.kp k (by simp; exact ⟨fun e => hE.Rc e.symm, fun e => hE.Hc e.symm⟩),
  hR, h.gl.kp k (by simp; exact ⟨hE.bR, hE.bH⟩), ⟨Nat.lt_of_lt_of_le h.bu.1 k.size, Nat.lt_of_lt_of_le h.bu.2 k.size⟩⟩
theorem cd_short_b (E : Env) (w : World) (g hs bs cs : Nat → Value) (pos wr rd n : Nat) (full : Bool) (ro : Int) (hE : E.Ok) (hW : Wd E w g hs bs cs pos) (hS : Stc E g) (hD : DD E g wr rd full) (hro : g 2 = .int .i64 ro) (hl : g 1052 = .int .i64 n) (hw : wr < 32768) (hn : n ≤ 65535) (hle : pos ≤ E.N) (hb : 32768 - wr ≤ n) (hp : E.N < pos + (32768 - wr)) :
  Ret 52 [fp E] w fun v w' => v = .tuple #[] ∧ ∃ g', Wd E w' g' (cpd E hs wr pos (E.N - pos)) bs cs E.N ∧ g' 1048 = UEOFv E ∧ g' 1038 = .int .i64 ((wr + (E.N - pos) : Nat) : Int) ∧ Off [2, 1038, 1048, 1052] g g' ∧ Kp E.L w w' := by
 have kp := Kp.refl E.L w
 have hN := hE.N47
 refine calls_fr (N := 83) Tryd.func52 rfl rfl (by simp [fp]) rfl ?_
 refine sqr ?_
 refine Mp rfl ?_
 refine Np rfl ?_
 refine L1 (fa95_9 rfl) ?_
 refine LC (cl1 has63 rfl rfl) (writeSlice_c E _ g wr rd full hW.F hD hw) ?_
 rintro v w1 ⟨rfl, rfl⟩
 have hW := hW.drew
 have kp := kp.drew
 refine L1 (asg (v := .slice _ _ _) rfl) ?_
 refine nt ?_
 refine wp_seq ?_
 refine sqr ?_
 refine Ms rfl ?_
 refine L1 (ln und22 rfl) ?_
 refine Mp rfl ?_
 refine Np rfl ?_
 refine L1 (fa95_18 rfl) ?_
 refine L1 (ld3 rfl (hW.F.cellv (by decide) hl)) ?_
 refine L1 (bi rfl rfl (bn_gtr (v := false) (decide_eq_false (by omega)))) ?_
 refine nt ?_
 refine cond_f rfl ?_
 refine skn ?_
 refine sqr ?_
 refine Mp rfl ?_
 refine Np rfl ?_
 refine L1 (fa95_0 rfl) ?_
 refine L1 (ld80 rfl (hW.F.cellv (by decide) hS.r)) ?_
 refine Ms rfl ?_
 refine LC (cl2 has49 rfl rfl rfl) (rdf_short' E _ pos hE hW.gl hW.rd E.H wr (32768 - wr) (32768 - wr) 32768 5 hs hW.H (fun e => hE.RH e.symm) (fun e => hE.SH e.symm) hE.bH (by omega) (by omega) (by omega) (by decide) (by omega)) ?_
 rintro v w1 ⟨ex, hex, rfl, hrd, hh, kp1⟩
 have hW := hW.setHR hE hh hrd kp1
 have kp := kp.trans (kp1.mono (by simp [Env.L]))
 clear kp1 hh hrd
 refine L1 (mv (v := .tuple _) rfl) ?_
 refine L1 (ext2_0 rfl) ?_
 refine L1 (ext2_1 rfl) ?_
 refine Ai rfl ?_
 refine L1 (asg (v := .iface _ _) rfl) ?_
 refine nt ?_
 refine sqr ?_
 refine Mp rfl ?_
 refine Np rfl ?_
 refine L1 (fa95_2 rfl) ?_
 refine L1 (ld2 rfl (hW.F.cellv (by decide) hro)) ?_
 refine Mi rfl ?_
 refine L1 (bi rfl rfl (bn_addw)) ?_
 refine Np rfl ?_
 refine L1 (fa95_2 rfl) ?_
 refine Lst2 (v := .int _ _) rfl rfl rfl hW.F (by decide) ?_
 intro w1 hb1 kp1
 have hW := hW.setF hE hb1 kp1
 have kp := kp.F kp1
 clear hb1 kp1
 refine nt ?_
 refine sqr ?_
 refine Mp rfl ?_
 refine Np rfl ?_
 refine L1 (fa95_18 rfl) ?_
 refine L1 (ld3 rfl (hW.F.cellv (by decide) hl)) ?_
 refine Mi rfl ?_
 refine L1 (bi rfl rfl (bn_sub (c := ((n - (E.N - pos) : Nat) : Int)) (by omega) (by omega) (by omega))) ?_
 refine Np rfl ?_
 refine L1 (fa95_18 rfl) ?_
 refine Lst3 (v := .int _ _) rfl rfl rfl hW.F (by decide) ?_
 intro w1 hb1 kp1
 have hW := hW.setF hE hb1 kp1
 have kp := kp.F kp1
 clear hb1 kp1
 refine nt ?_
 refine sqr ?_
 refine Mp rfl ?_
 refine Np rfl ?_
 refine L1 (fa95_9 rfl) ?_
 refine Mi rfl ?_
 refine LC (cl2 has64 rfl rfl rfl) (writeMark_c E _ _ wr rd full hW.F ⟨hD.hist, hD.wr, hD.rd, hD.full⟩ (E.N - pos) (by omega)) ?_
 rintro v w1 ⟨rfl, hb1, kp1⟩
 have hW := hW.setF hE hb1 kp1
 have kp := kp.F kp1
 clear hb1 kp1
 refine nt ?_
 refine wp_seq ?_
 refine sqr ?_
 refine L1 (mv (v := .iface _ _) rfl) ?_
 refine L1 (en_held rfl rfl) ?_
 refine nt ?_
 refine cond_t rfl ?_
 refine sqr ?_
 refine Mp rfl ?_
 refine L1 (mv (v := .iface _ _) rfl) ?_
 refine LC (cl1 has48 rfl rfl) (noEOF_any E _ hW.gl ex hex) ?_
 rintro v w1 ⟨rfl, rfl⟩
 refine Np rfl ?_
 refine L1 (fa95_14 rfl) ?_
 refine Lst62 (v := (UEOFv E)) rfl rfl rfl hW.F (by decide) ?_
 intro w1 hb1 kp1
 have hW := hW.setF hE hb1 kp1
 have kp := kp.F kp1
 clear hb1 kp1
 refine nt ?_
 refine wp_ret ?_
 refine then_r ?_
 refine ret0 rfl ?_
 exact ⟨_, rfl, rfl, _, hW, rfl, rfl, ((((Off.refl _ g).upd (by simp) _).upd (by simp) _).upd (by simp) _).upd (by simp) _, kp⟩
theorem cd_short_s (E : Env) (w : World) (g hs bs cs : Nat → Value) (pos wr rd n : Nat) (full : Bool) (ro : Int) (hE : E.Ok) (hW : Wd E w g hs bs cs pos) (hS : Stc E g) (hD : DD E g wr rd full) (hro : g 2 = .int .i64 ro) (hl : g 1052 = .int .i64 n) (hw : wr < 32768) (hn : n ≤ 65535) (hle : pos ≤ E.N) (hb : n < 32768 - wr) (hp : E.N < pos + n) :
  Ret 52 [fp E] w fun v w' => v = .tuple #[] ∧ ∃ g', Wd E w' g' (cpd E hs wr pos (E.N - pos)) bs cs E.N ∧ g' 1048 = UEOFv E ∧ g' 1038 = .int .i64 ((wr + (E.N - pos) : Nat) : Int) ∧ Off [2, 1038, 1048, 1052] g g' ∧ Kp E.L w w' := by
 have kp := Kp.refl E.L w
 have hN := hE.N47
 refine calls_fr (N := 83) Tryd.func52 rfl rfl (by simp [fp]) rfl ?_
 refine sqr ?_
 refine Mp rfl ?_
 refine Np rfl ?_
 refine L1 (fa95_9 rfl) ?_
 refine LC (cl1 has63 rfl rfl) (writeSlice_c E _ g wr rd full hW.F hD hw) ?_
 rintro v w1 ⟨rfl, rfl⟩
 have hW := hW.drew
 have kp := kp.drew
 refine L1 (asg (v := .slice _ _ _) rfl) ?_
 refine nt ?_
 refine wp_seq ?_
 refine sqr ?_
 refine Ms rfl ?_
 refine L1 (ln und22 rfl) ?_
 refine Mp rfl ?_
 refine Np rfl ?_
 refine L1 (fa95_18 rfl) ?_
 refine L1 (ld3 rfl (hW.F.cellv (by decide) hl)) ?_
 refine L1 (bi rfl rfl (bn_gtr (v := true) (decide_eq_true (by omega)))) ?_
 refine nt ?_
 refine cond_t rfl ?_
 refine reg_lit ?_
 refine Ms rfl ?_
 refine Mp rfl ?_
 refine Np rfl ?_
 refine L1 (fa95_18 rfl) ?_
 refine L1 (ld3 rfl (hW.F.cellv (by decide) hl)) ?_
 refine L1 (sl_h und22 sz5 rfl rfl rfl (by omega)) ?_
 refine L1 (asg (v := .slice _ _ _) rfl) ?_
 refine nt ?_
 refine sqr ?_
 refine Mp rfl ?_
 refine Np rfl ?_
 refine L1 (fa95_0 rfl) ?_
 refine L1 (ld80 rfl (hW.F.cellv (by decide) hS.r)) ?_
 refine Ms rfl ?_
 refine LC (cl2 has49 rfl rfl rfl) (rdf_short' E _ pos hE hW.gl hW.rd E.H wr n (32768 - wr) 32768 5 hs hW.H (fun e => hE.RH e.symm) (fun e => hE.SH e.symm) hE.bH (by omega) (by omega) (by omega) (by decide) (by omega)) ?_
 rintro v w1 ⟨ex, hex, rfl, hrd, hh, kp1⟩
 have hW := hW.setHR hE hh hrd kp1
 have kp := kp.trans (kp1.mono (by simp [Env.L]))
 clear kp1 hh hrd
 refine L1 (mv (v := .tuple _) rfl) ?_
 refine L1 (ext2_0 rfl) ?_
 refine L1 (ext2_1 rfl) ?_
 refine Ai rfl ?_
 refine L1 (asg (v := .iface _ _) rfl) ?_
 refine nt ?_
 refine sqr ?_
 refine Mp rfl ?_
 refine Np rfl ?_
 refine L1 (fa95_2 rfl) ?_
 refine L1 (ld2 rfl (hW.F.cellv (by decide) hro)) ?_
 refine Mi rfl ?_
 refine L1 (bi rfl rfl (bn_addw)) ?_
 refine Np rfl ?_
 refine L1 (fa95_2 rfl) ?_
 refine Lst2 (v := .int _ _) rfl rfl rfl hW.F (by decide) ?_
 intro w1 hb1 kp1
 have hW := hW.setF hE hb1 kp1
 have kp := kp.F kp1
 clear hb1 kp1
 refine nt ?_
 refine sqr ?_
 refine Mp rfl ?_
 refine Np rfl ?_
 refine L1 (fa95_18 rfl) ?_
 refine L1 (ld3 rfl (hW.F.cellv (by decide) hl)) ?_
 refine Mi rfl ?_
 refine L1 (bi rfl rfl (bn_sub (c := ((n - (E.N - pos) : Nat) : Int)) (by omega) (by omega) (by omega))) ?_
 refine Np rfl ?_
 refine L1 (fa95_18 rfl) ?_
 refine Lst3 (v := .int _ _) rfl rfl rfl hW.F (by decide) ?_
 intro w1 hb1 kp1
 have hW := hW.setF hE hb1 kp1
 have kp := kp.F kp1
 clear hb1 kp1
 refine nt ?_
 refine sqr ?_
 refine Mp rfl ?_
 refine Np rfl ?_
 refine L1 (fa95_9 rfl) ?_
 refine Mi rfl ?_
 refine LC (cl2 has64 rfl rfl rfl) (writeMark_c E _ _ wr rd full hW.F ⟨hD.hist, hD.wr, hD.rd, hD.full⟩ (E.N - pos) (by omega)) ?_
 rintro v w1 ⟨rfl, hb1, kp1⟩
 have hW := hW.setF hE hb1 kp1
 have kp := kp.F kp1
 clear hb1 kp1
 refine nt ?_
 refine wp_seq ?_
 refine sqr ?_
 refine L1 (mv (v := .iface _ _) rfl) ?_
 refine L1 (en_held rfl rfl) ?_
 refine nt ?_
 refine cond_t rfl ?_
 refine sqr ?_
 refine Mp rfl ?_
 refine L1 (mv (v := .iface _ _) rfl) ?_
 refine LC (cl1 has48 rfl rfl) (noEOF_any E _ hW.gl ex hex) ?_
 rintro v w1 ⟨rfl, rfl⟩
 refine Np rfl ?_
 refine L1 (fa95_14 rfl) ?_
 refine Lst62 (v := (UEOFv E)) rfl rfl rfl hW.F (by decide) ?_
 intro w1 hb1 kp1
 have hW := hW.setF hE hb1 kp1
 have kp := kp.F kp1
 clear hb1 kp1
 refine nt ?_
 refine wp_ret ?_
 refine then_r ?_
 refine ret0 rfl ?_
 exact ⟨_, rfl, rfl, _, hW, rfl, rfl, ((((Off.refl _ g).upd (by simp) _).upd (by simp) _).upd (by simp) _).upd (by simp) _, kp⟩
theorem Dw.push {E : Env} {g g' : Nat → Value} {n fl wr : Nat} {L : List Nat} (h : Dw E g n fl wr) (k : Nat) (h1 : g' 1038 = .int .i64 ((wr + k : Nat) : Int)) (hk : wr + k ≤ 32768) (o : Off L g g') (h0 : 1037 ∉ L ∧ 1039 ∉ L ∧ 1040 ∉ L) : Dw E g' (n + k) fl (wr + k) := by
 obtain ⟨q, rd, e1, e2, e3, e4, e5⟩ := h
 exact ⟨q, rd, by omega, by omega, by omega, e4, (o _ h0.1).trans e5.hist, h1, (o _ h0.2.1).trans e5.rd, (o _ h0.2.2).trans e5.full⟩
theorem cd_full (E : Env) (w : World) (g hs bs cs : Nat → Value) (pos wr rd n : Nat) (full : Bool) (ro : Int) (hE : E.Ok) (hW : Wd E w g hs bs cs pos) (hS : Stc E g) (hD : DD E g wr rd full) (hro : g 2 = .int .i64 ro) (hl : g 1052 = .int .i64 n) (hw : wr < 32768) (hn : n ≤ 65535) (hle : pos ≤ E.N) (hb : 32768 - wr ≤ n) (hp : pos + (32768 - wr) ≤ E.N) (no fl0 : Nat) (hDw : Dw E g no fl0 wr) :
  Ret 52 [fp E] w fun v w' => v = .tuple #[] ∧ ∃ g', Wd E w' g' (cpd E hs wr pos (32768 - wr)) bs cs (pos + (32768 - wr)) ∧ (∃ x, g' 2 = .int .i64 x) ∧ g' 1045 = fnv 52 ∧ g' 1052 = .int .i64 ((n - (32768 - wr) : Nat) : Int) ∧ Dw E g' (no + (32768 - wr)) (no + (32768 - wr)) (nx (wr + (32768 - wr))) ∧ TR E g' fl0 (no + (32768 - wr)) ∧ Off [2, 1052, 1038, 1039, 1040, 1045, 1049] g g' ∧ Kp E.L w w' := by
 have kp := Kp.refl E.L w
 have hN := hE.N47
 refine calls_fr (N := 83) Tryd.func52 rfl rfl (by simp [fp]) rfl ?_
 refine sqr ?_
 refine Mp rfl ?_
 refine Np rfl ?_
 refine L1 (fa95_9 rfl) ?_
 refine LC (cl1 has63 rfl rfl) (writeSlice_c E _ g wr rd full hW.F hD hw) ?_
 rintro v w1 ⟨rfl, rfl⟩
 have hW := hW.drew
 have kp := kp.drew
 refine L1 (asg (v := .slice _ _ _) rfl) ?_
 refine nt ?_
 refine wp_seq ?_
 refine sqr ?_
 refine Ms rfl ?_
 refine L1 (ln und22 rfl) ?_
 refine Mp rfl ?_
 refine Np rfl ?_
 refine L1 (fa95_18 rfl) ?_
 refine L1 (ld3 rfl (hW.F.cellv (by decide) hl)) ?_
 refine L1 (bi rfl rfl (bn_gtr (v := false) (decide_eq_false (by omega)))) ?_
 refine nt ?_
 refine cond_f rfl ?_
 refine skn ?_
 refine sqr ?_
 refine Mp rfl ?_
 refine Np rfl ?_
 refine L1 (fa95_0 rfl) ?_
 refine L1 (ld80 rfl (hW.F.cellv (by decide) hS.r)) ?_
 refine Ms rfl ?_
 refine LC (cl2 has49 rfl rfl rfl) (rdf_ok E _ pos hE hW.gl hW.rd E.H wr (32768 - wr) (32768 - wr) 32768 5 hs hW.H (fun e => hE.RH e.symm) (fun e => hE.SH e.symm) hE.bH (by omega) (by omega) (by omega) (by decide) (by omega)) ?_
 rintro v w1 ⟨rfl, hrd, hh, kp1⟩
 have hW := hW.setHR hE hh hrd kp1
 have kp := kp.trans (kp1.mono (by simp [Env.L]))
 clear kp1 hh hrd
 refine L1 (mv (v := .tuple _) rfl) ?_
 refine L1 (ext2_0 rfl) ?_
 refine L1 (ext2_1 rfl) ?_
 refine Ai rfl ?_
 refine L1 (asg (v := .nilIface) rfl) ?_
 refine nt ?_
 refine sqr ?_
 refine Mp rfl ?_
 refine Np rfl ?_
 refine L1 (fa95_2 rfl) ?_
 refine L1 (ld2 rfl (hW.F.cellv (by decide) hro)) ?_
 refine Mi rfl ?_
 refine L1 (bi rfl rfl (bn_addw)) ?_
 refine Np rfl ?_
 refine L1 (fa95_2 rfl) ?_
 refine Lst2 (v := .int _ _) rfl rfl rfl hW.F (by decide) ?_
 intro w1 hb1 kp1
 have hW := hW.setF hE hb1 kp1
 have kp := kp.F kp1
 clear hb1 kp1
 refine nt ?_
 refine sqr ?_
 refine Mp rfl ?_
 refine Np rfl ?_
 refine L1 (fa95_18 rfl) ?_
 refine L1 (ld3 rfl (hW.F.cellv (by decide) hl)) ?_
 refine Mi rfl ?_
 refine L1 (bi rfl rfl (bn_sub (c := ((n - (32768 - wr) : Nat) : Int)) (by omega) (by omega) (by omega))) ?_
 refine Np rfl ?_
 refine L1 (fa95_18 rfl) ?_
 refine Lst3 (v := .int _ _) rfl rfl rfl hW.F (by decide) ?_
 intro w1 hb1 kp1
 have hW := hW.setF hE hb1 kp1
 have kp := kp.F kp1
 clear hb1 kp1
 refine nt ?_
 refine sqr ?_
 refine Mp rfl ?_
 refine Np rfl ?_
 refine L1 (fa95_9 rfl) ?_
 refine Mi rfl ?_
 refine LC (cl2 has64 rfl rfl rfl) (writeMark_c E _ _ wr rd full hW.F ⟨hD.hist, hD.wr, hD.rd, hD.full⟩ (32768 - wr) (by omega)) ?_
 rintro v w1 ⟨rfl, hb1, kp1⟩
 have hW := hW.setF hE hb1 kp1
 have kp := kp.F kp1
 clear hb1 kp1
 refine nt ?_
 refine wp_seq ?_
 refine sqr ?_
 refine L1 (mv (v := .nilIface) rfl) ?_
 refine L1 (en_nil rfl rfl) ?_
 refine nt ?_
 refine cond_f rfl ?_
 refine skn ?_
 refine wp_seq ?_
 refine sqr ?_
 refine Mp rfl ?_
 refine Np rfl ?_
 refine L1 (fa95_9 rfl) ?_
 refine LC (cl1 has56 rfl rfl) (availWrite_c E _ _ (wr + (32768 - wr)) rd full hW.F ⟨hD.hist, rfl, hD.rd, hD.full⟩ (by omega)) ?_
 rintro v w1 ⟨rfl, rfl⟩
 have hW := hW.drew
 have kp := kp.drew
 refine L1 (bi rfl rfl (bn_eql (v := true) (decide_eq_true (by omega)))) ?_
 refine Mb rfl ?_
 refine Lskip (t := 64) (b := false) rfl (by decide) rfl ?_
 refine Lskip (t := 64) (b := false) rfl (by decide) rfl ?_
 refine Lskip (t := 64) (b := false) rfl (by decide) rfl ?_
 refine Lskip (t := 64) (b := false) rfl (by decide) rfl ?_
 refine Lskip (t := 64) (b := false) rfl (by decide) rfl ?_
 refine L1 (pk_t rfl rfl) ?_
 refine nt ?_
 refine cond_t rfl ?_
 refine sqr ?_
 refine Mp rfl ?_
 refine Mp rfl ?_
 refine Np rfl ?_
 refine L1 (fa95_9 rfl) ?_
 refine LC (cl1 has50 rfl rfl) (rf_c E _ _ (cpd E hs wr pos (32768 - wr)) bs cs (pos + (32768 - wr)) (no + (32768 - wr)) fl0 (wr + (32768 - wr)) hE hW (hDw.push _ rfl (by omega) ((((Off.refl [2, 1052, 1038] g).upd (by simp) _).upd (by simp) _).upd (by simp) _) (by decide))) ?_
 rintro v w1 ⟨hv, g1, hW, hD1, ho, kp1⟩
 have kp := kp.trans kp1
 refine Np rfl ?_
 refine L1 (fa95_15 rfl) ?_
 refine Lst22 (v := v) rfl rfl (by obtain ⟨_, _, _, rfl, _⟩ := hv; rfl) hW.F (by decide) ?_
 intro w1 hb1 kp1
 have hW := hW.setF hE hb1 kp1
 have kp := kp.F kp1
 refine nt ?_
 refine sqr ?_
 refine Mp rfl ?_
 refine Np rfl ?_
 refine L1 (fa95_11 rfl) ?_
 refine Lst92 (v := .func _ _ _) rfl rfl rfl hW.F (by decide) ?_
 intro w1 hb1 kp1
 have hW := hW.setF hE hb1 kp1
 have kp := kp.F kp1
 clear hb1 kp1
 refine nt ?_
 refine wp_ret ?_
 refine then_r ?_
 refine ret0 rfl ?_
 refine ⟨_, rfl, rfl, _, hW, ⟨_, (ho _ (by decide)).trans rfl⟩, rfl, ?_, hD1.off (((Off.refl [1045, 1049] g1).upd (by decide) _).upd (by decide) _) (by decide), hv, ?_, kp⟩
 ·exact ((ho _ (by decide)).trans rfl : g1 1052 = Value.int .i64 ((n - (32768 - wr) : Nat) : Int))
 ·exact ((((((Off.refl [2, 1052, 1038, 1039, 1040, 1045, 1049] g).upd (by decide) _).upd (by decide) _).upd (by decide) _).trans (ho.mono (by simp))).upd (by decide) _).upd (by decide) _
theorem cd_end_ok_more (E : Env) (w : World) (g hs bs cs : Nat → Value) (pos wr rd n : Nat) (full : Bool) (ro : Int) (hE : E.Ok) (hW : Wd E w g hs bs cs pos) (hS : Stc E g) (hD : DD E g wr rd full) (hro : g 2 = .int .i64 ro) (hl : g 1052 = .int .i64 n) (hw : wr < 32768) (hn : n ≤ 65535) (hle : pos ≤ E.N) (hb : n < 32768 - wr) (hp : pos + n ≤ E.N) (hz : 0 < n) (no fl0 : Nat) (hDw : Dw E g no fl0 wr) (hf : g 1047 = .bool false) :
  Ret 52 [fp E] w fun v w' => v = .tuple #[] ∧ ∃ g', Wd E w' g' (cpd E hs wr pos n) bs cs (pos + n) ∧ (∃ x, g' 2 = .int .i64 x) ∧ g' 1045 = fnv 35 ∧ g' 1052 = .int .i64 0 ∧ Dw E g' (no + n) fl0 (wr + n) ∧ Off [2, 1052, 1038, 1045] g g' ∧ Kp E.L w w' := by
 have kp := Kp.refl E.L w
 have hN := hE.N47
 refine calls_fr (N := 83) Tryd.func52 rfl rfl (by simp [fp]) rfl ?_
 refine sqr ?_
 refine Mp rfl ?_
 refine Np rfl ?_
 refine L1 (fa95_9 rfl) ?_
 refine LC (cl1 has63 rfl rfl) (writeSlice_c E _ g wr rd full hW.F hD hw) ?_
 rintro v w1 ⟨rfl, rfl⟩
 have hW := hW.drew
 have kp := kp.drew
 refine L1 (asg (v := .slice _ _ _) rfl) ?_
 refine nt ?_
 refine wp_seq ?_
 refine sqr ?_
 refine Ms rfl ?_
 refine L1 (ln und22 rfl) ?_
 refine Mp rfl ?_
 refine Np rfl ?_
 refine L1 (fa95_18 rfl) ?_
 refine L1 (ld3 rfl (hW.F.cellv (by decide) hl)) ?_
 refine L1 (bi rfl rfl (bn_gtr (v := true) (decide_eq_true (by omega)))) ?_
 refine nt ?_
 refine cond_t rfl ?_
 refine reg_lit ?_
 refine Ms rfl ?_
 refine Mp rfl ?_
 refine Np rfl ?_
 refine L1 (fa95_18 rfl) ?_
 refine L1 (ld3 rfl (hW.F.cellv (by decide) hl)) ?_
 refine L1 (sl_h und22 sz5 rfl rfl rfl (by omega)) ?_
 refine L1 (asg (v := .slice _ _ _) rfl) ?_
 refine nt ?_
 refine sqr ?_
 refine Mp rfl ?_
 refine Np rfl ?_
 refine L1 (fa95_0 rfl) ?_
 refine L1 (ld80 rfl (hW.F.cellv (by decide) hS.r)) ?_
 refine Ms rfl ?_
 refine LC (cl2 has49 rfl rfl rfl) (rdf_ok E _ pos hE hW.gl hW.rd E.H wr n (32768 - wr) 32768 5 hs hW.H (fun e => hE.RH e.symm) (fun e => hE.SH e.symm) hE.bH (by omega) (by omega) (by omega) (by decide) (by omega)) ?_
 rintro v w1 ⟨rfl, hrd, hh, kp1⟩
 have hW := hW.setHR hE hh hrd kp1
 have kp := kp.trans (kp1.mono (by simp [Env.L]))
 clear kp1 hh hrd
 refine L1 (mv (v := .tuple _) rfl) ?_
 refine L1 (ext2_0 rfl) ?_
 refine L1 (ext2_1 rfl) ?_
 refine Ai rfl ?_
 refine L1 (asg (v := .nilIface) rfl) ?_
 refine nt ?_
 refine sqr ?_
 refine Mp rfl ?_
 refine Np rfl ?_
 refine L1 (fa95_2 rfl) ?_
 refine L1 (ld2 rfl (hW.F.cellv (by decide) hro)) ?_
 refine Mi rfl ?_
 refine L1 (bi rfl rfl (bn_addw)) ?_
 refine Np rfl ?_
 refine L1 (fa95_2 rfl) ?_
 refine Lst2 (v := .int _ _) rfl rfl rfl hW.F (by decide) ?_
 intro w1 hb1 kp1
 have hW := hW.setF hE hb1 kp1
 have kp := kp.F kp1
 clear hb1 kp1
 refine nt ?_
 refine sqr ?_
 refine Mp rfl ?_
 refine Np rfl ?_
 refine L1 (fa95_18 rfl) ?_
 refine L1 (ld3 rfl (hW.F.cellv (by decide) hl)) ?_
 refine Mi rfl ?_
 refine L1 (bi rfl rfl (bn_sub (c := ((n - n : Nat) : Int)) (by omega) (by omega) (by omega))) ?_
 refine Np rfl ?_
 refine L1 (fa95_18 rfl) ?_
 refine Lst3 (v := .int _ _) rfl rfl rfl hW.F (by decide) ?_
 intro w1 hb1 kp1
 have hW := hW.setF hE hb1 kp1
 have kp := kp.F kp1
 clear hb1 kp1
 refine nt ?_
 refine sqr ?_
 refine Mp rfl ?_
 refine Np rfl ?_
 refine L1 (fa95_9 rfl) ?_
 refine Mi rfl ?_
 refine LC (cl2 has64 rfl rfl rfl) (writeMark_c E _ _ wr rd full hW.F ⟨hD.hist, hD.wr, hD.rd, hD.full⟩ n (by omega)) ?_
 rintro v w1 ⟨rfl, hb1, kp1⟩
 have hW := hW.setF hE hb1 kp1
 have kp := kp.F kp1
 clear hb1 kp1
 refine nt ?_
 refine wp_seq ?_
 refine sqr ?_
 refine L1 (mv (v := .nilIface) rfl) ?_
 refine L1 (en_nil rfl rfl) ?_
 refine nt ?_
 refine cond_f rfl ?_
 refine skn ?_
 refine wp_seq ?_
 refine sqr ?_
 refine Mp rfl ?_
 refine Np rfl ?_
 refine L1 (fa95_9 rfl) ?_
 refine LC (cl1 has56 rfl rfl) (availWrite_c E _ _ (wr + n) rd full hW.F ⟨hD.hist, rfl, hD.rd, hD.full⟩ (by omega)) ?_
 rintro v w1 ⟨rfl, rfl⟩
 have hW := hW.drew
 have kp := kp.drew
 refine L1 (bi rfl rfl (bn_eql (v := false) (decide_eq_false (by omega)))) ?_
 refine Mb rfl ?_
 refine L1g (t := 64) (b := false) rfl (by decide) rfl (mv (v := .pointer _) rfl) ?_
 refine L1g (t := 64) (b := false) rfl (by decide) rfl (nilP rfl) ?_
 refine L1g (t := 64) (b := false) rfl (by decide) rfl (fa95_18 rfl) ?_
 refine L1g (t := 64) (b := false) rfl (by decide) rfl (ld3 rfl (hW.F.cellv (v := .int _ _) (by decide) rfl)) ?_
 refine L1g (t := 64) (b := false) rfl (by decide) rfl (bi rfl rfl (bn_gtr (v := false) (decide_eq_false (by omega)))) ?_
 refine L1 (pk_f rfl rfl) ?_
 refine nt ?_
 refine cond_f rfl ?_
 refine skn ?_
 refine reg_lit ?_
 refine Mp rfl ?_
 refine LC (cl1 has51 rfl rfl) (finish_more E _ _ (cpd E hs wr pos n) bs cs (pos + n) hE hW hf) ?_
 rintro v w1 ⟨rfl, g1, hW, h45, ho, kp1⟩
 have kp := kp.trans kp1
 refine wpList_nil ?_
 refine end0 rfl ?_
 refine ⟨_, rfl, rfl, g1, hW, ⟨_, (ho _ (by decide)).trans rfl⟩, h45, ?_, ?_, ?_, kp⟩
 ·exact ((ho _ (by decide)).trans rfl : g1 1052 = Value.int .i64 ((n - n : Nat) : Int)).trans (by rw [show n - n = 0 by omega]; rfl)
 ·exact (hDw.push n rfl (by omega) ((((Off.refl [2, 1052, 1038] g).upd (by simp) _).upd (by simp) _).upd (by simp) _) (by decide)).off ho (by decide)
 ·exact (((((Off.refl [2, 1052, 1038] g).upd (by simp) _).upd (by simp) _).upd (by simp) _).mono (by decide)).trans (ho.mono (by decide))
theorem cd_end_ok_last (E : Env) (w : World) (g hs bs cs : Nat → Value) (pos wr rd n : Nat) (full : Bool) (ro : Int) (hE : E.Ok) (hW : Wd E w g hs bs cs pos) (hS : Stc E g) (hD : DD E g wr rd full) (hro : g 2 = .int .i64 ro) (hl : g 1052 = .int .i64 n) (hw : wr < 32768) (hn : n ≤ 65535) (hle : pos ≤ E.N) (hb : n < 32768 - wr) (hp : pos + n ≤ E.N) (hz : 0 < n) (no fl0 : Nat) (hDw : Dw E g no fl0 wr) (hf : g 1047 = .bool true) (hT : TR E g fl0 fl0) :
  Ret 52 [fp E] w fun v w' => v = .tuple #[] ∧ ∃ g', Wd E w' g' (cpd E hs wr pos n) bs cs (pos + n) ∧ g' 1048 = EOFv E ∧ Dw E g' (no + n) (no + n) (nx (wr + n)) ∧ TR E g' fl0 (no + n) ∧ Off [2, 1052, 1038, 1039, 1040, 1045, 1048, 1049] g g' ∧ Kp E.L w w' := by
 have kp := Kp.refl E.L w
 have hN := hE.N47
 refine calls_fr (N := 83) Tryd.func52 rfl rfl (by simp [fp]) rfl ?_
 refine sqr ?_
 refine Mp rfl ?_
 refine Np rfl ?_
 refine L1 (fa95_9 rfl) ?_
 refine LC (cl1 has63 rfl rfl) (writeSlice_c E _ g wr rd full hW.F hD hw) ?_
 rintro v w1 ⟨rfl, rfl⟩
 have hW := hW.drew
 have kp := kp.drew
 refine L1 (asg (v := .slice _ _ _) rfl) ?_
 refine nt ?_
 refine wp_seq ?_
 refine sqr ?_
 refine Ms rfl ?_
 refine L1 (ln und22 rfl) ?_
 refine Mp rfl ?_
 refine Np rfl ?_
 refine L1 (fa95_18 rfl) ?_
 refine L1 (ld3 rfl (hW.F.cellv (by decide) hl)) ?_
 refine L1 (bi rfl rfl (bn_gtr (v := true) (decide_eq_true (by omega)))) ?_
 refine nt ?_
 refine cond_t rfl ?_
 refine reg_lit ?_
 refine Ms rfl ?_
 refine Mp rfl ?_
 refine Np rfl ?_
 refine L1 (fa95_18 rfl) ?_
 refine L1 (ld3 rfl (hW.F.cellv (by decide) hl)) ?_
 refine L1 (sl_h und22 sz5 rfl rfl rfl (by omega)) ?_
 refine L1 (asg (v := .slice _ _ _) rfl) ?_
 refine nt ?_
 refine sqr ?_
 refine Mp rfl ?_
 refine Np rfl ?_
 refine L1 (fa95_0 rfl) ?_
 refine L1 (ld80 rfl (hW.F.cellv (by decide) hS.r)) ?_
 refine Ms rfl ?_
 refine LC (cl2 has49 rfl rfl rfl) (rdf_ok E _ pos hE hW.gl hW.rd E.H wr n (32768 - wr) 32768 5 hs hW.H (fun e => hE.RH e.symm) (fun e => hE.SH e.symm) hE.bH (by omega) (by omega) (by omega) (by decide) (by omega)) ?_
 rintro v w1 ⟨rfl, hrd, hh, kp1⟩
 have hW := hW.setHR hE hh hrd kp1
 have kp := kp.trans (kp1.mono (by simp [Env.L]))
 clear kp1 hh hrd
 refine L1 (mv (v := .tuple _) rfl) ?_
 refine L1 (ext2_0 rfl) ?_
 refine L1 (ext2_1 rfl) ?_
 refine Ai rfl ?_
 refine L1 (asg (v := .nilIface) rfl) ?_
 refine nt ?_
 refine sqr ?_
 refine Mp rfl ?_
 refine Np rfl ?_
 refine L1 (fa95_2 rfl) ?_
 refine L1 (ld2 rfl (hW.F.cellv (by decide) hro)) ?_
 refine Mi rfl ?_
 refine L1 (bi rfl rfl (bn_addw)) ?_
 refine Np rfl ?_
 refine L1 (fa95_2 rfl) ?_
 refine Lst2 (v := .int _ _) rfl rfl rfl hW.F (by decide) ?_
 intro w1 hb1 kp1
 have hW := hW.setF hE hb1 kp1
 have kp := kp.F kp1
 clear hb1 kp1
 refine nt ?_
 refine sqr ?_
 refine Mp rfl ?_
 refine Np rfl ?_
 refine L1 (fa95_18 rfl) ?_
 refine L1 (ld3 rfl (hW.F.cellv (by decide) hl)) ?_
 refine Mi rfl ?_
 refine L1 (bi rfl rfl (bn_sub (c := ((n - n : Nat) : Int)) (by omega) (by omega) (by omega))) ?_
 refine Np rfl ?_
 refine L1 (fa95_18 rfl) ?_
 refine Lst3 (v := .int _ _) rfl rfl rfl hW.F (by decide) ?_
 intro w1 hb1 kp1
 have hW := hW.setF hE hb1 kp1
 have kp := kp.F kp1
 clear hb1 kp1
 refine nt ?_
 refine sqr ?_
 refine Mp rfl ?_
 refine Np rfl ?_
 refine L1 (fa95_9 rfl) ?_
 refine Mi rfl ?_
 refine LC (cl2 has64 rfl rfl rfl) (writeMark_c E _ _ wr rd full hW.F ⟨hD.hist, hD.wr, hD.rd, hD.full⟩ n (by omega)) ?_
 rintro v w1 ⟨rfl, hb1, kp1⟩
 have hW := hW.setF hE hb1 kp1
 have kp := kp.F kp1
 clear hb1 kp1
 refine nt ?_
 refine wp_seq ?_
 refine sqr ?_
 refine L1 (mv (v := .nilIface) rfl) ?_
 refine L1 (en_nil rfl rfl) ?_
 refine nt ?_
 refine cond_f rfl ?_
 refine skn ?_
 refine wp_seq ?_
 refine sqr ?_
 refine Mp rfl ?_
 refine Np rfl ?_
 refine L1 (fa95_9 rfl) ?_
 refine LC (cl1 has56 rfl rfl) (availWrite_c E _ _ (wr + n) rd full hW.F ⟨hD.hist, rfl, hD.rd, hD.full⟩ (by omega)) ?_
 rintro v w1 ⟨rfl, rfl⟩
 have hW := hW.drew
 have kp := kp.drew
 refine L1 (bi rfl rfl (bn_eql (v := false) (decide_eq_false (by omega)))) ?_
 refine Mb rfl ?_
 refine L1g (t := 64) (b := false) rfl (by decide) rfl (mv (v := .pointer _) rfl) ?_
 refine L1g (t := 64) (b := false) rfl (by decide) rfl (nilP rfl) ?_
 refine L1g (t := 64) (b := false) rfl (by decide) rfl (fa95_18 rfl) ?_
 refine L1g (t := 64) (b := false) rfl (by decide) rfl (ld3 rfl (hW.F.cellv (v := .int _ _) (by decide) rfl)) ?_
 refine L1g (t := 64) (b := false) rfl (by decide) rfl (bi rfl rfl (bn_gtr (v := false) (decide_eq_false (by omega)))) ?_
 refine L1 (pk_f rfl rfl) ?_
 refine nt ?_
 refine cond_f rfl ?_
 refine skn ?_
 refine reg_lit ?_
 refine Mp rfl ?_
 refine LC (cl1 has51 rfl rfl) (finish_last E _ _ (cpd E hs wr pos n) bs cs (pos + n) hE hW hf (no + n) fl0 (wr + n) (by omega) (hDw.push n rfl (by omega) ((((Off.refl [2, 1052, 1038] g).upd (by simp) _).upd (by simp) _).upd (by simp) _) (by decide)) (hT.off ((((Off.refl [2, 1052, 1038] g).upd (by simp) _).upd (by simp) _).upd (by simp) _) (by decide))) ?_
 rintro v w1 ⟨rfl, g1, hW, h45, h48, hD1, hT1, ho, kp1⟩
 have kp := kp.trans kp1
 refine wpList_nil ?_
 refine end0 rfl ?_
 refine ⟨_, rfl, rfl, g1, hW, h48, hD1, hT1, ?_, kp⟩
 exact (((((Off.refl [2, 1052, 1038] g).upd (by simp) _).upd (by simp) _).upd (by simp) _).mono (by decide)).trans (ho.mono (by decide))
theorem cd_end_zero_more (E : Env) (w : World) (g hs bs cs : Nat → Value) (pos wr rd n : Nat) (full : Bool) (ro : Int) (hE : E.Ok) (hW : Wd E w g hs bs cs pos) (hS : Stc E g) (hD : DD E g wr rd full) (hro : g 2 = .int .i64 ro) (hl : g 1052 = .int .i64 n) (hw : wr < 32768) (hn : n ≤ 65535) (hle : pos ≤ E.N) (hb : n < 32768 - wr) (hp : pos + n ≤ E.N) (hz : n = 0) (no fl0 : Nat) (hDw : Dw E g no fl0 wr) (hf : g 1047 = .bool false) :
  Ret 52 [fp E] w fun v w' => v = .tuple #[] ∧ ∃ g', Wd E w' g' hs bs cs (pos + 0) ∧ (∃ x, g' 2 = .int .i64 x) ∧ g' 1045 = fnv 35 ∧ g' 1052 = .int .i64 0 ∧ Dw E g' (no + 0) fl0 (wr + 0) ∧ Off [2, 1052, 1038, 1045] g g' ∧ Kp E.L w w' := by
 subst hz
 have kp := Kp.refl E.L w
 have hN := hE.N47
 refine calls_fr (N := 83) Tryd.func52 rfl rfl (by simp [fp]) rfl ?_
 refine sqr ?_
 refine Mp rfl ?_
 refine Np rfl ?_
 refine L1 (fa95_9 rfl) ?_
 refine LC (cl1 has63 rfl rfl) (writeSlice_c E _ g wr rd full hW.F hD hw) ?_
 rintro v w1 ⟨rfl, rfl⟩
 have hW := hW.drew
 have kp := kp.drew
 refine L1 (asg (v := .slice _ _ _) rfl) ?_
 refine nt ?_
 refine wp_seq ?_
 refine sqr ?_
 refine Ms rfl ?_
 refine L1 (ln und22 rfl) ?_
 refine Mp rfl ?_
 refine Np rfl ?_
 refine L1 (fa95_18 rfl) ?_
 refine L1 (ld3 rfl (hW.F.cellv (by decide) hl)) ?_
 refine L1 (bi rfl rfl (bn_gtr (v := true) (decide_eq_true (by omega)))) ?_
 refine nt ?_
 refine cond_t rfl ?_
 refine reg_lit ?_
 refine Ms rfl ?_
 refine Mp rfl ?_
 refine Np rfl ?_
 refine L1 (fa95_18 rfl) ?_
 refine L1 (ld3 rfl (hW.F.cellv (by decide) hl)) ?_
 refine L1 (sl_h und22 sz5 rfl rfl rfl (by omega)) ?_
 refine L1 (asg (v := .slice _ _ _) rfl) ?_
 refine nt ?_
 refine sqr ?_
 refine Mp rfl ?_
 refine Np rfl ?_
 refine L1 (fa95_0 rfl) ?_
 refine L1 (ld80 rfl (hW.F.cellv (by decide) hS.r)) ?_
 refine Ms rfl ?_
 refine LC (cl2 has49 rfl rfl rfl) (rdf_zero _ _ _ _) ?_
 rintro v w1 ⟨rfl, rfl⟩
 refine L1 (mv (v := .tuple _) rfl) ?_
 refine L1 (ext2_0 rfl) ?_
 refine L1 (ext2_1 rfl) ?_
 refine Ai rfl ?_
 refine L1 (asg (v := .nilIface) rfl) ?_
 refine nt ?_
 refine sqr ?_
 refine Mp rfl ?_
 refine Np rfl ?_
 refine L1 (fa95_2 rfl) ?_
 refine L1 (ld2 rfl (hW.F.cellv (by decide) hro)) ?_
 refine Mi rfl ?_
 refine L1 (bi rfl rfl (bn_addw)) ?_
 refine Np rfl ?_
 refine L1 (fa95_2 rfl) ?_
 refine Lst2 (v := .int _ _) rfl rfl rfl hW.F (by decide) ?_
 intro w1 hb1 kp1
 have hW := hW.setF hE hb1 kp1
 have kp := kp.F kp1
 clear hb1 kp1
 refine nt ?_
 refine sqr ?_
 refine Mp rfl ?_
 refine Np rfl ?_
 refine L1 (fa95_18 rfl) ?_
 refine L1 (ld3 rfl (hW.F.cellv (by decide) hl)) ?_
 refine Mi rfl ?_
 refine L1 (bi rfl rfl (bn_sub (c := ((0 - 0 : Nat) : Int)) (by omega) (by omega) (by omega))) ?_
 refine Np rfl ?_
 refine L1 (fa95_18 rfl) ?_
 refine Lst3 (v := .int _ _) rfl rfl rfl hW.F (by decide) ?_
 intro w1 hb1 kp1
 have hW := hW.setF hE hb1 kp1
 have kp := kp.F kp1
 clear hb1 kp1
 refine nt ?_
 refine sqr ?_
 refine Mp rfl ?_
 refine Np rfl ?_
 refine L1 (fa95_9 rfl) ?_
 refine Mi rfl ?_
 refine LC (cl2 has64 rfl rfl rfl) (writeMark_c E _ _ wr rd full hW.F ⟨hD.hist, hD.wr, hD.rd, hD.full⟩ 0 (by omega)) ?_
 rintro v w1 ⟨rfl, hb1, kp1⟩
 have hW := hW.setF hE hb1 kp1
 have kp := kp.F kp1
 clear hb1 kp1
 refine nt ?_
 refine wp_seq ?_
 refine sqr ?_
 refine L1 (mv (v := .nilIface) rfl) ?_
 refine L1 (en_nil rfl rfl) ?_
 refine nt ?_
 refine cond_f rfl ?_
 refine skn ?_
 refine wp_seq ?_
 refine sqr ?_
 refine Mp rfl ?_
 refine Np rfl ?_
 refine L1 (fa95_9 rfl) ?_
 refine LC (cl1 has56 rfl rfl) (availWrite_c E _ _ (wr + 0) rd full hW.F ⟨hD.hist, rfl, hD.rd, hD.full⟩ (by omega)) ?_
 rintro v w1 ⟨rfl, rfl⟩
 have hW := hW.drew
 have kp := kp.drew
 refine L1 (bi rfl rfl (bn_eql (v := false) (decide_eq_false (by omega)))) ?_
 refine Mb rfl ?_
 refine L1g (t := 64) (b := false) rfl (by decide) rfl (mv (v := .pointer _) rfl) ?_
 refine L1g (t := 64) (b := false) rfl (by decide) rfl (nilP rfl) ?_
 refine L1g (t := 64) (b := false) rfl (by decide) rfl (fa95_18 rfl) ?_
 refine L1g (t := 64) (b := false) rfl (by decide) rfl (ld3 rfl (hW.F.cellv (v := .int _ _) (by decide) rfl)) ?_
 refine L1g (t := 64) (b := false) rfl (by decide) rfl (bi rfl rfl (bn_gtr (v := false) (decide_eq_false (by omega)))) ?_
 refine L1 (pk_f rfl rfl) ?_
 refine nt ?_
 refine cond_f rfl ?_
 refine skn ?_
 refine reg_lit ?_
 refine Mp rfl ?_
 refine LC (cl1 has51 rfl rfl) (finish_more E _ _ hs bs cs pos hE hW hf) ?_
 rintro v w1 ⟨rfl, g1, hW, h45, ho, kp1⟩
 have kp := kp.trans kp1
 refine wpList_nil ?_
 refine end0 rfl ?_
 refine ⟨_, rfl, rfl, g1, hW, ⟨_, (ho _ (by decide)).trans rfl⟩, h45, ?_, ?_, ?_, kp⟩
 ·exact ((ho _ (by decide)).trans rfl : g1 1052 = Value.int .i64 ((0 - 0 : Nat) : Int)).trans (by rw [show 0 - 0 = 0 by omega]; rfl)
 ·exact (hDw.push 0 rfl (by omega) ((((Off.refl [2, 1052, 1038] g).upd (by simp) _).upd (by simp) _).upd (by simp) _) (by decide)).off ho (by decide)
 ·exact (((((Off.refl [2, 1052, 1038] g).upd (by simp) _).upd (by simp) _).upd (by simp) _).mono (by decide)).trans (ho.mono (by decide))
theorem cd_end_zero_last (E : Env) (w : World) (g hs bs cs : Nat → Value) (pos wr rd n : Nat) (full : Bool) (ro : Int) (hE : E.Ok) (hW : Wd E w g hs bs cs pos) (hS : Stc E g) (hD : DD E g wr rd full) (hro : g 2 = .int .i64 ro) (hl : g 1052 = .int .i64 n) (hw : wr < 32768) (hn : n ≤ 65535) (hle : pos ≤ E.N) (hb : n < 32768 - wr) (hp : pos + n ≤ E.N) (hz : n = 0) (no fl0 : Nat) (hDw : Dw E g no fl0 wr) (hf : g 1047 = .bool true) (hT : TR E g fl0 fl0) :
  Ret 52 [fp E] w fun v w' => v = .tuple #[] ∧ ∃ g', Wd E w' g' hs bs cs (pos + 0) ∧ g' 1048 = EOFv E ∧ Dw E g' (no + 0) (no + 0) (nx (wr + 0)) ∧ TR E g' fl0 (no + 0) ∧ Off [2, 1052, 1038, 1039, 1040, 1045, 1048, 1049] g g' ∧ Kp E.L w w' := by
 subst hz
 have kp := Kp.refl E.L w
 have hN := hE.N47
 refine calls_fr (N := 83) Tryd.func52 rfl rfl (by simp [fp]) rfl ?_
 refine sqr ?_
 refine Mp rfl ?_
 refine Np rfl ?_
 refine L1 (fa95_9 rfl) ?_
 refine LC (cl1 has63 rfl rfl) (writeSlice_c E _ g wr rd full hW.F hD hw) ?_
 rintro v w1 ⟨rfl, rfl⟩
 have hW := hW.drew
 have kp := kp.drew
 refine L1 (asg (v := .slice _ _ _) rfl) ?_
 refine nt ?_
 refine wp_seq ?_
 refine sqr ?_
 refine Ms rfl ?_
 refine L1 (ln und22 rfl) ?_
 refine Mp rfl ?_
 refine Np rfl ?_
 refine L1 (fa95_18 rfl) ?_
 refine L1 (ld3 rfl (hW.F.cellv (by decide) hl)) ?_
 refine L1 (bi rfl rfl (bn_gtr (v := true) (decide_eq_true (by omega)))) ?_
 refine nt ?_
 refine cond_t rfl ?_
 refine reg_lit ?_
 refine Ms rfl ?_
 refine Mp rfl ?_
 refine Np rfl ?_
 refine L1 (fa95_18 rfl) ?_
 refine L1 (ld3 rfl (hW.F.cellv (by decide) hl)) ?_
 refine L1 (sl_h und22 sz5 rfl rfl rfl (by omega)) ?_
 refine L1 (asg (v := .slice _ _ _) rfl) ?_
 refine nt ?_
 refine sqr ?_
 refine Mp rfl ?_
 refine Np rfl ?_
 refine L1 (fa95_0 rfl) ?_
 refine L1 (ld80 rfl (hW.F.cellv (by decide) hS.r)) ?_
 refine Ms rfl ?_
 refine LC (cl2 has49 rfl rfl rfl) (rdf_zero _ _ _ _) ?_
 rintro v w1 ⟨rfl, rfl⟩
 refine L1 (mv (v := .tuple _) rfl) ?_
 refine L1 (ext2_0 rfl) ?_
 refine L1 (ext2_1 rfl) ?_
 refine Ai rfl ?_
 refine L1 (asg (v := .nilIface) rfl) ?_
 refine nt ?_
 refine sqr ?_
 refine Mp rfl ?_
 refine Np rfl ?_
 refine L1 (fa95_2 rfl) ?_
 refine L1 (ld2 rfl (hW.F.cellv (by decide) hro)) ?_
 refine Mi rfl ?_
 refine L1 (bi rfl rfl (bn_addw)) ?_
 refine Np rfl ?_
 refine L1 (fa95_2 rfl) ?_
 refine Lst2 (v := .int _ _) rfl rfl rfl hW.F (by decide) ?_
 intro w1 hb1 kp1
 have hW := hW.setF hE hb1 kp1
 have kp := kp.F kp1
 clear hb1 kp1
 refine nt ?_
 refine sqr ?_
 refine Mp rfl ?_
 refine Np rfl ?_
 refine L1 (fa95_18 rfl) ?_
 refine L1 (ld3 rfl (hW.F.cellv (by decide) hl)) ?_
 refine Mi rfl ?_
 refine L1 (bi rfl rfl (bn_sub (c := ((0 - 0 : Nat) : Int)) (by omega) (by omega) (by omega))) ?_
 refine Np rfl ?_
 refine L1 (fa95_18 rfl) ?_
 refine Lst3 (v := .int _ _) rfl rfl rfl hW.F (by decide) ?_
 intro w1 hb1 kp1
 have hW := hW.setF hE hb1 kp1
 have kp := kp.F kp1
 clear hb1 kp1
 refine nt ?_
 refine sqr ?_
 refine Mp rfl ?_
 refine Np rfl ?_
 refine L1 (fa95_9 rfl) ?_
 refine Mi rfl ?_
 refine LC (cl2 has64 rfl rfl rfl) (writeMark_c E _ _ wr rd full hW.F ⟨hD.hist, hD.wr, hD.rd, hD.full⟩ 0 (by omega)) ?_
 rintro v w1 ⟨rfl, hb1, kp1⟩
 have hW := hW.setF hE hb1 kp1
 have kp := kp.F kp1
 clear hb1 kp1
 refine nt ?_
 refine wp_seq ?_
 refine sqr ?_
 refine L1 (mv (v := .nilIface) rfl) ?_
 refine L1 (en_nil rfl rfl) ?_
 refine nt ?_
 refine cond_f rfl ?_
 refine skn ?_
 refine wp_seq ?_
 refine sqr ?_
 refine Mp rfl ?_
 refine Np rfl ?_
 refine L1 (fa95_9 rfl) ?_
 refine LC (cl1 has56 rfl rfl) (availWrite_c E _ _ (wr + 0) rd full hW.F ⟨hD.hist, rfl, hD.rd, hD.full⟩ (by omega)) ?_
 rintro v w1 ⟨rfl, rfl⟩
 have hW := hW.drew
 have kp := kp.drew
 refine L1 (bi rfl rfl (bn_eql (v := false) (decide_eq_false (by omega)))) ?_
 refine Mb rfl ?_
 refine L1g (t := 64) (b := false) rfl (by decide) rfl (mv (v := .pointer _) rfl) ?_
 refine L1g (t := 64) (b := false) rfl (by decide) rfl (nilP rfl) ?_
 refine L1g (t := 64) (b := false) rfl (by decide) rfl (fa95_18 rfl) ?_
 refine L1g (t := 64) (b := false) rfl (by decide) rfl (ld3 rfl (hW.F.cellv (v := .int _ _) (by decide) rfl)) ?_
 refine L1g (t := 64) (b := false) rfl (by decide) rfl (bi rfl rfl (bn_gtr (v := false) (decide_eq_false (by omega)))) ?_
 refine L1 (pk_f rfl rfl) ?_
 refine nt ?_
 refine cond_f rfl ?_
 refine skn ?_
 refine reg_lit ?_
 refine Mp rfl ?_
 refine LC (cl1 has51 rfl rfl) (finish_last E _ _ hs bs cs pos hE hW hf (no + 0) fl0 (wr + 0) (by omega) (hDw.push 0 rfl (by omega) ((((Off.refl [2, 1052, 1038] g).upd (by simp) _).upd (by simp) _).upd (by simp) _) (by decide)) (hT.off ((((Off.refl [2, 1052, 1038] g).upd (by simp) _).upd (by simp) _).upd (by simp) _) (by decide))) ?_
 rintro v w1 ⟨rfl, g1, hW, h45, h48, hD1, hT1, ho, kp1⟩
 have kp := kp.trans kp1
 refine wpList_nil ?_
 refine end0 rfl ?_
 refine ⟨_, rfl, rfl, g1, hW, h48, hD1, hT1, ?_, kp⟩
 exact (((((Off.refl [2, 1052, 1038] g).upd (by simp) _).upd (by simp) _).upd (by simp) _).mono (by decide)).trans (ho.mono (by decide))
end Go.Proofs.YtejeloeaklpinaaDoor
namespace Go.Proofs.YtejeloeaklpinaaDoor
theorem HZ.offs {g g' : Nat → Value} {L : List Nat} (h : HZ g 5 ∧ HZ g 520) (o : Off L g g') (hL : ∀ j, j ∈ L → j < 5 ∨ 1035 ≤ j) : HZ g' 5 ∧ HZ g' 520 :=
 ⟨h.1.keep fun j _ _ => o j (fun hm => by have := hL j hm; omega), h.2.keep fun j _ _ => o j (fun hm => by have := hL j hm; omega)⟩
theorem Rd.le {E : Env} {w : World} {pos : Nat} (h : Rd E w pos) : pos ≤ E.N := by
 obtain ⟨_, _, _, _, _, _, _, h, _⟩ := h; exact h
theorem avail_eq (out : List Nat) : avail out = 32768 - out.length % 32768 := rfl
theorem Bt.zero {E : Env} {g : Nat → Value} {pos : Nat} (h2 : ∃ n, g 2 = .int .i64 n) (h3 : g 3 = .int .u32 0) (h4 : g 4 = .int .u64 0) : Bt E g (8 * pos) pos :=
 ⟨h2, by rw [h3, Nat.sub_self, bv_zero]; rfl, by rw [h4, Nat.sub_self]; rfl, Nat.le_refl _, by omega⟩
/-- copyData. -/
theorem copyData_c (E : Env) (w : World) (a : A) (n : Nat) (hE : E.Ok) (hR : RepI E w a) (hmd : a.md = .data n) (hef : a.e = a.fl) (herr : a.err = 0) :
  Ret 52 [fp E] w fun v w' => v = .tuple #[] ∧ Rep E w' (mData E.S' a n).1 ∧ Kp E.L w w' := by
 obtain ⟨g, hs, bs, cs, hC, hL⟩ := hR
 have hmd' := hL.md
 rw [hmd] at hmd'
 obtain ⟨hSS, hl, hn, h3, h4⟩ := hmd'
 obtain ⟨ro, hro⟩ := hL.B.ro
 have hle := hC.W.rd.le
 have hSN : E.S'.N = E.N := rfl
 have hwr : a.out.length % 32768 < 32768 := Nat.mod_lt _ (by decide)
 have hD := hC.D
 obtain ⟨q, rd, e1, e2, e3, e4, hDD⟩ := hC.D
 have hT := hC.T
 rw [hef] at hT
 generalize hwre : a.out.length % 32768 = wr at *
 have hav : avail a.out = 32768 - wr := by rw [avail_eq, hwre]
 have hlen : ∀ k, (a.out ++ bytesAt E.S' a.pos k).length = a.out.length + k := fun k => by rw [List.length_append, bytesAt_length]
 by_cases hsh : E.N < a.pos + min n (32768 - wr)
 ·skip
  have hmin : min n (32768 - wr) ≤ 32768 - wr := Nat.min_le_right _ _
  have hmin2 : min n (32768 - wr) ≤ n := Nat.min_le_left _ _
  have key : Ret 52 [fp E] w fun v w' => v = .tuple #[] ∧ ∃ g', Wd E w' g' (cpd E hs wr a.pos (E.N - a.pos)) bs cs E.N ∧ g' 1048 = UEOFv E ∧ g' 1038 = .int .i64 ((wr + (E.N - a.pos) : Nat) : Int) ∧ Off [2, 1038, 1048, 1052] g g' ∧ Kp E.L w w' := by
   by_cases hb : 32768 - wr ≤ n
   ·exact cd_short_b E w g hs bs cs a.pos wr rd n _ ro hE hC.W hC.S hDD hro hl hwr hn hle hb (by omega)
   ·exact cd_short_s E w g hs bs cs a.pos wr rd n _ ro hE hC.W hC.S hDD hro hl hwr hn hle (by omega) (by omega)
  refine key.mono ?_
  rintro e w' ⟨v, rfl, rfl, g', hW, h48, h38, ho, kp⟩
  refine ⟨_, rfl, rfl, ?_, kp⟩
  have hm : (mData E.S' a n).1 = { a with out := a.out ++ bytesAt E.S' a.pos (E.N - a.pos) }.short E.S' := by
   simp only [mData, hav, hSN]
   rw [if_pos hsh]
  rw [hm]
  have hlast : (a.out ++ bytesAt E.S' a.pos (E.N - a.pos)).length % 32768 = wr + (E.N - a.pos) := by rw [hlen]; omega
  refine ⟨g', _, bs, cs, ⟨hW, hC.S.off ho (by decide), ?_, ?_, hC.T.off ho (by decide), HZ.offs hC.Z ho (by decide)⟩, .inr (.inr (.inl ⟨rfl, h48⟩)), fun h => by cases h⟩
  ·exact win_data hE hC.V (by omega) (by omega) (by omega)
  ·show Dw E g' (a.out ++ bytesAt E.S' a.pos (E.N - a.pos)).length a.fl ((a.out ++ bytesAt E.S' a.pos (E.N - a.pos)).length % 32768)
   rw [hlast, hlen]
   exact hD.push _ h38 (by omega) ho (by decide)
 ·by_cases hb : 32768 - wr ≤ n
  ·skip
   have hmin : min n (32768 - wr) = 32768 - wr := Nat.min_eq_right hb
   rw [hmin] at hsh
   refine (cd_full E w g hs bs cs a.pos wr rd n _ ro hE hC.W hC.S hDD hro hl hwr hn hle hb (by omega) a.out.length a.fl hD).mono ?_
   rintro e w' ⟨v, rfl, rfl, g', hW, h2', h45, h52, hD', hT', ho, kp⟩
   refine ⟨_, rfl, rfl, ?_, kp⟩
   have hm : (mData E.S' a n).1 = { a with p := 8 * (a.pos + (32768 - wr)), pos := a.pos + (32768 - wr), out := a.out ++ bytesAt E.S' a.pos (32768 - wr), md := .data (n - (32768 - wr)) }.flush := by
    simp only [mData, hav, hmin, hSN]
    rw [if_neg hsh, if_pos hb]
   rw [hm]
   have hnx : nx (wr + (32768 - wr)) = 0 := by unfold nx; rw [if_pos (by omega)]
   have hz : (a.out.length + (32768 - wr)) % 32768 = 0 := by omega
   refine ⟨g', _, bs, cs, ⟨hW, hC.S.off ho (by decide), win_data hE hC.V (by omega) (by omega) (by omega), ?_, ?_, HZ.offs hC.Z ho (by decide)⟩, .inl ⟨herr, (ho _ (by decide)).trans hL.err⟩, fun _ => ⟨⟨?_, (ho _ (by decide)).trans hL.fin, (ho _ (by decide)).trans hL.err, ?_⟩, h45, trivial⟩⟩
   ·show Dw E g' (a.out ++ bytesAt E.S' a.pos (32768 - wr)).length (a.out ++ bytesAt E.S' a.pos (32768 - wr)).length ((a.out ++ bytesAt E.S' a.pos (32768 - wr)).length % 32768)
    rw [hlen, hz, ← hnx]
    exact hD'
   ·show TR E g' a.e (a.out ++ bytesAt E.S' a.pos (32768 - wr)).length
    rw [hlen, hef]
    exact hT'
   ·exact Bt.zero h2' ((ho _ (by decide)).trans h3) ((ho _ (by decide)).trans h4)
   ·exact ⟨hSS.off ho (by decide), h52, by omega, (ho _ (by decide)).trans h3, (ho _ (by decide)).trans h4⟩
  ·skip
   have hmin : min n (32768 - wr) = n := Nat.min_eq_left (by omega)
   rw [hmin] at hsh
   have hm : (mData E.S' a n).1 = ({ a with p := 8 * (a.pos + n), pos := a.pos + n, out := a.out ++ bytesAt E.S' a.pos n } : A).finish := by
    simp only [mData, hav, hmin, hSN]
    rw [if_neg hsh, if_neg hb]
   rw [hm]
   have hlast : (a.out ++ bytesAt E.S' a.pos n).length % 32768 = wr + n := by rw [hlen]; omega
   have hnx : nx (wr + n) = wr + n := by unfold nx; rw [if_neg (by omega)]
   have hwin := win_data hE hC.V (pos := a.pos) (k := n) (by omega : wr = a.out.length % 32768) (by omega) (by omega)
   have hz0 : n = 0 → cpd E hs wr a.pos n = hs := fun h => by
    subst h; funext j; unfold cpd; rw [if_neg (by omega)]
   have hfin := hL.fin
   cases hfe : a.fin with
   | false =>
    rw [hfe] at hfin
    have key : Ret 52 [fp E] w fun v w' => v = .tuple #[] ∧ ∃ g', Wd E w' g' (cpd E hs wr a.pos n) bs cs (a.pos + n) ∧ (∃ x, g' 2 = .int .i64 x) ∧ g' 1045 = fnv 35 ∧ g' 1052 = .int .i64 0 ∧ Dw E g' (a.out.length + n) a.fl (wr + n) ∧ Off [2, 1052, 1038, 1045] g g' ∧ Kp E.L w w' := by
     by_cases hz : n = 0
     ·rw [hz0 hz]
      have := cd_end_zero_more E w g hs bs cs a.pos wr rd n _ ro hE hC.W hC.S hDD hro hl hwr hn hle (by omega) (by omega) hz a.out.length a.fl hD hfin
      rw [hz]; exact this
     ·exact cd_end_ok_more E w g hs bs cs a.pos wr rd n _ ro hE hC.W hC.S hDD hro hl hwr hn hle (by omega) (by omega) (by omega) a.out.length a.fl hD hfin
    refine key.mono ?_
    rintro e w' ⟨v, rfl, rfl, g', hW, h2', h45, h52, hD', ho, kp⟩
    refine ⟨_, rfl, rfl, ?_, kp⟩
    simp only [A.finish, hfe]
    refine ⟨g', _, bs, cs, ⟨hW, hC.S.off ho (by decide), hwin, ?_, hC.T.off ho (by decide), HZ.offs hC.Z ho (by decide)⟩, .inl ⟨herr, (ho _ (by decide)).trans hL.err⟩, fun _ => ⟨⟨?_, (ho _ (by decide)).trans hfin, (ho _ (by decide)).trans hL.err, ?_⟩, h45, trivial⟩⟩
    ·show Dw E g' (a.out ++ bytesAt E.S' a.pos n).length a.fl ((a.out ++ bytesAt E.S' a.pos n).length % 32768)
     rw [hlast, hlen]
     exact hD'
    ·exact Bt.zero h2' ((ho _ (by decide)).trans h3) ((ho _ (by decide)).trans h4)
    ·exact ⟨hSS.off ho (by decide), h52⟩
   | true =>
    rw [hfe] at hfin
    have key : Ret 52 [fp E] w fun v w' => v = .tuple #[] ∧ ∃ g', Wd E w' g' (cpd E hs wr a.pos n) bs cs (a.pos + n) ∧ g' 1048 = EOFv E ∧ Dw E g' (a.out.length + n) (a.out.length + n) (nx (wr + n)) ∧ TR E g' a.fl (a.out.length + n) ∧ Off [2, 1052, 1038, 1039, 1040, 1045, 1048, 1049] g g' ∧ Kp E.L w w' := by
     by_cases hz : n = 0
     ·rw [hz0 hz]
      have := cd_end_zero_last E w g hs bs cs a.pos wr rd n _ ro hE hC.W hC.S hDD hro hl hwr hn hle (by omega) (by omega) hz a.out.length a.fl hD hfin hT
      rw [hz]; exact this
     ·exact cd_end_ok_last E w g hs bs cs a.pos wr rd n _ ro hE hC.W hC.S hDD hro hl hwr hn hle (by omega) (by omega) (by omega) a.out.length a.fl hD hfin hT
    refine key.mono ?_
    rintro e w' ⟨v, rfl, rfl, g', hW, h48, hD', hT', ho, kp⟩
    refine ⟨_, rfl, rfl, ?_, kp⟩
    simp only [A.finish, hfe, if_true]
    refine ⟨g', _, bs, cs, ⟨hW, hC.S.off ho (by decide), hwin, ?_, ?_, HZ.offs hC.Z ho (by decide)⟩, .inr (.inl ⟨rfl, h48⟩), fun h => by cases h⟩
    ·show Dw E g' (a.out ++ bytesAt E.S' a.pos n).length (a.out ++ bytesAt E.S' a.pos n).length ((a.out ++ bytesAt E.S' a.pos n).length % 32768)
     rw [hlast, hlen, ← hnx]
     exact hD'
    ·show TR E g' a.e (a.out ++ bytesAt E.S' a.pos n).length
     rw [hlen, hef]
     exact hT'
end Go.Proofs.YtejeloeaklpinaaDoor
namespace Go.Proofs.YtejeloeaklpinaaDoor
theorem ofInt_nat64 (x : Nat) (hx : x < 18446744073709551616) : (BitVec.ofInt 64 (x : Int)).toNat = x := by
 rw [BitVec.ofInt_natCast, BitVec.toNat_ofNat]; exact Nat.mod_eq_of_lt hx
section
variable {t : TypeId} {a b : Int} {x y : Nat}
theorem bn_or64 (ha : a = (x : Int)) (hb : b = (y : Int)) (hx : x < 9223372036854775808) (hy : y < 9223372036854775808) : binOp .or t (.int .i64 a) (.int .i64 b) = pure (.int .i64 ((x ||| y : Nat) : Int)) := by
 subst ha hb
 have hz : x ||| y < 2 ^ 63 := Nat.or_lt_two_pow hx hy
 show Op.intBits .or .i64 (x : Int) (y : Int) = _
 have e1 : (BitVec.ofInt IntKind.i64.bits (x : Int)).toNat = x := ofInt_nat64 x (by omega)
 have e2 : (BitVec.ofInt IntKind.i64.bits (y : Int)).toNat = y := ofInt_nat64 y (by omega)
 simp only [Op.intBits, BitVec.toNat_or, e1, e2]
 rw [wrap_s64 _ (by omega) (by omega)]
theorem bn_and64 (ha : a = (x : Int)) (hb : b = (y : Int)) (hx : x < 9223372036854775808) (hy : y < 9223372036854775808) : binOp .and t (.int .i64 a) (.int .i64 b) = pure (.int .i64 ((x &&& y : Nat) : Int)) := by
 subst ha hb
 have hz : x &&& y < 2 ^ 63 := Nat.and_lt_two_pow _ hy
 show Op.intBits .and .i64 (x : Int) (y : Int) = _
 have e1 : (BitVec.ofInt IntKind.i64.bits (x : Int)).toNat = x := ofInt_nat64 x (by omega)
 have e2 : (BitVec.ofInt IntKind.i64.bits (y : Int)).toNat = y := ofInt_nat64 y (by omega)
 simp only [Op.intBits, BitVec.toNat_and, e1, e2]
 rw [wrap_s64 _ (by omega) (by omega)]
theorem bn_mask64s {k : Nat} (ha : a = (x : Int)) (hb : b = ((2 ^ k - 1 : Nat) : Int)) (hx : x < 9223372036854775808) (hk : k ≤ 62) : binOp .and t (.int .i64 a) (.int .i64 b) = pure (.int .i64 ((x % 2 ^ k : Nat) : Int)) := by
 have hp : (2 : Nat) ^ k ≤ 2 ^ 62 := Nat.pow_le_pow_right (by omega) hk
 have h1 : 0 < (2 : Nat) ^ k := Nat.two_pow_pos k
 rw [← Nat.and_two_pow_sub_one_eq_mod]
 exact bn_and64 ha hb hx (by omega)
end
section
variable {ρ : Operand → Value} {d : Option Nat} {x y z : Operand} {ty : TypeId} {pos : String} {af : Array Edge} {gd : Option (Nat × Bool)} {w : World}
theorem un_xor {t : TypeId} {n : Nat} (hx : ρ x = .int .i64 (n : Int)) (hn : n < 9223372036854775808) : (execOp ρ ⟨d, .unOp .xor t x, ty, pos, af, gd⟩).run Tryd.prog w = .ok (.value (.int .i64 (-(n : Int) - 1))) w := by
 have e : (BitVec.ofInt 64 (-1) ^^^ BitVec.ofInt 64 (n : Int)).toNat = 18446744073709551615 - n := by
  have h1 : BitVec.ofInt 64 (-1) = BitVec.allOnes 64 := by decide
  rw [h1, BitVec.allOnes_xor, BitVec.toNat_not, ofInt_nat64 n (by omega)]
 have hr : Op.unary .xor (.int .i64 (n : Int)) = pure (.int .i64 (-(n : Int) - 1)) := by
  show Op.intBits .xor .i64 (-1) (n : Int) = _
  show pure (Value.int .i64 (IntKind.i64.wrap ((BitVec.ofInt 64 (-1) ^^^ BitVec.ofInt 64 (n : Int)).toNat : Int))) = _
  rw [e]
  congr 2
  have e2 : ((18446744073709551615 - n : Nat) : Int) = 18446744073709551615 - (n : Int) := by omega
  rw [e2]
  simp only [IntKind.wrap, IntKind.bits, IntKind.signed, Bool.true_and]
  split <;> rename_i h <;> simp at h <;> omega
 simp only [execOp, hx, hr]
 rfl
end
theorem wrap_u16x (n : Nat) (hn : n < 65536) : IntKind.u16.wrap (-(n : Int) - 1) = ((65535 - n : Nat) : Int) := by
 simp [IntKind.wrap, IntKind.bits, IntKind.signed]; omega
theorem or_bytes (x y : Nat) (hx : x < 256) : x ||| (y * 2 ^ 8) = x + 256 * y := by
 rw [or_high x y 8 hx]; omega
theorem bv16 (d : Nat → Nat) (h : ∀ k, d k < 256) (N k : Nat) (hk : k + 1 < N) : bv (dnum d N) (8 * k) 16 = d k + 256 * d (k + 1) := by
 have e0 : bv (dnum d N) (8 * k) 8 = d k := by
  have := bv_more d h N (8 * k) 0 k (by omega) (by omega)
  simpa [bv_zero] using this
 have e1 := bv_more d h N (8 * k) 8 (k + 1) (by omega) (by omega)
 rw [e0] at e1
 rw [show (16 : Nat) = 8 + 8 from rfl, e1]
 omega
theorem und91 : Tryd.prog.underlying 91 = some (.array 4 5) := by kernel_rfl
end Go.Proofs.YtejeloeaklpinaaDoor
