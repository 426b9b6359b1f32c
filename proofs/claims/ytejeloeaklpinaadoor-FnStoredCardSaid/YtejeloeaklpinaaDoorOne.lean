/- A statement whose order is open and that holds operations with an effect: whatever the order, it comes to what the text's own order comes to, if the operations of the head yield the same in every world of a class that the effects keep. -/
import Derived.StillTail
namespace Go.Proofs.YtejeloeaklpinaaDoor
open Go
section
variable {P : Program} {ops : Array Oper} {md : Region.Mode} {C : World → Prop}

/-- What an operation comes to: a value, nothing, or a call that returns. -/
def uponE (P : Program) (o : Oper) (a : Act) (K : Act → World → Prop) : Result Next → Prop
  | .ok (.value v) w' => K (a.put o.dst v) w'
  | .ok .skip w' => K (a.put o.dst undef) w'
  | .ok (.enter f args) w' => Calls P f args w' fun en w'' => ∃ v, en = .returned v ∧ K (a.put o.dst v) w''
  | _ => False
/-- One operation by its run, its worlds in C. -/
def eOper (P : Program) (ops : Array Oper) (C : World → Prop) (o : Oper) (K : Act → World → Prop) (a : Act) (w : World) : Prop :=
  if Region.wanted o (yielded ops a.tmps) = true then uponE P o a (fun a' w' => C w' ∧ K a' w') ((execOp a.eval o).run P w) else K (a.put o.dst undef) w
def eOp (P : Program) (ops : Array Oper) (C : World → Prop) (i : Nat) (K : Act → World → Prop) (a : Act) (w : World) : Prop :=
  match ops[i]? with
  | none => K a w
  | some o => eOper P ops C o K a w
def aE (P : Program) (md : Region.Mode) (ops : Array Oper) (C : World → Prop) (Q : Act → World → Prop) : Nat → Array Bool → Act → World → Prop
  | 0, listed, a, w => Region.ready md ops listed = [] ∧ Q a w
  | fuel + 1, listed, a, w => (Region.ready md ops listed = [] → Q a w) ∧
    ∀ i ∈ Region.ready md ops listed, eOp P ops C i (aE P md ops C Q fuel (listed.setIfInBounds i true)) a w

theorem uponE_upon {o : Oper} {a : Act} {K K' : Act → World → Prop} {Q : Exit → Act → World → Prop} (h : ∀ a w, K a w → K' a w) {r : Result Next}
    (hh : uponE P o a K r) : o.upon P a K' Q r := by
  cases r with
  | ok n w' =>
    cases n <;> simp only [uponE] at hh <;> simp only [Oper.upon]
    case value => exact h _ _ hh
    case skip => exact h _ _ hh
    case enter f args => exact hh.mono fun en w'' ⟨v, he, hr⟩ => by subst he; exact h _ _ hr
  | halt x w' => simp only [uponE] at hh
theorem uponE_mono {o : Oper} {a : Act} {K K' : Act → World → Prop} (h : ∀ a w, K a w → K' a w) {r : Result Next} (hh : uponE P o a K r) : uponE P o a K' r := by
  cases r with
  | ok n w' =>
    cases n <;> simp only [uponE] at hh ⊢
    case value => exact h _ _ hh
    case skip => exact h _ _ hh
    case enter f args => exact hh.mono fun en w'' ⟨v, he, hr⟩ => ⟨v, he, h _ _ hr⟩
  | halt x w' => simp only [uponE] at hh
theorem uponE_put {oi oj : Oper} {v : Value} {a : Act} {K : Act → World → Prop} (h2 : ∀ x y, (a.put oi.dst x).put oj.dst y = (a.put oj.dst y).put oi.dst x) {r : Result Next}
    (hh : uponE P oj (a.put oi.dst v) K r) : uponE P oj a (fun a' w' => (∃ u, a' = a.put oj.dst u) ∧ K (a'.put oi.dst v) w') r := by
  cases r with
  | ok n w' =>
    cases n <;> simp only [uponE] at hh ⊢
    case value u => exact ⟨⟨_, rfl⟩, by rw [← h2]; exact hh⟩
    case skip => exact ⟨⟨_, rfl⟩, by rw [← h2]; exact hh⟩
    case enter f args => exact hh.mono fun en w'' ⟨u, he, hr⟩ => ⟨u, he, ⟨_, rfl⟩, by rw [← h2]; exact hr⟩
  | halt x w' => simp only [uponE] at hh
theorem wpOp_of_eOp {i : Nat} {K : Act → World → Prop} {K' : Act → World → Prop} {Q' : Exit → Act → World → Prop} {a : Act} {w : World} (h : ∀ a w, K a w → K' a w) (hh : eOp P ops C i K a w) : wpOp P ops Q' i K' a w := by
  unfold eOp at hh
  unfold wpOp
  split
  · rename_i ho; simp only [ho] at hh; exact h _ _ hh
  · rename_i o ho
    simp only [ho, eOper] at hh
    split
    · rename_i hw; rw [if_pos hw] at hh
      exact .inl (uponE_upon (fun a w x => h _ _ x.2) hh)
    · rename_i hw; rw [if_neg hw] at hh
      exact h _ _ hh
theorem wpAny_of_aE {Q : Act → World → Prop} {Q' : Exit → Act → World → Prop} (hQ : ∀ a w, Q a w → Q' .normal a w) : ∀ (fuel : Nat) (listed : Array Bool) (a : Act) (w : World),
    aE P md ops C Q fuel listed a w → wpAny P md ops Q' fuel listed a w
  | 0, _, _, _, h => ⟨h.1, hQ _ _ h.2⟩
  | fuel + 1, _, _, _, h => ⟨fun h0 => hQ _ _ (h.1 h0), fun i hi => wpOp_of_eOp (fun a' w' => wpAny_of_aE hQ fuel _ a' w') (h.2 i hi)⟩

theorem eOp_mono {i : Nat} {K K' : Act → World → Prop} {a : Act} {w : World} (hC : C w) (h : ∀ a w, C w → K a w → K' a w) (hh : eOp P ops C i K a w) : eOp P ops C i K' a w := by
  unfold eOp at *
  split
  · rename_i ho; simp only [ho] at hh; exact h _ _ hC hh
  · rename_i o ho
    simp only [ho] at hh
    unfold eOper at *
    split
    · rename_i hi; rw [if_pos hi] at hh; exact uponE_mono (fun a w x => ⟨x.1, h _ _ x.1 x.2⟩) hh
    · rename_i hi; rw [if_neg hi] at hh; exact h _ _ hC hh
/-- An operation yields one value in all worlds of the class. -/
def Stb (P : Program) (ops : Array Oper) (C : World → Prop) (o : Oper) (v : Value) (a : Act) : Prop := ∀ w', C w' → YieldsAt P ops w' o v a
theorem eOp_put {j : Nat} {oi oj : Oper} {v : Value} (hj : ops[j]? = some oj) (hap : oi.apart ops oj = true)
    (hsi : ∀ cs b, oi.op ≠ .select cs b) (hsj : ∀ cs b, oj.op ≠ .select cs b) {K : Act → World → Prop} {a : Act} {w : World}
    (hy : Stb P ops C oi v a) (h : eOp P ops C j K (a.put oi.dst v) w) :
    eOp P ops C j (fun a' w' => Stb P ops C oi v a' ∧ K (a'.put oi.dst v) w') a w := by
  obtain ⟨h1, h2, h3⟩ := Oper.apart_spec hap
  have keep : ∀ u, Stb P ops C oi v (a.put oj.dst u) := fun u w' hC =>
    (hy w' hC).of_same (execOp_put oi hsi a oj.dst u h3) (wanted_put oi a oj.dst u h3)
  unfold eOp at *
  simp only [hj] at *
  unfold eOper at *
  rw [wanted_put oj a oi.dst v h1] at h
  split
  · rename_i hi
    rw [if_pos hi, execOp_put oj hsj a oi.dst v h1] at h
    refine uponE_mono ?_ (uponE_put (fun x y => Act.put_comm a x y h2) h)
    rintro a' w' ⟨⟨u, rfl⟩, hC, hk⟩
    exact ⟨hC, keep u, hk⟩
  · rename_i hi
    rw [if_neg hi] at h
    exact ⟨keep _, by rw [← Act.put_comm a v undef h2]; exact h⟩
theorem eOp_yield {i : Nat} {o : Oper} {v : Value} {a : Act} {w : World} (hi : ops[i]? = some o) (hC : C w) (hy : YieldsAt P ops w o v a) {K : Act → World → Prop} (h : K (a.put o.dst v) w) : eOp P ops C i K a w := by
  unfold eOp eOper
  simp only [hi]
  rcases hy with ⟨hw, hv | ⟨hv, rfl⟩ | ⟨f, args, hv, hc⟩⟩ | ⟨hw, rfl⟩
  · rw [if_pos hw, hv]; exact ⟨hC, h⟩
  · rw [if_pos hw, hv]; exact ⟨hC, h⟩
  · rw [if_pos hw, hv]; exact hc.mono fun e w'' ⟨he, hw'⟩ => ⟨v, he, by subst hw'; exact ⟨hC, h⟩⟩
  · rw [if_neg (by simp [hw])]; exact h

theorem aE_first {Q : Act → World → Prop} {i : Nat} {oi : Oper} {v : Value} (hi : ops[i]? = some oi) (hsel : ∀ (j : Nat) (o : Oper) cs b, ops[j]? = some o → o.op ≠ .select cs b) :
    ∀ (fuel : Nat) (listed : Array Bool) (a : Act) (w : World), C w →
      (∀ j oj, ops[j]? = some oj → j ≠ i → listed.getD j true = false → (∀ e ∈ oj.after, Region.binds md e = true → e.on ≠ i) → oi.apart ops oj = true) →
      i ∈ Region.ready md ops listed → Stb P ops C oi v a →
      aE P md ops C Q fuel (listed.setIfInBounds i true) (a.put oi.dst v) w → aE P md ops C Q (fuel + 1) listed a w := by
  intro fuel
  induction fuel with
  | zero =>
    intro listed a w hC _ hr hy H
    refine ⟨fun h => (by rw [h] at hr; cases hr), fun j hj => ?_⟩
    by_cases hji : j = i
    · subst hji; exact eOp_yield hi hC (hy w hC) H
    · have := ready_mono hj hji
      rw [H.1] at this
      cases this
  | succ fuel ih =>
    intro listed a w hC hfree hr hy H
    refine ⟨fun h => (by rw [h] at hr; cases hr), fun j hj => ?_⟩
    by_cases hji : j = i
    · subst hji; exact eOp_yield hi hC (hy w hC) H
    · have h1 := H.2 j (ready_mono hj hji)
      obtain ⟨hjun, oj, hoj, hall⟩ := mem_ready.1 hj
      have hnot : ∀ e ∈ oj.after, Region.binds md e = true → e.on ≠ i := fun e he hb heq => by
        have h1 := hall e he hb
        have h0 := (mem_ready.1 hr).1
        rw [heq] at h1
        rcases Nat.lt_or_ge i listed.size with h' | h'
        · simp [h'] at h0 h1; rw [h0] at h1; cases h1
        · simp [Array.getElem?_eq_none h'] at h1
      have h2 := eOp_put hoj (hfree j oj hoj hji hjun hnot) (fun cs b => hsel i oi cs b hi) (fun cs b => hsel j oj cs b hoj) hy h1
      have hfree' : ∀ k ok, ops[k]? = some ok → k ≠ i → (listed.setIfInBounds j true).getD k true = false →
          (∀ e ∈ ok.after, Region.binds md e = true → e.on ≠ i) → oi.apart ops ok = true := fun k ok hk hki hun hno => by
        refine hfree k ok hk hki ?_ hno
        by_cases hjk : j = k
        · subst hjk; exact hjun
        · rw [getD_set_ne true hjk] at hun; exact hun
      refine eOp_mono hC (fun a' w' hC' h3 => ih (listed.setIfInBounds j true) a' w' hC' hfree' (ready_mono hr (Ne.symm hji)) h3.1 ?_) h2
      rw [Array.setIfInBounds_comm _ _ hji]
      exact h3.2

/-- The operations in the text's order, each with a mark: true: it stands alone (it may have an effect, its world is in the class); false: it yields one value in all worlds of the class. -/
def wpMix (P : Program) (ops : Array Oper) (C : World → Prop) (Q : Act → World → Prop) : List Oper → List Bool → Act → World → Prop
  | [], _, a, w => Q a w
  | o :: rest, true :: fs, a, w => eOper P ops C o (wpMix P ops C Q rest fs) a w
  | o :: rest, false :: fs, a, w => ∃ v, Stb P ops C o v a ∧ wpMix P ops C Q rest fs (a.put o.dst v) w
  | _ :: _, [], _, _ => False
def mixF (md : Region.Mode) (ops : Array Oper) : List Bool → Nat → Nat → Array Bool → Bool
  | _, 0, _, listed => (Region.ready md ops listed).isEmpty
  | true :: fs, n + 1, k, listed => decide (Region.ready md ops listed = [k]) && mixF md ops fs n (k + 1) (listed.setIfInBounds k true)
  | false :: fs, n + 1, k, listed => (Region.ready md ops listed).contains k && Region.free md ops listed k && mixF md ops fs n (k + 1) (listed.setIfInBounds k true)
  | [], _ + 1, _, _ => false
theorem aE_mix {Q : Act → World → Prop} (hsel : Region.noSelect ops = true) :
    ∀ (l : List Oper) (fs : List Bool) (k : Nat) (listed : Array Bool) (a : Act) (w : World), C w → (∀ j, l[j]? = ops[k + j]?) →
    mixF md ops fs l.length k listed = true → wpMix P ops C Q l fs a w → aE P md ops C Q l.length listed a w
  | [], _, k, listed, a, w, hC, hl, hB, h => by
    refine ⟨?_, ?_⟩
    · simpa [mixF] using hB
    · simpa [wpMix] using h
  | o :: l, true :: fs, k, listed, a, w, hC, hl, hB, h => by
    have h0 : ops[k]? = some o := by simpa using (hl 0).symm
    simp only [List.length_cons, mixF, Bool.and_eq_true, decide_eq_true_eq] at hB
    refine ⟨fun h1 => (by rw [hB.1] at h1; cases h1), fun i hi => ?_⟩
    rw [hB.1] at hi
    have hik : i = k := by simpa using hi
    subst hik
    simp only [eOp, h0]
    unfold wpMix at h
    unfold eOper at h ⊢
    split
    · rename_i hw; rw [if_pos hw] at h
      exact uponE_mono (fun a' w' hh => ⟨hh.1, aE_mix hsel l fs (i + 1) _ a' w' hh.1 (fun j => by have := hl (j + 1); simpa [Nat.add_assoc, Nat.add_comm 1 j] using this) hB.2 hh.2⟩) h
    · rename_i hw; rw [if_neg hw] at h
      exact aE_mix hsel l fs (i + 1) _ _ _ hC (fun j => by have := hl (j + 1); simpa [Nat.add_assoc, Nat.add_comm 1 j] using this) hB.2 h
  | o :: l, false :: fs, k, listed, a, w, hC, hl, hB, h => by
    have h0 : ops[k]? = some o := by simpa using (hl 0).symm
    simp only [List.length_cons, mixF, Bool.and_eq_true] at hB
    obtain ⟨⟨hr, hf⟩, hB'⟩ := hB
    unfold wpMix at h
    obtain ⟨v, hy, hK⟩ := h
    exact aE_first h0 (Region.noSelect_spec hsel) _ listed a w hC (Region.free_spec h0 hf) (by simpa using hr) hy
      (aE_mix hsel l fs (k + 1) _ _ w hC (fun j => by have := hl (j + 1); simpa [Nat.add_assoc, Nat.add_comm 1 j] using this) hB' hK)
  | _ :: _, [], _, _, _, _, _, _, hB, _ => by simp [mixF] at hB

def mixB (ops : Array Oper) (fs : List Bool) : Bool := Region.noSelect ops && mixF .any ops fs ops.size 0 (Array.replicate ops.size false)
/-- A statement whose order is open, with effects. -/
theorem wp_region_mix {id : Nat} {Q : Exit → Act → World → Prop} {a : Act} {w : World} {l : List Oper} (fs : List Bool) (C : World → Prop) (hm : P.follows .mixedOrders = true) (hB : mixB l.toArray fs = true)
    (hC : C w.drew) (h : wpMix P l.toArray C (Q .normal) l fs a w.drew) : (Code.region id l.toArray true).wp P Q a w := by
  simp only [mixB, Bool.and_eq_true] at hB
  obtain ⟨hs, hl⟩ := hB
  refine wp_region_any hm (wpAny_of_aE (C := C) (Q := Q .normal) (fun _ _ h => h) _ _ _ _ ?_)
  have := aE_mix (md := .any) hs l fs 0 (Array.replicate l.toArray.size false) a w.drew hC (by simp) (by simpa using hl) h
  simpa using this
end
end Go.Proofs.YtejeloeaklpinaaDoor
