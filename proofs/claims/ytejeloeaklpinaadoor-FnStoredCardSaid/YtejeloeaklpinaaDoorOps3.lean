/- Slices cut. -/
import Derived.Test.YtejeloeaklpinaaDoorOps2
namespace Go.Proofs.YtejeloeaklpinaaDoor
/-- The address of a slice that is cut at l. -/
def cutA (a : Option Addr) (l m : Nat) : Option Addr := if m = l then a else a.map (·.add l)
theorem cutA_lt (b o l m : Nat) (h : l < m) : cutA (some ⟨b, o, none⟩) l m = some ⟨b, o + l, none⟩ := by
  have : ¬ m = l := by omega
  simp [cutA, this, Addr.add_lit]
theorem cutA_zero (a : Option Addr) (m : Nat) : cutA a 0 m = a := by
  cases a <;> simp [cutA, Addr.add]
section
variable {ρ : Operand → Value} {d : Option Nat} {x y z : Operand} {ty : TypeId} {pos : String} {af : Array Edge} {gd : Option (Nat × Bool)} {w : World}
variable {t e : TypeId} {a : Option Addr} {len cap l h : Nat} {k k' : IntKind} {i j : Int}
theorem elem_of (ht : Tryd.prog.underlying t = some (.slice e)) : Tryd.prog.elem t = e := by
  simp [Program.elem, ht]
theorem sl_lh (ht : Tryd.prog.underlying t = some (.slice e)) (he : ∀ w, (sizeOf e).run Tryd.prog w = .ok 1 w) (hx : ρ x = .slice a len cap) (hy : ρ y = .int k i) (hz : ρ z = .int k' j) (hi : i = (l : Int)) (hj : j = (h : Int)) (h1 : l ≤ h) (h2 : h ≤ cap) :
    (execOp ρ ⟨d, .slice t x (some y) (some z) none, ty, pos, af, gd⟩).run Tryd.prog w = .ok (.value (.slice (cutA a l cap) (h - l) (cap - l))) w := by
  subst hi hj
  have ht' : Tryd.prog.underlying t = some (.slice (Tryd.prog.elem t)) := by rw [elem_of ht]; exact ht
  have hs := run_slice_lh (P := Tryd.prog) w t a len cap ht' k k' (l : Int) (h : Int) (by omega) (by omega) (by omega)
  simp [execOp, hx, hy, hz, run_sliceAt_slice (P := Tryd.prog) w t _ _ _ _ ht', hs, elem_of ht, he, sliced, cutA]
theorem sl_l (ht : Tryd.prog.underlying t = some (.slice e)) (he : ∀ w, (sizeOf e).run Tryd.prog w = .ok 1 w) (hx : ρ x = .slice a len cap) (hy : ρ y = .int k i) (hi : i = (l : Int)) (h1 : l ≤ len) :
    (execOp ρ ⟨d, .slice t x (some y) none none, ty, pos, af, gd⟩).run Tryd.prog w = .ok (.value (.slice (cutA a l cap) (len - l) (cap - l))) w := by
  subst hi
  have ht' : Tryd.prog.underlying t = some (.slice (Tryd.prog.elem t)) := by rw [elem_of ht]; exact ht
  have hs := run_slice_l (P := Tryd.prog) w t a len cap ht' k (l : Int) (by omega) (by omega)
  simp [execOp, hx, hy, run_sliceAt_slice (P := Tryd.prog) w t _ _ _ _ ht', hs, elem_of ht, he, sliced, cutA]
theorem sl_h (ht : Tryd.prog.underlying t = some (.slice e)) (he : ∀ w, (sizeOf e).run Tryd.prog w = .ok 1 w) (hx : ρ x = .slice a len cap) (hz : ρ z = .int k' j) (hj : j = (h : Int)) (h2 : h ≤ cap) :
    (execOp ρ ⟨d, .slice t x none (some z) none, ty, pos, af, gd⟩).run Tryd.prog w = .ok (.value (.slice a h cap)) w := by
  subst hj
  have ht' : Tryd.prog.underlying t = some (.slice (Tryd.prog.elem t)) := by rw [elem_of ht]; exact ht
  have hs := run_slice_h (P := Tryd.prog) w t a len cap ht' k' (h : Int) (by omega) (by omega)
  have ea := cutA_zero a cap
  unfold cutA at ea
  simp [execOp, hx, hz, run_sliceAt_slice (P := Tryd.prog) w t _ _ _ _ ht', hs, elem_of ht, he, sliced, ea]
end
theorem fd90_0 {ρ : Operand → Value} {d : Option Nat} {x : Operand} {ty : TypeId} {pos : String} {af : Array Edge} {gd : Option (Nat × Bool)} {w : World} {b : Nat} (h : ρ x = .pointer (some ⟨b, 1037, none⟩)) : (execOp ρ ⟨d, .fieldAddr 90 x 0, ty, pos, af, gd⟩).run Tryd.prog w = .ok (.value (.pointer (some ⟨b, 1037, none⟩))) w := by
  show (Instr.fieldAt 90 (ρ x) 0 >>= fun v => pure (Next.value v)).run Tryd.prog w = _
  rw [h]
  kernel_rfl
theorem fd90_1 {ρ : Operand → Value} {d : Option Nat} {x : Operand} {ty : TypeId} {pos : String} {af : Array Edge} {gd : Option (Nat × Bool)} {w : World} {b : Nat} (h : ρ x = .pointer (some ⟨b, 1037, none⟩)) : (execOp ρ ⟨d, .fieldAddr 90 x 1, ty, pos, af, gd⟩).run Tryd.prog w = .ok (.value (.pointer (some ⟨b, 1038, none⟩))) w := by
  show (Instr.fieldAt 90 (ρ x) 1 >>= fun v => pure (Next.value v)).run Tryd.prog w = _
  rw [h]
  kernel_rfl
theorem fd90_2 {ρ : Operand → Value} {d : Option Nat} {x : Operand} {ty : TypeId} {pos : String} {af : Array Edge} {gd : Option (Nat × Bool)} {w : World} {b : Nat} (h : ρ x = .pointer (some ⟨b, 1037, none⟩)) : (execOp ρ ⟨d, .fieldAddr 90 x 2, ty, pos, af, gd⟩).run Tryd.prog w = .ok (.value (.pointer (some ⟨b, 1039, none⟩))) w := by
  show (Instr.fieldAt 90 (ρ x) 2 >>= fun v => pure (Next.value v)).run Tryd.prog w = _
  rw [h]
  kernel_rfl
theorem fd90_3 {ρ : Operand → Value} {d : Option Nat} {x : Operand} {ty : TypeId} {pos : String} {af : Array Edge} {gd : Option (Nat × Bool)} {w : World} {b : Nat} (h : ρ x = .pointer (some ⟨b, 1037, none⟩)) : (execOp ρ ⟨d, .fieldAddr 90 x 3, ty, pos, af, gd⟩).run Tryd.prog w = .ok (.value (.pointer (some ⟨b, 1040, none⟩))) w := by
  show (Instr.fieldAt 90 (ρ x) 3 >>= fun v => pure (Next.value v)).run Tryd.prog w = _
  rw [h]
  kernel_rfl
end Go.Proofs.YtejeloeaklpinaaDoor
