/- The runs of single operations over the program's own tables, made by a small program (gen_fields.py): addresses of fields. -/
import Derived.Test.YtejeloeaklpinaaDoorFw
import Derived.KernelRfl
namespace Go.Proofs.YtejeloeaklpinaaDoor
theorem fa95_0 {ρ : Operand → Value} {d : Option Nat} {x : Operand} {ty : TypeId} {pos : String} {af : Array Edge} {gd : Option (Nat × Bool)} {w : World} {b : Nat} (h : ρ x = .pointer (some ⟨b, 0, none⟩)) : (execOp ρ ⟨d, .fieldAddr 95 x 0, ty, pos, af, gd⟩).run Tryd.prog w = .ok (.value (.pointer (some ⟨b, 0, none⟩))) w := by
  show (Instr.fieldAt 95 (ρ x) 0 >>= fun v => pure (Next.value v)).run Tryd.prog w = _
  rw [h]
  kernel_rfl
theorem fa95_1 {ρ : Operand → Value} {d : Option Nat} {x : Operand} {ty : TypeId} {pos : String} {af : Array Edge} {gd : Option (Nat × Bool)} {w : World} {b : Nat} (h : ρ x = .pointer (some ⟨b, 0, none⟩)) : (execOp ρ ⟨d, .fieldAddr 95 x 1, ty, pos, af, gd⟩).run Tryd.prog w = .ok (.value (.pointer (some ⟨b, 1, none⟩))) w := by
  show (Instr.fieldAt 95 (ρ x) 1 >>= fun v => pure (Next.value v)).run Tryd.prog w = _
  rw [h]
  kernel_rfl
theorem fa95_2 {ρ : Operand → Value} {d : Option Nat} {x : Operand} {ty : TypeId} {pos : String} {af : Array Edge} {gd : Option (Nat × Bool)} {w : World} {b : Nat} (h : ρ x = .pointer (some ⟨b, 0, none⟩)) : (execOp ρ ⟨d, .fieldAddr 95 x 2, ty, pos, af, gd⟩).run Tryd.prog w = .ok (.value (.pointer (some ⟨b, 2, none⟩))) w := by
  show (Instr.fieldAt 95 (ρ x) 2 >>= fun v => pure (Next.value v)).run Tryd.prog w = _
  rw [h]
  kernel_rfl
theorem fa95_3 {ρ : Operand → Value} {d : Option Nat} {x : Operand} {ty : TypeId} {pos : String} {af : Array Edge} {gd : Option (Nat × Bool)} {w : World} {b : Nat} (h : ρ x = .pointer (some ⟨b, 0, none⟩)) : (execOp ρ ⟨d, .fieldAddr 95 x 3, ty, pos, af, gd⟩).run Tryd.prog w = .ok (.value (.pointer (some ⟨b, 3, none⟩))) w := by
  show (Instr.fieldAt 95 (ρ x) 3 >>= fun v => pure (Next.value v)).run Tryd.prog w = _
  rw [h]
  kernel_rfl
theorem fa95_4 {ρ : Operand → Value} {d : Option Nat} {x : Operand} {ty : TypeId} {pos : String} {af : Array Edge} {gd : Option (Nat × Bool)} {w : World} {b : Nat} (h : ρ x = .pointer (some ⟨b, 0, none⟩)) : (execOp ρ ⟨d, .fieldAddr 95 x 4, ty, pos, af, gd⟩).run Tryd.prog w = .ok (.value (.pointer (some ⟨b, 4, none⟩))) w := by
  show (Instr.fieldAt 95 (ρ x) 4 >>= fun v => pure (Next.value v)).run Tryd.prog w = _
  rw [h]
  kernel_rfl
theorem fa95_5 {ρ : Operand → Value} {d : Option Nat} {x : Operand} {ty : TypeId} {pos : String} {af : Array Edge} {gd : Option (Nat × Bool)} {w : World} {b : Nat} (h : ρ x = .pointer (some ⟨b, 0, none⟩)) : (execOp ρ ⟨d, .fieldAddr 95 x 5, ty, pos, af, gd⟩).run Tryd.prog w = .ok (.value (.pointer (some ⟨b, 5, none⟩))) w := by
  show (Instr.fieldAt 95 (ρ x) 5 >>= fun v => pure (Next.value v)).run Tryd.prog w = _
  rw [h]
  kernel_rfl
theorem fa95_6 {ρ : Operand → Value} {d : Option Nat} {x : Operand} {ty : TypeId} {pos : String} {af : Array Edge} {gd : Option (Nat × Bool)} {w : World} {b : Nat} (h : ρ x = .pointer (some ⟨b, 0, none⟩)) : (execOp ρ ⟨d, .fieldAddr 95 x 6, ty, pos, af, gd⟩).run Tryd.prog w = .ok (.value (.pointer (some ⟨b, 520, none⟩))) w := by
  show (Instr.fieldAt 95 (ρ x) 6 >>= fun v => pure (Next.value v)).run Tryd.prog w = _
  rw [h]
  kernel_rfl
theorem fa95_7 {ρ : Operand → Value} {d : Option Nat} {x : Operand} {ty : TypeId} {pos : String} {af : Array Edge} {gd : Option (Nat × Bool)} {w : World} {b : Nat} (h : ρ x = .pointer (some ⟨b, 0, none⟩)) : (execOp ρ ⟨d, .fieldAddr 95 x 7, ty, pos, af, gd⟩).run Tryd.prog w = .ok (.value (.pointer (some ⟨b, 1035, none⟩))) w := by
  show (Instr.fieldAt 95 (ρ x) 7 >>= fun v => pure (Next.value v)).run Tryd.prog w = _
  rw [h]
  kernel_rfl
theorem fa95_8 {ρ : Operand → Value} {d : Option Nat} {x : Operand} {ty : TypeId} {pos : String} {af : Array Edge} {gd : Option (Nat × Bool)} {w : World} {b : Nat} (h : ρ x = .pointer (some ⟨b, 0, none⟩)) : (execOp ρ ⟨d, .fieldAddr 95 x 8, ty, pos, af, gd⟩).run Tryd.prog w = .ok (.value (.pointer (some ⟨b, 1036, none⟩))) w := by
  show (Instr.fieldAt 95 (ρ x) 8 >>= fun v => pure (Next.value v)).run Tryd.prog w = _
  rw [h]
  kernel_rfl
theorem fa95_9 {ρ : Operand → Value} {d : Option Nat} {x : Operand} {ty : TypeId} {pos : String} {af : Array Edge} {gd : Option (Nat × Bool)} {w : World} {b : Nat} (h : ρ x = .pointer (some ⟨b, 0, none⟩)) : (execOp ρ ⟨d, .fieldAddr 95 x 9, ty, pos, af, gd⟩).run Tryd.prog w = .ok (.value (.pointer (some ⟨b, 1037, none⟩))) w := by
  show (Instr.fieldAt 95 (ρ x) 9 >>= fun v => pure (Next.value v)).run Tryd.prog w = _
  rw [h]
  kernel_rfl
theorem fa95_10 {ρ : Operand → Value} {d : Option Nat} {x : Operand} {ty : TypeId} {pos : String} {af : Array Edge} {gd : Option (Nat × Bool)} {w : World} {b : Nat} (h : ρ x = .pointer (some ⟨b, 0, none⟩)) : (execOp ρ ⟨d, .fieldAddr 95 x 10, ty, pos, af, gd⟩).run Tryd.prog w = .ok (.value (.pointer (some ⟨b, 1041, none⟩))) w := by
  show (Instr.fieldAt 95 (ρ x) 10 >>= fun v => pure (Next.value v)).run Tryd.prog w = _
  rw [h]
  kernel_rfl
theorem fa95_11 {ρ : Operand → Value} {d : Option Nat} {x : Operand} {ty : TypeId} {pos : String} {af : Array Edge} {gd : Option (Nat × Bool)} {w : World} {b : Nat} (h : ρ x = .pointer (some ⟨b, 0, none⟩)) : (execOp ρ ⟨d, .fieldAddr 95 x 11, ty, pos, af, gd⟩).run Tryd.prog w = .ok (.value (.pointer (some ⟨b, 1045, none⟩))) w := by
  show (Instr.fieldAt 95 (ρ x) 11 >>= fun v => pure (Next.value v)).run Tryd.prog w = _
  rw [h]
  kernel_rfl
theorem fa95_12 {ρ : Operand → Value} {d : Option Nat} {x : Operand} {ty : TypeId} {pos : String} {af : Array Edge} {gd : Option (Nat × Bool)} {w : World} {b : Nat} (h : ρ x = .pointer (some ⟨b, 0, none⟩)) : (execOp ρ ⟨d, .fieldAddr 95 x 12, ty, pos, af, gd⟩).run Tryd.prog w = .ok (.value (.pointer (some ⟨b, 1046, none⟩))) w := by
  show (Instr.fieldAt 95 (ρ x) 12 >>= fun v => pure (Next.value v)).run Tryd.prog w = _
  rw [h]
  kernel_rfl
theorem fa95_13 {ρ : Operand → Value} {d : Option Nat} {x : Operand} {ty : TypeId} {pos : String} {af : Array Edge} {gd : Option (Nat × Bool)} {w : World} {b : Nat} (h : ρ x = .pointer (some ⟨b, 0, none⟩)) : (execOp ρ ⟨d, .fieldAddr 95 x 13, ty, pos, af, gd⟩).run Tryd.prog w = .ok (.value (.pointer (some ⟨b, 1047, none⟩))) w := by
  show (Instr.fieldAt 95 (ρ x) 13 >>= fun v => pure (Next.value v)).run Tryd.prog w = _
  rw [h]
  kernel_rfl
theorem fa95_14 {ρ : Operand → Value} {d : Option Nat} {x : Operand} {ty : TypeId} {pos : String} {af : Array Edge} {gd : Option (Nat × Bool)} {w : World} {b : Nat} (h : ρ x = .pointer (some ⟨b, 0, none⟩)) : (execOp ρ ⟨d, .fieldAddr 95 x 14, ty, pos, af, gd⟩).run Tryd.prog w = .ok (.value (.pointer (some ⟨b, 1048, none⟩))) w := by
  show (Instr.fieldAt 95 (ρ x) 14 >>= fun v => pure (Next.value v)).run Tryd.prog w = _
  rw [h]
  kernel_rfl
theorem fa95_15 {ρ : Operand → Value} {d : Option Nat} {x : Operand} {ty : TypeId} {pos : String} {af : Array Edge} {gd : Option (Nat × Bool)} {w : World} {b : Nat} (h : ρ x = .pointer (some ⟨b, 0, none⟩)) : (execOp ρ ⟨d, .fieldAddr 95 x 15, ty, pos, af, gd⟩).run Tryd.prog w = .ok (.value (.pointer (some ⟨b, 1049, none⟩))) w := by
  show (Instr.fieldAt 95 (ρ x) 15 >>= fun v => pure (Next.value v)).run Tryd.prog w = _
  rw [h]
  kernel_rfl
theorem fa95_16 {ρ : Operand → Value} {d : Option Nat} {x : Operand} {ty : TypeId} {pos : String} {af : Array Edge} {gd : Option (Nat × Bool)} {w : World} {b : Nat} (h : ρ x = .pointer (some ⟨b, 0, none⟩)) : (execOp ρ ⟨d, .fieldAddr 95 x 16, ty, pos, af, gd⟩).run Tryd.prog w = .ok (.value (.pointer (some ⟨b, 1050, none⟩))) w := by
  show (Instr.fieldAt 95 (ρ x) 16 >>= fun v => pure (Next.value v)).run Tryd.prog w = _
  rw [h]
  kernel_rfl
theorem fa95_17 {ρ : Operand → Value} {d : Option Nat} {x : Operand} {ty : TypeId} {pos : String} {af : Array Edge} {gd : Option (Nat × Bool)} {w : World} {b : Nat} (h : ρ x = .pointer (some ⟨b, 0, none⟩)) : (execOp ρ ⟨d, .fieldAddr 95 x 17, ty, pos, af, gd⟩).run Tryd.prog w = .ok (.value (.pointer (some ⟨b, 1051, none⟩))) w := by
  show (Instr.fieldAt 95 (ρ x) 17 >>= fun v => pure (Next.value v)).run Tryd.prog w = _
  rw [h]
  kernel_rfl
theorem fa95_18 {ρ : Operand → Value} {d : Option Nat} {x : Operand} {ty : TypeId} {pos : String} {af : Array Edge} {gd : Option (Nat × Bool)} {w : World} {b : Nat} (h : ρ x = .pointer (some ⟨b, 0, none⟩)) : (execOp ρ ⟨d, .fieldAddr 95 x 18, ty, pos, af, gd⟩).run Tryd.prog w = .ok (.value (.pointer (some ⟨b, 1052, none⟩))) w := by
  show (Instr.fieldAt 95 (ρ x) 18 >>= fun v => pure (Next.value v)).run Tryd.prog w = _
  rw [h]
  kernel_rfl
theorem fa95_19 {ρ : Operand → Value} {d : Option Nat} {x : Operand} {ty : TypeId} {pos : String} {af : Array Edge} {gd : Option (Nat × Bool)} {w : World} {b : Nat} (h : ρ x = .pointer (some ⟨b, 0, none⟩)) : (execOp ρ ⟨d, .fieldAddr 95 x 19, ty, pos, af, gd⟩).run Tryd.prog w = .ok (.value (.pointer (some ⟨b, 1053, none⟩))) w := by
  show (Instr.fieldAt 95 (ρ x) 19 >>= fun v => pure (Next.value v)).run Tryd.prog w = _
  rw [h]
  kernel_rfl
theorem fa90_0 {ρ : Operand → Value} {d : Option Nat} {x : Operand} {ty : TypeId} {pos : String} {af : Array Edge} {gd : Option (Nat × Bool)} {w : World} {b : Nat} (h : ρ x = .pointer (some ⟨b, 0, none⟩)) : (execOp ρ ⟨d, .fieldAddr 90 x 0, ty, pos, af, gd⟩).run Tryd.prog w = .ok (.value (.pointer (some ⟨b, 0, none⟩))) w := by
  show (Instr.fieldAt 90 (ρ x) 0 >>= fun v => pure (Next.value v)).run Tryd.prog w = _
  rw [h]
  kernel_rfl
theorem fb90_0 {ρ : Operand → Value} {d : Option Nat} {x : Operand} {ty : TypeId} {pos : String} {af : Array Edge} {gd : Option (Nat × Bool)} {w : World} {b o : Nat} (h : ρ x = .pointer (some ⟨b, o, none⟩)) : (execOp ρ ⟨d, .fieldAddr 90 x 0, ty, pos, af, gd⟩).run Tryd.prog w = .ok (.value (.pointer (some ⟨b, o, none⟩))) w := by
  show (Instr.fieldAt 90 (ρ x) 0 >>= fun v => pure (Next.value v)).run Tryd.prog w = _
  rw [h]
  kernel_rfl
theorem fa90_1 {ρ : Operand → Value} {d : Option Nat} {x : Operand} {ty : TypeId} {pos : String} {af : Array Edge} {gd : Option (Nat × Bool)} {w : World} {b : Nat} (h : ρ x = .pointer (some ⟨b, 0, none⟩)) : (execOp ρ ⟨d, .fieldAddr 90 x 1, ty, pos, af, gd⟩).run Tryd.prog w = .ok (.value (.pointer (some ⟨b, 1, none⟩))) w := by
  show (Instr.fieldAt 90 (ρ x) 1 >>= fun v => pure (Next.value v)).run Tryd.prog w = _
  rw [h]
  kernel_rfl
theorem fb90_1 {ρ : Operand → Value} {d : Option Nat} {x : Operand} {ty : TypeId} {pos : String} {af : Array Edge} {gd : Option (Nat × Bool)} {w : World} {b o : Nat} (h : ρ x = .pointer (some ⟨b, o, none⟩)) : (execOp ρ ⟨d, .fieldAddr 90 x 1, ty, pos, af, gd⟩).run Tryd.prog w = .ok (.value (.pointer (some ⟨b, o + 1, none⟩))) w := by
  show (Instr.fieldAt 90 (ρ x) 1 >>= fun v => pure (Next.value v)).run Tryd.prog w = _
  rw [h]
  kernel_rfl
theorem fa90_2 {ρ : Operand → Value} {d : Option Nat} {x : Operand} {ty : TypeId} {pos : String} {af : Array Edge} {gd : Option (Nat × Bool)} {w : World} {b : Nat} (h : ρ x = .pointer (some ⟨b, 0, none⟩)) : (execOp ρ ⟨d, .fieldAddr 90 x 2, ty, pos, af, gd⟩).run Tryd.prog w = .ok (.value (.pointer (some ⟨b, 2, none⟩))) w := by
  show (Instr.fieldAt 90 (ρ x) 2 >>= fun v => pure (Next.value v)).run Tryd.prog w = _
  rw [h]
  kernel_rfl
theorem fb90_2 {ρ : Operand → Value} {d : Option Nat} {x : Operand} {ty : TypeId} {pos : String} {af : Array Edge} {gd : Option (Nat × Bool)} {w : World} {b o : Nat} (h : ρ x = .pointer (some ⟨b, o, none⟩)) : (execOp ρ ⟨d, .fieldAddr 90 x 2, ty, pos, af, gd⟩).run Tryd.prog w = .ok (.value (.pointer (some ⟨b, o + 2, none⟩))) w := by
  show (Instr.fieldAt 90 (ρ x) 2 >>= fun v => pure (Next.value v)).run Tryd.prog w = _
  rw [h]
  kernel_rfl
theorem fa90_3 {ρ : Operand → Value} {d : Option Nat} {x : Operand} {ty : TypeId} {pos : String} {af : Array Edge} {gd : Option (Nat × Bool)} {w : World} {b : Nat} (h : ρ x = .pointer (some ⟨b, 0, none⟩)) : (execOp ρ ⟨d, .fieldAddr 90 x 3, ty, pos, af, gd⟩).run Tryd.prog w = .ok (.value (.pointer (some ⟨b, 3, none⟩))) w := by
  show (Instr.fieldAt 90 (ρ x) 3 >>= fun v => pure (Next.value v)).run Tryd.prog w = _
  rw [h]
  kernel_rfl
theorem fb90_3 {ρ : Operand → Value} {d : Option Nat} {x : Operand} {ty : TypeId} {pos : String} {af : Array Edge} {gd : Option (Nat × Bool)} {w : World} {b o : Nat} (h : ρ x = .pointer (some ⟨b, o, none⟩)) : (execOp ρ ⟨d, .fieldAddr 90 x 3, ty, pos, af, gd⟩).run Tryd.prog w = .ok (.value (.pointer (some ⟨b, o + 3, none⟩))) w := by
  show (Instr.fieldAt 90 (ρ x) 3 >>= fun v => pure (Next.value v)).run Tryd.prog w = _
  rw [h]
  kernel_rfl
theorem fa86_0 {ρ : Operand → Value} {d : Option Nat} {x : Operand} {ty : TypeId} {pos : String} {af : Array Edge} {gd : Option (Nat × Bool)} {w : World} {b : Nat} (h : ρ x = .pointer (some ⟨b, 0, none⟩)) : (execOp ρ ⟨d, .fieldAddr 86 x 0, ty, pos, af, gd⟩).run Tryd.prog w = .ok (.value (.pointer (some ⟨b, 0, none⟩))) w := by
  show (Instr.fieldAt 86 (ρ x) 0 >>= fun v => pure (Next.value v)).run Tryd.prog w = _
  rw [h]
  kernel_rfl
theorem fb86_0 {ρ : Operand → Value} {d : Option Nat} {x : Operand} {ty : TypeId} {pos : String} {af : Array Edge} {gd : Option (Nat × Bool)} {w : World} {b o : Nat} (h : ρ x = .pointer (some ⟨b, o, none⟩)) : (execOp ρ ⟨d, .fieldAddr 86 x 0, ty, pos, af, gd⟩).run Tryd.prog w = .ok (.value (.pointer (some ⟨b, o, none⟩))) w := by
  show (Instr.fieldAt 86 (ρ x) 0 >>= fun v => pure (Next.value v)).run Tryd.prog w = _
  rw [h]
  kernel_rfl
theorem fa86_1 {ρ : Operand → Value} {d : Option Nat} {x : Operand} {ty : TypeId} {pos : String} {af : Array Edge} {gd : Option (Nat × Bool)} {w : World} {b : Nat} (h : ρ x = .pointer (some ⟨b, 0, none⟩)) : (execOp ρ ⟨d, .fieldAddr 86 x 1, ty, pos, af, gd⟩).run Tryd.prog w = .ok (.value (.pointer (some ⟨b, 1, none⟩))) w := by
  show (Instr.fieldAt 86 (ρ x) 1 >>= fun v => pure (Next.value v)).run Tryd.prog w = _
  rw [h]
  kernel_rfl
theorem fb86_1 {ρ : Operand → Value} {d : Option Nat} {x : Operand} {ty : TypeId} {pos : String} {af : Array Edge} {gd : Option (Nat × Bool)} {w : World} {b o : Nat} (h : ρ x = .pointer (some ⟨b, o, none⟩)) : (execOp ρ ⟨d, .fieldAddr 86 x 1, ty, pos, af, gd⟩).run Tryd.prog w = .ok (.value (.pointer (some ⟨b, o + 1, none⟩))) w := by
  show (Instr.fieldAt 86 (ρ x) 1 >>= fun v => pure (Next.value v)).run Tryd.prog w = _
  rw [h]
  kernel_rfl
theorem fa86_2 {ρ : Operand → Value} {d : Option Nat} {x : Operand} {ty : TypeId} {pos : String} {af : Array Edge} {gd : Option (Nat × Bool)} {w : World} {b : Nat} (h : ρ x = .pointer (some ⟨b, 0, none⟩)) : (execOp ρ ⟨d, .fieldAddr 86 x 2, ty, pos, af, gd⟩).run Tryd.prog w = .ok (.value (.pointer (some ⟨b, 513, none⟩))) w := by
  show (Instr.fieldAt 86 (ρ x) 2 >>= fun v => pure (Next.value v)).run Tryd.prog w = _
  rw [h]
  kernel_rfl
theorem fb86_2 {ρ : Operand → Value} {d : Option Nat} {x : Operand} {ty : TypeId} {pos : String} {af : Array Edge} {gd : Option (Nat × Bool)} {w : World} {b o : Nat} (h : ρ x = .pointer (some ⟨b, o, none⟩)) : (execOp ρ ⟨d, .fieldAddr 86 x 2, ty, pos, af, gd⟩).run Tryd.prog w = .ok (.value (.pointer (some ⟨b, o + 513, none⟩))) w := by
  show (Instr.fieldAt 86 (ρ x) 2 >>= fun v => pure (Next.value v)).run Tryd.prog w = _
  rw [h]
  kernel_rfl
theorem fa86_3 {ρ : Operand → Value} {d : Option Nat} {x : Operand} {ty : TypeId} {pos : String} {af : Array Edge} {gd : Option (Nat × Bool)} {w : World} {b : Nat} (h : ρ x = .pointer (some ⟨b, 0, none⟩)) : (execOp ρ ⟨d, .fieldAddr 86 x 3, ty, pos, af, gd⟩).run Tryd.prog w = .ok (.value (.pointer (some ⟨b, 514, none⟩))) w := by
  show (Instr.fieldAt 86 (ρ x) 3 >>= fun v => pure (Next.value v)).run Tryd.prog w = _
  rw [h]
  kernel_rfl
theorem fb86_3 {ρ : Operand → Value} {d : Option Nat} {x : Operand} {ty : TypeId} {pos : String} {af : Array Edge} {gd : Option (Nat × Bool)} {w : World} {b o : Nat} (h : ρ x = .pointer (some ⟨b, o, none⟩)) : (execOp ρ ⟨d, .fieldAddr 86 x 3, ty, pos, af, gd⟩).run Tryd.prog w = .ok (.value (.pointer (some ⟨b, o + 514, none⟩))) w := by
  show (Instr.fieldAt 86 (ρ x) 3 >>= fun v => pure (Next.value v)).run Tryd.prog w = _
  rw [h]
  kernel_rfl
theorem fa70_0 {ρ : Operand → Value} {d : Option Nat} {x : Operand} {ty : TypeId} {pos : String} {af : Array Edge} {gd : Option (Nat × Bool)} {w : World} {b : Nat} (h : ρ x = .pointer (some ⟨b, 0, none⟩)) : (execOp ρ ⟨d, .fieldAddr 70 x 0, ty, pos, af, gd⟩).run Tryd.prog w = .ok (.value (.pointer (some ⟨b, 0, none⟩))) w := by
  show (Instr.fieldAt 70 (ρ x) 0 >>= fun v => pure (Next.value v)).run Tryd.prog w = _
  rw [h]
  kernel_rfl
theorem fa70_1 {ρ : Operand → Value} {d : Option Nat} {x : Operand} {ty : TypeId} {pos : String} {af : Array Edge} {gd : Option (Nat × Bool)} {w : World} {b : Nat} (h : ρ x = .pointer (some ⟨b, 0, none⟩)) : (execOp ρ ⟨d, .fieldAddr 70 x 1, ty, pos, af, gd⟩).run Tryd.prog w = .ok (.value (.pointer (some ⟨b, 1, none⟩))) w := by
  show (Instr.fieldAt 70 (ρ x) 1 >>= fun v => pure (Next.value v)).run Tryd.prog w = _
  rw [h]
  kernel_rfl
theorem fa70_2 {ρ : Operand → Value} {d : Option Nat} {x : Operand} {ty : TypeId} {pos : String} {af : Array Edge} {gd : Option (Nat × Bool)} {w : World} {b : Nat} (h : ρ x = .pointer (some ⟨b, 0, none⟩)) : (execOp ρ ⟨d, .fieldAddr 70 x 2, ty, pos, af, gd⟩).run Tryd.prog w = .ok (.value (.pointer (some ⟨b, 2, none⟩))) w := by
  show (Instr.fieldAt 70 (ρ x) 2 >>= fun v => pure (Next.value v)).run Tryd.prog w = _
  rw [h]
  kernel_rfl
theorem fa53_0 {ρ : Operand → Value} {d : Option Nat} {x : Operand} {ty : TypeId} {pos : String} {af : Array Edge} {gd : Option (Nat × Bool)} {w : World} {b : Nat} (h : ρ x = .pointer (some ⟨b, 0, none⟩)) : (execOp ρ ⟨d, .fieldAddr 53 x 0, ty, pos, af, gd⟩).run Tryd.prog w = .ok (.value (.pointer (some ⟨b, 0, none⟩))) w := by
  show (Instr.fieldAt 53 (ρ x) 0 >>= fun v => pure (Next.value v)).run Tryd.prog w = _
  rw [h]
  kernel_rfl
theorem fa53_1 {ρ : Operand → Value} {d : Option Nat} {x : Operand} {ty : TypeId} {pos : String} {af : Array Edge} {gd : Option (Nat × Bool)} {w : World} {b : Nat} (h : ρ x = .pointer (some ⟨b, 0, none⟩)) : (execOp ρ ⟨d, .fieldAddr 53 x 1, ty, pos, af, gd⟩).run Tryd.prog w = .ok (.value (.pointer (some ⟨b, 1, none⟩))) w := by
  show (Instr.fieldAt 53 (ρ x) 1 >>= fun v => pure (Next.value v)).run Tryd.prog w = _
  rw [h]
  kernel_rfl
theorem fa53_2 {ρ : Operand → Value} {d : Option Nat} {x : Operand} {ty : TypeId} {pos : String} {af : Array Edge} {gd : Option (Nat × Bool)} {w : World} {b : Nat} (h : ρ x = .pointer (some ⟨b, 0, none⟩)) : (execOp ρ ⟨d, .fieldAddr 53 x 2, ty, pos, af, gd⟩).run Tryd.prog w = .ok (.value (.pointer (some ⟨b, 2, none⟩))) w := by
  show (Instr.fieldAt 53 (ρ x) 2 >>= fun v => pure (Next.value v)).run Tryd.prog w = _
  rw [h]
  kernel_rfl
theorem fa53_3 {ρ : Operand → Value} {d : Option Nat} {x : Operand} {ty : TypeId} {pos : String} {af : Array Edge} {gd : Option (Nat × Bool)} {w : World} {b : Nat} (h : ρ x = .pointer (some ⟨b, 0, none⟩)) : (execOp ρ ⟨d, .fieldAddr 53 x 3, ty, pos, af, gd⟩).run Tryd.prog w = .ok (.value (.pointer (some ⟨b, 3, none⟩))) w := by
  show (Instr.fieldAt 53 (ρ x) 3 >>= fun v => pure (Next.value v)).run Tryd.prog w = _
  rw [h]
  kernel_rfl
theorem fa53_4 {ρ : Operand → Value} {d : Option Nat} {x : Operand} {ty : TypeId} {pos : String} {af : Array Edge} {gd : Option (Nat × Bool)} {w : World} {b : Nat} (h : ρ x = .pointer (some ⟨b, 0, none⟩)) : (execOp ρ ⟨d, .fieldAddr 53 x 4, ty, pos, af, gd⟩).run Tryd.prog w = .ok (.value (.pointer (some ⟨b, 4, none⟩))) w := by
  show (Instr.fieldAt 53 (ρ x) 4 >>= fun v => pure (Next.value v)).run Tryd.prog w = _
  rw [h]
  kernel_rfl
theorem fa53_5 {ρ : Operand → Value} {d : Option Nat} {x : Operand} {ty : TypeId} {pos : String} {af : Array Edge} {gd : Option (Nat × Bool)} {w : World} {b : Nat} (h : ρ x = .pointer (some ⟨b, 0, none⟩)) : (execOp ρ ⟨d, .fieldAddr 53 x 5, ty, pos, af, gd⟩).run Tryd.prog w = .ok (.value (.pointer (some ⟨b, 5, none⟩))) w := by
  show (Instr.fieldAt 53 (ρ x) 5 >>= fun v => pure (Next.value v)).run Tryd.prog w = _
  rw [h]
  kernel_rfl
theorem fa56_0 {ρ : Operand → Value} {d : Option Nat} {x : Operand} {ty : TypeId} {pos : String} {af : Array Edge} {gd : Option (Nat × Bool)} {w : World} {b : Nat} (h : ρ x = .pointer (some ⟨b, 0, none⟩)) : (execOp ρ ⟨d, .fieldAddr 56 x 0, ty, pos, af, gd⟩).run Tryd.prog w = .ok (.value (.pointer (some ⟨b, 0, none⟩))) w := by
  show (Instr.fieldAt 56 (ρ x) 0 >>= fun v => pure (Next.value v)).run Tryd.prog w = _
  rw [h]
  kernel_rfl
theorem fa56_1 {ρ : Operand → Value} {d : Option Nat} {x : Operand} {ty : TypeId} {pos : String} {af : Array Edge} {gd : Option (Nat × Bool)} {w : World} {b : Nat} (h : ρ x = .pointer (some ⟨b, 0, none⟩)) : (execOp ρ ⟨d, .fieldAddr 56 x 1, ty, pos, af, gd⟩).run Tryd.prog w = .ok (.value (.pointer (some ⟨b, 1, none⟩))) w := by
  show (Instr.fieldAt 56 (ρ x) 1 >>= fun v => pure (Next.value v)).run Tryd.prog w = _
  rw [h]
  kernel_rfl
theorem fa56_2 {ρ : Operand → Value} {d : Option Nat} {x : Operand} {ty : TypeId} {pos : String} {af : Array Edge} {gd : Option (Nat × Bool)} {w : World} {b : Nat} (h : ρ x = .pointer (some ⟨b, 0, none⟩)) : (execOp ρ ⟨d, .fieldAddr 56 x 2, ty, pos, af, gd⟩).run Tryd.prog w = .ok (.value (.pointer (some ⟨b, 2, none⟩))) w := by
  show (Instr.fieldAt 56 (ρ x) 2 >>= fun v => pure (Next.value v)).run Tryd.prog w = _
  rw [h]
  kernel_rfl
theorem fa31_0 {ρ : Operand → Value} {d : Option Nat} {x : Operand} {ty : TypeId} {pos : String} {af : Array Edge} {gd : Option (Nat × Bool)} {w : World} {b : Nat} (h : ρ x = .pointer (some ⟨b, 0, none⟩)) : (execOp ρ ⟨d, .fieldAddr 31 x 0, ty, pos, af, gd⟩).run Tryd.prog w = .ok (.value (.pointer (some ⟨b, 0, none⟩))) w := by
  show (Instr.fieldAt 31 (ρ x) 0 >>= fun v => pure (Next.value v)).run Tryd.prog w = _
  rw [h]
  kernel_rfl
theorem fa31_1 {ρ : Operand → Value} {d : Option Nat} {x : Operand} {ty : TypeId} {pos : String} {af : Array Edge} {gd : Option (Nat × Bool)} {w : World} {b : Nat} (h : ρ x = .pointer (some ⟨b, 0, none⟩)) : (execOp ρ ⟨d, .fieldAddr 31 x 1, ty, pos, af, gd⟩).run Tryd.prog w = .ok (.value (.pointer (some ⟨b, 1, none⟩))) w := by
  show (Instr.fieldAt 31 (ρ x) 1 >>= fun v => pure (Next.value v)).run Tryd.prog w = _
  rw [h]
  kernel_rfl
theorem fa31_2 {ρ : Operand → Value} {d : Option Nat} {x : Operand} {ty : TypeId} {pos : String} {af : Array Edge} {gd : Option (Nat × Bool)} {w : World} {b : Nat} (h : ρ x = .pointer (some ⟨b, 0, none⟩)) : (execOp ρ ⟨d, .fieldAddr 31 x 2, ty, pos, af, gd⟩).run Tryd.prog w = .ok (.value (.pointer (some ⟨b, 2, none⟩))) w := by
  show (Instr.fieldAt 31 (ρ x) 2 >>= fun v => pure (Next.value v)).run Tryd.prog w = _
  rw [h]
  kernel_rfl
theorem fa31_3 {ρ : Operand → Value} {d : Option Nat} {x : Operand} {ty : TypeId} {pos : String} {af : Array Edge} {gd : Option (Nat × Bool)} {w : World} {b : Nat} (h : ρ x = .pointer (some ⟨b, 0, none⟩)) : (execOp ρ ⟨d, .fieldAddr 31 x 3, ty, pos, af, gd⟩).run Tryd.prog w = .ok (.value (.pointer (some ⟨b, 3, none⟩))) w := by
  show (Instr.fieldAt 31 (ρ x) 3 >>= fun v => pure (Next.value v)).run Tryd.prog w = _
  rw [h]
  kernel_rfl
theorem fa31_4 {ρ : Operand → Value} {d : Option Nat} {x : Operand} {ty : TypeId} {pos : String} {af : Array Edge} {gd : Option (Nat × Bool)} {w : World} {b : Nat} (h : ρ x = .pointer (some ⟨b, 0, none⟩)) : (execOp ρ ⟨d, .fieldAddr 31 x 4, ty, pos, af, gd⟩).run Tryd.prog w = .ok (.value (.pointer (some ⟨b, 4, none⟩))) w := by
  show (Instr.fieldAt 31 (ρ x) 4 >>= fun v => pure (Next.value v)).run Tryd.prog w = _
  rw [h]
  kernel_rfl
end Go.Proofs.YtejeloeaklpinaaDoor
