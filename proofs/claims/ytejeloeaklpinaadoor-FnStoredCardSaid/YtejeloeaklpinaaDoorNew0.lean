/- What is laid anew: zero blocks, readers, slices. -/
import Derived.Test.YtejeloeaklpinaaDoorRead
import Derived.Laws.OwnMore
namespace Go.Proofs.YtejeloeaklpinaaDoor
/-- The cells of a reader that is all zero. -/
def g95 (k : Nat) : Value :=
  if k = 0 ∨ k = 1048 then .nilIface
  else if k = 1 ∨ k = 1035 ∨ k = 1036 ∨ k = 1050 ∨ k = 1051 then .pointer none
  else if k = 2 ∨ k = 5 ∨ k = 520 ∨ k = 1038 ∨ k = 1039 ∨ k = 1046 ∨ k = 1052 ∨ k = 1053 then .int .i64 0
  else if k = 4 then .int .u64 0
  else if k = 518 ∨ k = 1033 ∨ k = 1037 ∨ k = 1049 then .slice none 0 0
  else if k = 1040 ∨ k = 1047 then .bool false
  else if k = 1045 then .nilFunc
  else if 1041 ≤ k then .int .u8 0
  else .int .u32 0
theorem Bk.newOf (w : World) (C : Array Value) (t : TypeId) (n : Nat) (g : Nat → Value) (h : C.toList = (List.range n).map g) : Bk (w.alloc (.cells C t)) w.heap.size n t g := by
  have hs : C.size = n := by have := congrArg List.length h; simpa using this
  refine ⟨C, heap_alloc_new w _, hs, fun k hk => ?_⟩
  have := congrArg (fun l : List Value => l[k]?) h
  simp only [List.getElem?_map, List.getElem?_range hk, Option.map_some] at this
  simpa using this
section
variable {ops : Array Oper} {Q : Exit → Act → World → Prop} {N : Nat} {L : List (Nat × Value)} {B : Nat → Value} {w : World} {rest : List Oper} {dd : Nat} {ty : TypeId} {pos : String} {af : Array Edge}
theorem Lal95 (K : ∀ X w1, w.heap.size = X → Bk w1 X 1054 95 g95 → Kp [] w w1 → w1.heap.size = X + 1 → wpList Tryd.prog ops Q rest (fr N (fl ((dd, .pointer (some ⟨X, 0, none⟩)) :: L) B)) w1) :
    wpList Tryd.prog ops Q (⟨some dd, .alloc 95, ty, pos, af, none⟩ :: rest) (fr N (fl L B)) w := by
  obtain ⟨Z, hZ, hr⟩ : ∃ Z : Array Value, Z.toList = (List.range 1054).map g95 ∧ ∀ (ρ : Operand → Value) (w : World), (execOp ρ ⟨some dd, .alloc 95, ty, pos, af, none⟩).run Tryd.prog w = .ok (.value (.pointer (some ⟨w.heap.size, 0, none⟩))) (w.alloc (.cells Z 95)) :=
    ⟨(((Tryd.prog.info? 95).bind (·.zero)).map (·.cells)).getD #[], by kernel_rfl, fun ρ w => by kernel_rfl⟩
  exact L1 (hr _ _) (K _ _ rfl (Bk.newOf w Z 95 1054 g95 hZ) ((Kp.refl [] w).alloc _) (by simp))
theorem Lal97 (K : ∀ X w1, w.heap.size = X → Bk w1 X 316 97 (fun _ => .int .i64 0) → Kp [] w w1 → w1.heap.size = X + 1 → wpList Tryd.prog ops Q rest (fr N (fl ((dd, .pointer (some ⟨X, 0, none⟩)) :: L) B)) w1) :
    wpList Tryd.prog ops Q (⟨some dd, .alloc 97, ty, pos, af, none⟩ :: rest) (fr N (fl L B)) w := by
  obtain ⟨Z, hZ, hr⟩ : ∃ Z : Array Value, Z.toList = (List.range 316).map (fun _ => .int .i64 0) ∧ ∀ (ρ : Operand → Value) (w : World), (execOp ρ ⟨some dd, .alloc 97, ty, pos, af, none⟩).run Tryd.prog w = .ok (.value (.pointer (some ⟨w.heap.size, 0, none⟩))) (w.alloc (.cells Z 97)) :=
    ⟨(((Tryd.prog.info? 97).bind (·.zero)).map (·.cells)).getD #[], by kernel_rfl, fun ρ w => by kernel_rfl⟩
  exact L1 (hr _ _) (K _ _ rfl (Bk.newOf w Z 97 316 _ hZ) ((Kp.refl [] w).alloc _) (by simp))
theorem Lal98 (K : ∀ X w1, w.heap.size = X → Bk w1 X 19 98 (fun _ => .int .i64 0) → Kp [] w w1 → w1.heap.size = X + 1 → wpList Tryd.prog ops Q rest (fr N (fl ((dd, .pointer (some ⟨X, 0, none⟩)) :: L) B)) w1) :
    wpList Tryd.prog ops Q (⟨some dd, .alloc 98, ty, pos, af, none⟩ :: rest) (fr N (fl L B)) w := by
  obtain ⟨Z, hZ, hr⟩ : ∃ Z : Array Value, Z.toList = (List.range 19).map (fun _ => .int .i64 0) ∧ ∀ (ρ : Operand → Value) (w : World), (execOp ρ ⟨some dd, .alloc 98, ty, pos, af, none⟩).run Tryd.prog w = .ok (.value (.pointer (some ⟨w.heap.size, 0, none⟩))) (w.alloc (.cells Z 98)) :=
    ⟨(((Tryd.prog.info? 98).bind (·.zero)).map (·.cells)).getD #[], by kernel_rfl, fun ρ w => by kernel_rfl⟩
  exact L1 (hr _ _) (K _ _ rfl (Bk.newOf w Z 98 19 _ hZ) ((Kp.refl [] w).alloc _) (by simp))
end
section
variable {ρ : Operand → Value} {d : Option Nat} {x y z : Operand} {ty : TypeId} {pos : String} {af : Array Edge} {gd : Option (Nat × Bool)} {w : World}
theorem ta80 {a : Addr} (hx : ρ x = .iface 43 (.pointer (some a))) : (execOp ρ ⟨d, .typeAssert x 72 80 true, ty, pos, af, gd⟩).run Tryd.prog w = .ok (.value (.tuple #[.iface 43 (.pointer (some a)), .bool true])) w := by
  show (Instr.typeAssert (ρ x) 72 80 true >>= fun v => pure (Next.value v)).run Tryd.prog w = _
  rw [hx]
  kernel_rfl
theorem bd70 {a : Option Addr} {n c : Nat} {i j : Int} (hx : ρ x = .slice a n c) (hi : ρ y = .int .i64 i) (hj : ρ z = .int .i64 j) :
    (execOp ρ ⟨d, .build 70 #[(0, x), (1, y), (2, z)], ty, pos, af, gd⟩).run Tryd.prog w = .ok (.value (.agg #[.slice a n c, .int .i64 i, .int .i64 j])) w := by
  simp only [execOp, List.map_toArray, List.map_cons, List.map_nil, hx, hi, hj]
  kernel_rfl
theorem bx70 {a : Option Addr} {n c : Nat} {i j : Int} (hx : ρ x = .agg #[.slice a n c, .int .i64 i, .int .i64 j]) :
    (execOp ρ ⟨d, .box 70 x, ty, pos, af, gd⟩).run Tryd.prog w = .ok (.value (.pointer (some ⟨w.heap.size, 0, none⟩))) (w.alloc (.cells #[.slice a n c, .int .i64 i, .int .i64 j] 70)) := by
  show (Instr.box 70 (ρ x) >>= fun v => pure (Next.value v)).run Tryd.prog w = _
  rw [hx]
  kernel_rfl
theorem bd90 {a : Option Addr} {n c : Nat} (hx : ρ x = .slice a n c) :
    (execOp ρ ⟨d, .build 90 #[(0, x)], ty, pos, af, gd⟩).run Tryd.prog w = .ok (.value (.agg #[.slice a n c, .int .i64 0, .int .i64 0, .bool false])) w := by
  simp only [execOp, List.map_toArray, List.map_cons, List.map_nil, hx]
  kernel_rfl
theorem und72_ : True := trivial
end
theorem sz90 (w : World) : (sizeOf 90).run Tryd.prog w = .ok 4 w := by kernel_rfl
section
variable {ops : Array Oper} {Q : Exit → Act → World → Prop} {N : Nat} {f : Nat → Value} {w : World} {rest : List Oper} {x y : Operand} {ty : TypeId} {pos : String} {af : Array Edge} {b k n : Nat} {T : TypeId} {g : Nat → Value} {v0 v1 v2 v3 : Value}
theorem Lst90 (hx : ev N f x = .pointer (some ⟨b, k, none⟩)) (hy : ev N f y = .agg #[v0, v1, v2, v3]) (h1 : v0.oneCell' = true ∧ v1.oneCell' = true ∧ v2.oneCell' = true ∧ v3.oneCell' = true) (hB : Bk w b n T g) (hk : k + 3 < n)
    (K : ∀ w1, Bk w1 b n T (upd (upd (upd (upd g k v0) (k + 1) v1) (k + 2) v2) (k + 3) v3) → Kp [b] w w1 → wpList Tryd.prog ops Q rest (fr N f) w1) : wpList Tryd.prog ops Q (⟨none, .store 90 x y, ty, pos, af, none⟩ :: rest) (fr N f) w := by
  have hst := run_storeCells_cells (P := Tryd.prog) b k [v0, v1, v2, v3] 0 w (fun j hj => by
      rw [Nat.add_zero, hB.cell (k := k + j) (by simp at hj; omega)]; rfl) (fun j _ => hB.frozen _) (fun v hv => by
      simp at hv; rcases hv with rfl | rfl | rfl | rfl
      · exact h1.1
      · exact h1.2.1
      · exact h1.2.2.1
      · exact h1.2.2.2)
  refine L0 (w' := w.setCells b k [v0, v1, v2, v3]) ?_ (K _ ((hB.setCells [v0, v1, v2, v3] k).congr fun j _ => ?_) (Kp.setCells (by simp) _ _ (Kp.refl [b] w)))
  · simp [execOp, hx, hy, Instr.storeAt, Instr.sureAddr, storeVar, sz90, Value.cells, hst]
  · simp only [List.length_cons, List.length_nil]
    by_cases h : k ≤ j ∧ j < k + (0 + 1 + 1 + 1 + 1)
    · rw [if_pos h]
      have : j = k ∨ j = k + 1 ∨ j = k + 2 ∨ j = k + 3 := by omega
      rcases this with rfl | rfl | rfl | rfl
      · simp [upd]
      · simp [upd]
      · simp [upd]
      · simp [upd]
    · rw [if_neg h, upd_ne _ _ _ _ (by omega), upd_ne _ _ _ _ (by omega), upd_ne _ _ _ _ (by omega), upd_ne _ _ _ _ (by omega)]
end
end Go.Proofs.YtejeloeaklpinaaDoor
