/- More runs of single operations: slices, lengths, indexes, conversions, errors compared. -/
import Derived.Test.YtejeloeaklpinaaDoorMod
import Derived.LaidEql
import Derived.WideLaws
namespace Go.Proofs.YtejeloeaklpinaaDoor
section
variable {ρ : Operand → Value} {d : Option Nat} {x y z : Operand} {ty : TypeId} {pos : String} {af : Array Edge} {gd : Option (Nat × Bool)} {w : World}

theorem und22 : Tryd.prog.underlying 22 = some (.slice 5) := by kernel_rfl
theorem und24 : Tryd.prog.underlying 24 = some (.slice 3) := by kernel_rfl
theorem und84 : Tryd.prog.underlying 84 = some (.slice 130) := by kernel_rfl
theorem und130 : Tryd.prog.underlying 130 = some (.slice 82) := by kernel_rfl
theorem und36 : Tryd.prog.underlying 36 = some (.slice 22) := by kernel_rfl
theorem und23 : Tryd.prog.underlying 23 = some (.slice 25) := by kernel_rfl
theorem und62 : Tryd.prog.underlying 62 = some (.interface #[("Error", 134)]) := by kernel_rfl
theorem und131 : Tryd.prog.underlying 131 = some (.pointer 150) := by kernel_rfl

/-- len and cap of a slice. -/
theorem ln {t e : TypeId} {a : Option Addr} {n c : Nat} (ht : Tryd.prog.underlying t = some (.slice e)) (hx : ρ x = .slice a n c) :
    (execOp ρ ⟨d, .call ⟨.builtin .len, #[x], #[t]⟩, ty, pos, af, gd⟩).run Tryd.prog w = .ok (.value (.int .i64 n)) w := by
  simp [execOp, resolve, invoke, builtin, hx, Builtin.len_, run_underlying ht, goInt]
theorem cp {t e : TypeId} {a : Option Addr} {n c : Nat} (ht : Tryd.prog.underlying t = some (.slice e)) (hx : ρ x = .slice a n c) :
    (execOp ρ ⟨d, .call ⟨.builtin .cap, #[x], #[t]⟩, ty, pos, af, gd⟩).run Tryd.prog w = .ok (.value (.int .i64 c)) w := by
  simp [execOp, resolve, invoke, builtin, hx, Builtin.cap_, run_underlying ht, goInt]
/-- The address of an element of a slice. -/
theorem ix {t e : TypeId} {b o n c j : Nat} {k : IntKind} {i : Int} (ht : Tryd.prog.underlying t = some (.slice e)) (he : ∀ w, (sizeOf e).run Tryd.prog w = .ok 1 w) (hx : ρ x = .slice (some ⟨b, o, none⟩) n c) (hy : ρ y = .int k i) (hi : i = (j : Int)) (hj : j < n) :
    (execOp ρ ⟨d, .indexAddr t x y, ty, pos, af, gd⟩).run Tryd.prog w = .ok (.value (.pointer (some ⟨b, o + j, none⟩))) w := by
  subst hi
  have h0 : (0 : Int) ≤ (j : Int) ∧ (j : Int) < (n : Int) := by omega
  simp [execOp, hx, hy, Instr.indexAt, asIntOf, run_underlying ht, h0, he, Addr.add_lit]
  intro h; omega
theorem ix0 {t e : TypeId} {b n c j : Nat} {k : IntKind} {i : Int} (ht : Tryd.prog.underlying t = some (.slice e)) (he : ∀ w, (sizeOf e).run Tryd.prog w = .ok 1 w) (hx : ρ x = .slice (some ⟨b, 0, none⟩) n c) (hy : ρ y = .int k i) (hi : i = (j : Int)) (hj : j < n) :
    (execOp ρ ⟨d, .indexAddr t x y, ty, pos, af, gd⟩).run Tryd.prog w = .ok (.value (.pointer (some ⟨b, j, none⟩))) w := by
  have := ix (d := d) (ty := ty) (pos := pos) (af := af) (gd := gd) (w := w) ht he hx hy hi hj
  simpa using this
/-- The address of an element of an array behind a pointer. -/
theorem ixA {t e : TypeId} {b o m j : Nat} {k : IntKind} {i : Int} (ht : Tryd.prog.underlying t = some (.array m e)) (he : ∀ w, (sizeOf e).run Tryd.prog w = .ok 1 w) (hx : ρ x = .pointer (some ⟨b, o, none⟩)) (hy : ρ y = .int k i) (hi : i = (j : Int)) (hj : j < m) :
    (execOp ρ ⟨d, .indexAddr t x y, ty, pos, af, gd⟩).run Tryd.prog w = .ok (.value (.pointer (some ⟨b, o + j, none⟩))) w := by
  subst hi
  have h0 : (0 : Int) ≤ (j : Int) ∧ (j : Int) < (m : Int) := by omega
  simp [execOp, hx, hy, Instr.indexAt, Instr.sureAddr, asIntOf, run_underlying ht, h0, he, Addr.add_lit]
  intro h; omega
/-- An error held against nil. -/
theorem en_nil (hx : ρ x = .nilIface) (hy : ρ (.const .nilIface) = .nilIface) : (execOp ρ ⟨d, .binOp .neq 62 x (.const .nilIface) 62, ty, pos, af, gd⟩).run Tryd.prog w = .ok (.value (.bool false)) w := by
  have hg : eqGuard .neq 62 x (.const .nilIface) .nilIface .nilIface = pure () := by
    unfold eqGuard; simp
  have he : (Op.equal 62 .nilIface .nilIface).run Tryd.prog w = .ok true w := by kernel_rfl
  simp [execOp, hx, hy, hg, binOp, he]
theorem en_held {u : TypeId} {v : Value} (hx : ρ x = .iface u v) (hy : ρ y = .nilIface) : (execOp ρ ⟨d, .binOp .neq 62 x y 62, ty, pos, af, gd⟩).run Tryd.prog w = .ok (.value (.bool true)) w := by
  have hg : eqGuard .neq 62 x y (.iface u v) .nilIface = pure () := by
    unfold eqGuard; rfl
  have he : (Op.equal 62 (.iface u v) .nilIface).run Tryd.prog w = .ok false w := by kernel_rfl
  simp [execOp, hx, hy, hg, binOp, he]
/-- Two errors compared. -/
theorem ee_run {u u' : TypeId} {v v' : Value} {r : Bool} (hx : ρ x = .iface u v) (hy : ρ y = .iface u' v') (hr : (binOp .eql 62 (.iface u v) (.iface u' v')).run Tryd.prog w = .ok (.bool r) w) :
    (execOp ρ ⟨d, .binOp .eql 62 x y 62, ty, pos, af, gd⟩).run Tryd.prog w = .ok (.value (.bool r)) w := by
  have hg : eqGuard .eql 62 x y (.iface u v) (.iface u' v') = pure () := by
    unfold eqGuard; rfl
  simp [execOp, hx, hy, hg, hr]
theorem inf131 : ∃ i, Tryd.prog.info? 131 = some i ∧ i.comparable = true := by
  have h : (Tryd.prog.info? 131).map (·.comparable) = some true := by kernel_rfl
  cases hi : Tryd.prog.info? 131 with
  | none => rw [hi] at h; cases h
  | some i => rw [hi] at h; exact ⟨i, rfl, by simpa using h⟩
theorem inf150 : ∃ i, Tryd.prog.info? 150 = some i ∧ i.size ≠ 0 := by
  have h : (Tryd.prog.info? 150).map (·.size) = some 1 := by kernel_rfl
  cases hi : Tryd.prog.info? 150 with
  | none => rw [hi] at h; cases h
  | some i => rw [hi] at h; exact ⟨i, rfl, by simp at h; omega⟩
theorem eq_same (a : Addr) : (binOp .eql 62 (.iface 131 (.pointer (some a))) (.iface 131 (.pointer (some a)))).run Tryd.prog w = .ok (.bool true) w := by
  obtain ⟨i, hi, hc⟩ := inf131
  obtain ⟨j, hj, _⟩ := inf150
  exact run_eql_iface_ptr_same w a und62 und131 hi hc hj
theorem eq_other {a b : Addr} (hne : a ≠ b) (ha : ∃ c t, w.heap[a.block]? = some (.cells c t (0, 0))) (hb : ∃ c t, w.heap[b.block]? = some (.cells c t (0, 0))) :
    (binOp .eql 62 (.iface 131 (.pointer (some a))) (.iface 131 (.pointer (some b)))).run Tryd.prog w = .ok (.bool false) w := by
  obtain ⟨i, hi, hc⟩ := inf131
  obtain ⟨j, hj, hs⟩ := inf150
  obtain ⟨c, t, ha⟩ := ha
  obtain ⟨c', t', hb⟩ := hb
  exact run_eql_iface_ptr_other w und62 und131 hi hc hj hs hne ha hb
theorem eq_int (n : Int) (a : Addr) : (binOp .eql 62 (.iface 107 (.int .i64 n)) (.iface 131 (.pointer (some a)))).run Tryd.prog w = .ok (.bool false) w := by
  kernel_rfl
end

theorem mixed : Tryd.prog.follows .mixedOrders = true := by kernel_rfl
section
variable {ops : Array Oper} {Q : Exit → Act → World → Prop} {N : Nat} {f : Nat → Value} {w : World} {rest : List Oper} {x y : Operand} {ty : TypeId} {pos : String} {af : Array Edge} {v : Value} {b k n : Nat} {T : TypeId} {g : Nat → Value}
/-- A store into a block that is known. -/
theorem Lst_any (t : TypeId) (ht : ∀ w, (sizeOf t).run Tryd.prog w = .ok 1 w) (hx : ev N f x = .pointer (some ⟨b, k, none⟩)) (hy : ev N f y = v) (h1 : v.oneCell' = true) (hB : Bk w b n T g) (hk : k < n)
    (K : ∀ w1, Bk w1 b n T (upd g k v) → Kp [b] w w1 → wpList Tryd.prog ops Q rest (fr N f) w1) : wpList Tryd.prog ops Q (⟨none, .store t x y, ty, pos, af, none⟩ :: rest) (fr N f) w :=
  L0 (st_any t (ht w) hx hy h1 (hB.cell hk) (hB.frozen _)) (K _ (hB.set k v) ((Kp.refl [b] w).setCell (by simp) v))
theorem Lst2 (hx : ev N f x = .pointer (some ⟨b, k, none⟩)) (hy : ev N f y = v) (h1 : v.oneCell' = true) (hB : Bk w b n T g) (hk : k < n) (K : ∀ w1, Bk w1 b n T (upd g k v) → Kp [b] w w1 → wpList Tryd.prog ops Q rest (fr N f) w1) : wpList Tryd.prog ops Q (⟨none, .store 2 x y, ty, pos, af, none⟩ :: rest) (fr N f) w := Lst_any 2 sz2 hx hy h1 hB hk K
theorem Lst3 (hx : ev N f x = .pointer (some ⟨b, k, none⟩)) (hy : ev N f y = v) (h1 : v.oneCell' = true) (hB : Bk w b n T g) (hk : k < n) (K : ∀ w1, Bk w1 b n T (upd g k v) → Kp [b] w w1 → wpList Tryd.prog ops Q rest (fr N f) w1) : wpList Tryd.prog ops Q (⟨none, .store 3 x y, ty, pos, af, none⟩ :: rest) (fr N f) w := Lst_any 3 sz3 hx hy h1 hB hk K
theorem Lst4 (hx : ev N f x = .pointer (some ⟨b, k, none⟩)) (hy : ev N f y = v) (h1 : v.oneCell' = true) (hB : Bk w b n T g) (hk : k < n) (K : ∀ w1, Bk w1 b n T (upd g k v) → Kp [b] w w1 → wpList Tryd.prog ops Q rest (fr N f) w1) : wpList Tryd.prog ops Q (⟨none, .store 4 x y, ty, pos, af, none⟩ :: rest) (fr N f) w := Lst_any 4 sz4 hx hy h1 hB hk K
theorem Lst5 (hx : ev N f x = .pointer (some ⟨b, k, none⟩)) (hy : ev N f y = v) (h1 : v.oneCell' = true) (hB : Bk w b n T g) (hk : k < n) (K : ∀ w1, Bk w1 b n T (upd g k v) → Kp [b] w w1 → wpList Tryd.prog ops Q rest (fr N f) w1) : wpList Tryd.prog ops Q (⟨none, .store 5 x y, ty, pos, af, none⟩ :: rest) (fr N f) w := Lst_any 5 sz5 hx hy h1 hB hk K
theorem Lst22 (hx : ev N f x = .pointer (some ⟨b, k, none⟩)) (hy : ev N f y = v) (h1 : v.oneCell' = true) (hB : Bk w b n T g) (hk : k < n) (K : ∀ w1, Bk w1 b n T (upd g k v) → Kp [b] w w1 → wpList Tryd.prog ops Q rest (fr N f) w1) : wpList Tryd.prog ops Q (⟨none, .store 22 x y, ty, pos, af, none⟩ :: rest) (fr N f) w := Lst_any 22 sz22 hx hy h1 hB hk K
theorem Lst24 (hx : ev N f x = .pointer (some ⟨b, k, none⟩)) (hy : ev N f y = v) (h1 : v.oneCell' = true) (hB : Bk w b n T g) (hk : k < n) (K : ∀ w1, Bk w1 b n T (upd g k v) → Kp [b] w w1 → wpList Tryd.prog ops Q rest (fr N f) w1) : wpList Tryd.prog ops Q (⟨none, .store 24 x y, ty, pos, af, none⟩ :: rest) (fr N f) w := Lst_any 24 sz24 hx hy h1 hB hk K
theorem Lst38 (hx : ev N f x = .pointer (some ⟨b, k, none⟩)) (hy : ev N f y = v) (h1 : v.oneCell' = true) (hB : Bk w b n T g) (hk : k < n) (K : ∀ w1, Bk w1 b n T (upd g k v) → Kp [b] w w1 → wpList Tryd.prog ops Q rest (fr N f) w1) : wpList Tryd.prog ops Q (⟨none, .store 38 x y, ty, pos, af, none⟩ :: rest) (fr N f) w := Lst_any 38 sz38 hx hy h1 hB hk K
theorem Lst62 (hx : ev N f x = .pointer (some ⟨b, k, none⟩)) (hy : ev N f y = v) (h1 : v.oneCell' = true) (hB : Bk w b n T g) (hk : k < n) (K : ∀ w1, Bk w1 b n T (upd g k v) → Kp [b] w w1 → wpList Tryd.prog ops Q rest (fr N f) w1) : wpList Tryd.prog ops Q (⟨none, .store 62 x y, ty, pos, af, none⟩ :: rest) (fr N f) w := Lst_any 62 sz62 hx hy h1 hB hk K
theorem Lst80 (hx : ev N f x = .pointer (some ⟨b, k, none⟩)) (hy : ev N f y = v) (h1 : v.oneCell' = true) (hB : Bk w b n T g) (hk : k < n) (K : ∀ w1, Bk w1 b n T (upd g k v) → Kp [b] w w1 → wpList Tryd.prog ops Q rest (fr N f) w1) : wpList Tryd.prog ops Q (⟨none, .store 80 x y, ty, pos, af, none⟩ :: rest) (fr N f) w := Lst_any 80 sz80 hx hy h1 hB hk K
theorem Lst81 (hx : ev N f x = .pointer (some ⟨b, k, none⟩)) (hy : ev N f y = v) (h1 : v.oneCell' = true) (hB : Bk w b n T g) (hk : k < n) (K : ∀ w1, Bk w1 b n T (upd g k v) → Kp [b] w w1 → wpList Tryd.prog ops Q rest (fr N f) w1) : wpList Tryd.prog ops Q (⟨none, .store 81 x y, ty, pos, af, none⟩ :: rest) (fr N f) w := Lst_any 81 sz81 hx hy h1 hB hk K
theorem Lst82 (hx : ev N f x = .pointer (some ⟨b, k, none⟩)) (hy : ev N f y = v) (h1 : v.oneCell' = true) (hB : Bk w b n T g) (hk : k < n) (K : ∀ w1, Bk w1 b n T (upd g k v) → Kp [b] w w1 → wpList Tryd.prog ops Q rest (fr N f) w1) : wpList Tryd.prog ops Q (⟨none, .store 82 x y, ty, pos, af, none⟩ :: rest) (fr N f) w := Lst_any 82 sz82 hx hy h1 hB hk K
theorem Lst84 (hx : ev N f x = .pointer (some ⟨b, k, none⟩)) (hy : ev N f y = v) (h1 : v.oneCell' = true) (hB : Bk w b n T g) (hk : k < n) (K : ∀ w1, Bk w1 b n T (upd g k v) → Kp [b] w w1 → wpList Tryd.prog ops Q rest (fr N f) w1) : wpList Tryd.prog ops Q (⟨none, .store 84 x y, ty, pos, af, none⟩ :: rest) (fr N f) w := Lst_any 84 sz84 hx hy h1 hB hk K
theorem Lst87 (hx : ev N f x = .pointer (some ⟨b, k, none⟩)) (hy : ev N f y = v) (h1 : v.oneCell' = true) (hB : Bk w b n T g) (hk : k < n) (K : ∀ w1, Bk w1 b n T (upd g k v) → Kp [b] w w1 → wpList Tryd.prog ops Q rest (fr N f) w1) : wpList Tryd.prog ops Q (⟨none, .store 87 x y, ty, pos, af, none⟩ :: rest) (fr N f) w := Lst_any 87 sz87 hx hy h1 hB hk K
theorem Lst88 (hx : ev N f x = .pointer (some ⟨b, k, none⟩)) (hy : ev N f y = v) (h1 : v.oneCell' = true) (hB : Bk w b n T g) (hk : k < n) (K : ∀ w1, Bk w1 b n T (upd g k v) → Kp [b] w w1 → wpList Tryd.prog ops Q rest (fr N f) w1) : wpList Tryd.prog ops Q (⟨none, .store 88 x y, ty, pos, af, none⟩ :: rest) (fr N f) w := Lst_any 88 sz88 hx hy h1 hB hk K
theorem Lst92 (hx : ev N f x = .pointer (some ⟨b, k, none⟩)) (hy : ev N f y = v) (h1 : v.oneCell' = true) (hB : Bk w b n T g) (hk : k < n) (K : ∀ w1, Bk w1 b n T (upd g k v) → Kp [b] w w1 → wpList Tryd.prog ops Q rest (fr N f) w1) : wpList Tryd.prog ops Q (⟨none, .store 92 x y, ty, pos, af, none⟩ :: rest) (fr N f) w := Lst_any 92 sz92 hx hy h1 hB hk K
theorem Lst93 (hx : ev N f x = .pointer (some ⟨b, k, none⟩)) (hy : ev N f y = v) (h1 : v.oneCell' = true) (hB : Bk w b n T g) (hk : k < n) (K : ∀ w1, Bk w1 b n T (upd g k v) → Kp [b] w w1 → wpList Tryd.prog ops Q rest (fr N f) w1) : wpList Tryd.prog ops Q (⟨none, .store 93 x y, ty, pos, af, none⟩ :: rest) (fr N f) w := Lst_any 93 sz93 hx hy h1 hB hk K
theorem Lst130 (hx : ev N f x = .pointer (some ⟨b, k, none⟩)) (hy : ev N f y = v) (h1 : v.oneCell' = true) (hB : Bk w b n T g) (hk : k < n) (K : ∀ w1, Bk w1 b n T (upd g k v) → Kp [b] w w1 → wpList Tryd.prog ops Q rest (fr N f) w1) : wpList Tryd.prog ops Q (⟨none, .store 130 x y, ty, pos, af, none⟩ :: rest) (fr N f) w := Lst_any 130 sz130 hx hy h1 hB hk K
end
section
variable {ρ : Operand → Value} {d : Option Nat} {x y : Operand} {ty : TypeId} {pos : String} {af : Array Edge} {gd : Option (Nat × Bool)} {w : World} {v : Value} {a : Int}
theorem mkI107 (hx : ρ x = v) : (execOp ρ ⟨d, .makeInterface 107 x, ty, pos, af, gd⟩).run Tryd.prog w = .ok (.value (.iface 107 v)) w := mkI (t := 107) (fun w => by kernel_rfl) hx
theorem mkI43 (hx : ρ x = v) : (execOp ρ ⟨d, .makeInterface 43 x, ty, pos, af, gd⟩).run Tryd.prog w = .ok (.value (.iface 43 v)) w := mkI (t := 43) (fun w => by kernel_rfl) hx
theorem mkI81 (hx : ρ x = v) : (execOp ρ ⟨d, .makeInterface 81 x, ty, pos, af, gd⟩).run Tryd.prog w = .ok (.value (.iface 81 v)) w := mkI (t := 81) (fun w => by kernel_rfl) hx
theorem mkI99 (hx : ρ x = v) : (execOp ρ ⟨d, .makeInterface 99 x, ty, pos, af, gd⟩).run Tryd.prog w = .ok (.value (.iface 99 v)) w := mkI (t := 99) (fun w => by kernel_rfl) hx
theorem cv3_38 {c : Int} (hx : ρ x = .int .i64 a) (hc : IntKind.u64.wrap a = c) : (execOp ρ ⟨d, .convert 3 38 x, ty, pos, af, gd⟩).run Tryd.prog w = .ok (.value (.int .u64 c)) w := by
  subst hc
  exact cv (s := 3) (t := 38) (fun w => by kernel_rfl) hx
theorem cv82_3 {c : Int} (hx : ρ x = .int .u32 a) (hc : IntKind.i64.wrap a = c) : (execOp ρ ⟨d, .convert 82 3 x, ty, pos, af, gd⟩).run Tryd.prog w = .ok (.value (.int .i64 c)) w := by
  subst hc
  exact cv (s := 82) (t := 3) (fun w => by kernel_rfl) hx
theorem cv3_5 {c : Int} (hx : ρ x = .int .i64 a) (hc : IntKind.u8.wrap a = c) : (execOp ρ ⟨d, .convert 3 5 x, ty, pos, af, gd⟩).run Tryd.prog w = .ok (.value (.int .u8 c)) w := by
  subst hc
  exact cv (s := 3) (t := 5) (fun w => by kernel_rfl) hx
theorem cv5_3 {c : Int} (hx : ρ x = .int .u8 a) (hc : IntKind.i64.wrap a = c) : (execOp ρ ⟨d, .convert 5 3 x, ty, pos, af, gd⟩).run Tryd.prog w = .ok (.value (.int .i64 c)) w := by
  subst hc
  exact cv (s := 5) (t := 3) (fun w => by kernel_rfl) hx
theorem cv82_38 {c : Int} (hx : ρ x = .int .u32 a) (hc : IntKind.u64.wrap a = c) : (execOp ρ ⟨d, .convert 82 38 x, ty, pos, af, gd⟩).run Tryd.prog w = .ok (.value (.int .u64 c)) w := by
  subst hc
  exact cv (s := 82) (t := 38) (fun w => by kernel_rfl) hx
theorem cv5_82 {c : Int} (hx : ρ x = .int .u8 a) (hc : IntKind.u32.wrap a = c) : (execOp ρ ⟨d, .convert 5 82 x, ty, pos, af, gd⟩).run Tryd.prog w = .ok (.value (.int .u32 c)) w := by
  subst hc
  exact cv (s := 5) (t := 82) (fun w => by kernel_rfl) hx
theorem cv5_37 {c : Int} (hx : ρ x = .int .u8 a) (hc : IntKind.u16.wrap a = c) : (execOp ρ ⟨d, .convert 5 37 x, ty, pos, af, gd⟩).run Tryd.prog w = .ok (.value (.int .u16 c)) w := by
  subst hc
  exact cv (s := 5) (t := 37) (fun w => by kernel_rfl) hx
theorem cv37_5 {c : Int} (hx : ρ x = .int .u16 a) (hc : IntKind.u8.wrap a = c) : (execOp ρ ⟨d, .convert 37 5 x, ty, pos, af, gd⟩).run Tryd.prog w = .ok (.value (.int .u8 c)) w := by
  subst hc
  exact cv (s := 37) (t := 5) (fun w => by kernel_rfl) hx
theorem cv37_3 {c : Int} (hx : ρ x = .int .u16 a) (hc : IntKind.i64.wrap a = c) : (execOp ρ ⟨d, .convert 37 3 x, ty, pos, af, gd⟩).run Tryd.prog w = .ok (.value (.int .i64 c)) w := by
  subst hc
  exact cv (s := 37) (t := 3) (fun w => by kernel_rfl) hx
theorem cv3_82 {c : Int} (hx : ρ x = .int .i64 a) (hc : IntKind.u32.wrap a = c) : (execOp ρ ⟨d, .convert 3 82 x, ty, pos, af, gd⟩).run Tryd.prog w = .ok (.value (.int .u32 c)) w := by
  subst hc
  exact cv (s := 3) (t := 82) (fun w => by kernel_rfl) hx
theorem cv3_37 {c : Int} (hx : ρ x = .int .i64 a) (hc : IntKind.u16.wrap a = c) : (execOp ρ ⟨d, .convert 3 37 x, ty, pos, af, gd⟩).run Tryd.prog w = .ok (.value (.int .u16 c)) w := by
  subst hc
  exact cv (s := 3) (t := 37) (fun w => by kernel_rfl) hx
theorem cv25_3 {c : Int} (hx : ρ x = .int .i16 a) (hc : IntKind.i64.wrap a = c) : (execOp ρ ⟨d, .convert 25 3 x, ty, pos, af, gd⟩).run Tryd.prog w = .ok (.value (.int .i64 c)) w := by
  subst hc
  exact cv (s := 25) (t := 3) (fun w => by kernel_rfl) hx
theorem cv3_2 {c : Int} (hx : ρ x = .int .i64 a) (hc : IntKind.i64.wrap a = c) : (execOp ρ ⟨d, .convert 3 2 x, ty, pos, af, gd⟩).run Tryd.prog w = .ok (.value (.int .i64 c)) w := by
  subst hc
  exact cv (s := 3) (t := 2) (fun w => by kernel_rfl) hx
theorem cv2_3 {c : Int} (hx : ρ x = .int .i64 a) (hc : IntKind.i64.wrap a = c) : (execOp ρ ⟨d, .convert 2 3 x, ty, pos, af, gd⟩).run Tryd.prog w = .ok (.value (.int .i64 c)) w := by
  subst hc
  exact cv (s := 2) (t := 3) (fun w => by kernel_rfl) hx
theorem cv38_3 {c : Int} (hx : ρ x = .int .u64 a) (hc : IntKind.i64.wrap a = c) : (execOp ρ ⟨d, .convert 38 3 x, ty, pos, af, gd⟩).run Tryd.prog w = .ok (.value (.int .i64 c)) w := by
  subst hc
  exact cv (s := 38) (t := 3) (fun w => by kernel_rfl) hx
end
section
variable {ρ : Operand → Value} {d : Option Nat} {x : Operand} {ty : TypeId} {pos : String} {af : Array Edge} {gd : Option (Nat × Bool)} {w : World} {v0 v1 v2 : Value}
theorem ext2_0 (hx : ρ x = .tuple #[v0, v1]) : (execOp ρ ⟨d, .extract x 0, ty, pos, af, gd⟩).run Tryd.prog w = .ok (.value v0) w := ext hx rfl
theorem ext2_1 (hx : ρ x = .tuple #[v0, v1]) : (execOp ρ ⟨d, .extract x 1, ty, pos, af, gd⟩).run Tryd.prog w = .ok (.value v1) w := ext hx rfl
theorem ext3_0 (hx : ρ x = .tuple #[v0, v1, v2]) : (execOp ρ ⟨d, .extract x 0, ty, pos, af, gd⟩).run Tryd.prog w = .ok (.value v0) w := ext hx rfl
theorem ext3_1 (hx : ρ x = .tuple #[v0, v1, v2]) : (execOp ρ ⟨d, .extract x 1, ty, pos, af, gd⟩).run Tryd.prog w = .ok (.value v1) w := ext hx rfl
theorem ext3_2 (hx : ρ x = .tuple #[v0, v1, v2]) : (execOp ρ ⟨d, .extract x 2, ty, pos, af, gd⟩).run Tryd.prog w = .ok (.value v2) w := ext hx rfl
end
end Go.Proofs.YtejeloeaklpinaaDoor
