/- The runs of single operations: moves, loads, stores, integers, slices, calls. The lines on single types are made by a small program (gen_ops.py). -/
import Derived.Test.YtejeloeaklpinaaDoorFields
namespace Go.Proofs.YtejeloeaklpinaaDoor
section
variable {ρ : Operand → Value} {d : Option Nat} {x y z : Operand} {ty : TypeId} {pos : String} {af : Array Edge} {gd : Option (Nat × Bool)} {w : World}

theorem mv {v : Value} (h : ρ x = v) : (execOp ρ ⟨d, .move x, ty, pos, af, gd⟩).run Tryd.prog w = .ok (.value v) w := by subst h; rfl
theorem asg {v : Value} (h : ρ x = v) : (execOp ρ ⟨d, .assign x, ty, pos, af, gd⟩).run Tryd.prog w = .ok (.value v) w := by subst h; rfl
theorem nilP {a : Addr} (h : ρ x = .pointer (some a)) : (execOp ρ ⟨d, .nilCheck x, ty, pos, af, gd⟩).run Tryd.prog w = .ok (.value (.pointer (some a))) w := by
  simp only [execOp, h]; rfl
theorem pick {b : Bool} {u v : Value} (hx : ρ x = .bool b) (hy : ρ y = u) (hz : ρ z = v) : (execOp ρ ⟨d, .pick x y z, ty, pos, af, gd⟩).run Tryd.prog w = .ok (.value (if b then u else v)) w := by
  simp only [execOp, hx, hy, hz, asBool]; cases b <;> rfl
theorem ext {vs : Array Value} {i : Nat} {v : Value} (hx : ρ x = .tuple vs) (hv : vs[i]? = some v) : (execOp ρ ⟨d, .extract x i, ty, pos, af, gd⟩).run Tryd.prog w = .ok (.value v) w := by
  simp only [execOp, hx, Instr.extract, hv]; rfl
theorem ld_any (t : TypeId) {a : Addr} {v : Value} (ht : (isAgg t).run Tryd.prog w = .ok false w) (hx : ρ x = .pointer (some a)) (hc : w.cell? a = some v) :
    (execOp ρ ⟨d, .load t x, ty, pos, af, gd⟩).run Tryd.prog w = .ok (.value v) w := by
  simp [execOp, hx, Instr.loadAt, Instr.sureAddr, loadVar, ht, hc]
theorem cells_one {v : Value} (h : v.oneCell' = true) : v.cells = #[v] := by
  cases v <;> simp_all [Value.cells, Value.oneCell']
theorem st_any (t : TypeId) {a : Addr} {v u : Value} (ht : (sizeOf t).run Tryd.prog w = .ok 1 w) (hx : ρ x = .pointer (some a)) (hy : ρ y = v) (h1 : v.oneCell' = true) (hc : w.cell? a = some u) (hz : w.frozen? a = false) :
    (execOp ρ ⟨d, .store t x y, ty, pos, af, gd⟩).run Tryd.prog w = .ok .skip (w.setCell a v) := by
  have hs := run_store Tryd.prog w a v .plain h1
  have ha : a.add 0 = a := by simp [Addr.add]
  simp [execOp, hx, hy, Instr.storeAt, Instr.sureAddr, storeVar, ht, cells_one h1, storeCells, ha, hs, hc, hz]

/-- An operator on two integers. -/
theorem bi {op : BinOp} {xt yt : TypeId} {k k' : IntKind} {a b : Int} {v : Value} (hx : ρ x = .int k a) (hy : ρ y = .int k' b) (hb : binOp op xt (.int k a) (.int k' b) = pure v) :
    (execOp ρ ⟨d, .binOp op xt x y yt, ty, pos, af, gd⟩).run Tryd.prog w = .ok (.value v) w := by
  have he : eqGuard op xt x y (.int k a) (.int k' b) = pure () := by
    unfold eqGuard; cases op <;> rfl
  simp only [execOp, hx, hy, he, hb]
  rfl
theorem cv {s t : TypeId} {k k' : IntKind} {a : Int} (ht : ∀ w, (convert s t (.int k a)).run Tryd.prog w = .ok (.int k' (k'.wrap a)) w) (hx : ρ x = .int k a) :
    (execOp ρ ⟨d, .convert s t x, ty, pos, af, gd⟩).run Tryd.prog w = .ok (.value (.int k' (k'.wrap a))) w := by
  simp [execOp, hx, ht]
theorem un_not {t : TypeId} {b : Bool} (hx : ρ x = .bool b) : (execOp ρ ⟨d, .unOp .not t x, ty, pos, af, gd⟩).run Tryd.prog w = .ok (.value (.bool !b)) w := by
  simp only [execOp, hx, Op.unary]; rfl
theorem mkI {t : TypeId} {v : Value} (ht : ∀ w, (Instr.makeInterface t v).run Tryd.prog w = .ok (.iface t v) w) (hx : ρ x = v) :
    (execOp ρ ⟨d, .makeInterface t x, ty, pos, af, gd⟩).run Tryd.prog w = .ok (.value (.iface t v)) w := by
  simp [execOp, hx, ht]
/-- A function of the program that has a body. -/
structure Has (g : FuncId) (fn : Func) : Prop where
  func : Tryd.prog.funcs[g]? = some fn
  body : fn.body.isNone = false
  name : (fn.name == "runtime.NumGoroutine") = false
theorem cl {N : Nat} {f : Nat → Value} {g : FuncId} {fn : Func} (H : Has g fn) {k : Operand} {os : List Operand} {ts : Array TypeId} {vs : List Value} (hk : ev N f k = .func (.func g) #[] #[]) (hv : os.map (ev N f) = vs) :
    (execOp (ev N f) ⟨d, .call ⟨.value k, os.toArray, ts⟩, ty, pos, af, gd⟩).run Tryd.prog w = .ok (.enter g vs.toArray) w := by
  subst hv
  have h3 : ¬ fn.name = "runtime.NumGoroutine" := by simpa using H.name
  have h4 : ¬ fn.body = none := by intro he; have := H.body; rw [he] at this; cases this
  simp [execOp, resolve, hk, Deferred.ofValue, invoke, callFunc, H.func, h4, h3]
theorem cl0 {N : Nat} {f : Nat → Value} {g : FuncId} {fn : Func} (H : Has g fn) {k : Operand} {ts : Array TypeId} (hk : ev N f k = .func (.func g) #[] #[]) :
    (execOp (ev N f) ⟨d, .call ⟨.value k, #[], ts⟩, ty, pos, af, gd⟩).run Tryd.prog w = .ok (.enter g #[]) w := cl H (os := []) (vs := []) hk rfl
theorem cl1 {N : Nat} {f : Nat → Value} {g : FuncId} {fn : Func} (H : Has g fn) {k o1 : Operand} {ts : Array TypeId} {v1 : Value} (hk : ev N f k = .func (.func g) #[] #[]) (h1 : ev N f o1 = v1) :
    (execOp (ev N f) ⟨d, .call ⟨.value k, #[o1], ts⟩, ty, pos, af, gd⟩).run Tryd.prog w = .ok (.enter g #[v1]) w := cl H (os := [o1]) (vs := [v1]) hk (by simp [h1])
theorem cl2 {N : Nat} {f : Nat → Value} {g : FuncId} {fn : Func} (H : Has g fn) {k o1 o2 : Operand} {ts : Array TypeId} {v1 v2 : Value} (hk : ev N f k = .func (.func g) #[] #[]) (h1 : ev N f o1 = v1) (h2 : ev N f o2 = v2) :
    (execOp (ev N f) ⟨d, .call ⟨.value k, #[o1, o2], ts⟩, ty, pos, af, gd⟩).run Tryd.prog w = .ok (.enter g #[v1, v2]) w := cl H (os := [o1, o2]) (vs := [v1, v2]) hk (by simp [h1, h2])
theorem cl3 {N : Nat} {f : Nat → Value} {g : FuncId} {fn : Func} (H : Has g fn) {k o1 o2 o3 : Operand} {ts : Array TypeId} {v1 v2 v3 : Value} (hk : ev N f k = .func (.func g) #[] #[]) (h1 : ev N f o1 = v1) (h2 : ev N f o2 = v2) (h3 : ev N f o3 = v3) :
    (execOp (ev N f) ⟨d, .call ⟨.value k, #[o1, o2, o3], ts⟩, ty, pos, af, gd⟩).run Tryd.prog w = .ok (.enter g #[v1, v2, v3]) w := cl H (os := [o1, o2, o3]) (vs := [v1, v2, v3]) hk (by simp [h1, h2, h3])
theorem cl4 {N : Nat} {f : Nat → Value} {g : FuncId} {fn : Func} (H : Has g fn) {k o1 o2 o3 o4 : Operand} {ts : Array TypeId} {v1 v2 v3 v4 : Value} (hk : ev N f k = .func (.func g) #[] #[]) (h1 : ev N f o1 = v1) (h2 : ev N f o2 = v2) (h3 : ev N f o3 = v3) (h4 : ev N f o4 = v4) :
    (execOp (ev N f) ⟨d, .call ⟨.value k, #[o1, o2, o3, o4], ts⟩, ty, pos, af, gd⟩).run Tryd.prog w = .ok (.enter g #[v1, v2, v3, v4]) w := cl H (os := [o1, o2, o3, o4]) (vs := [v1, v2, v3, v4]) hk (by simp [h1, h2, h3, h4])
/-- A method called behind an interface. -/
theorem inv0 {N : Nat} {f : Nat → Value} {g : FuncId} {fn : Func} (H : Has g fn) {r : Operand} {m : String} {ts : Array TypeId} {t : TypeId} {v v' : Value} (hr : ev N f r = .iface t v)
    (hm : ∀ w, (method (158 + Made.depth) t v m).run Tryd.prog w = .ok (g, v') w) :
    (execOp (ev N f) ⟨d, .call ⟨.invoke r m, #[], ts⟩, ty, pos, af, gd⟩).run Tryd.prog w = .ok (.enter g #[v']) w := by
  have h3 : ¬ fn.name = "runtime.NumGoroutine" := by simpa using H.name
  have h4 : ¬ fn.body = none := by intro he; have := H.body; rw [he] at this; cases this
  simp [execOp, resolve, hr, invoke, callMethod, hm, callFunc, H.func, h4, h3]
theorem inv1 {N : Nat} {f : Nat → Value} {g : FuncId} {fn : Func} (H : Has g fn) {r o1 : Operand} {m : String} {ts : Array TypeId} {t : TypeId} {v v' v1 : Value} (hr : ev N f r = .iface t v)
    (hm : ∀ w, (method (158 + Made.depth) t v m).run Tryd.prog w = .ok (g, v') w) (h1 : ev N f o1 = v1) :
    (execOp (ev N f) ⟨d, .call ⟨.invoke r m, #[o1], ts⟩, ty, pos, af, gd⟩).run Tryd.prog w = .ok (.enter g #[v', v1]) w := by
  have h3 : ¬ fn.name = "runtime.NumGoroutine" := by simpa using H.name
  have h4 : ¬ fn.body = none := by intro he; have := H.body; rw [he] at this; cases this
  simp [execOp, resolve, hr, h1, invoke, callMethod, hm, callFunc, H.func, h4, h3]
end
theorem ag2 (w : World) : (isAgg 2).run Tryd.prog w = .ok false w := by kernel_rfl
theorem sz2 (w : World) : (sizeOf 2).run Tryd.prog w = .ok 1 w := by kernel_rfl
theorem ld2 {ρ : Operand → Value} {d : Option Nat} {x : Operand} {ty : TypeId} {pos : String} {af : Array Edge} {gd : Option (Nat × Bool)} {w : World} {a : Addr} {v : Value} (hx : ρ x = .pointer (some a)) (hc : w.cell? a = some v) : (execOp ρ ⟨d, .load 2 x, ty, pos, af, gd⟩).run Tryd.prog w = .ok (.value v) w := ld_any 2 (ag2 w) hx hc
theorem st2 {ρ : Operand → Value} {d : Option Nat} {x y : Operand} {ty : TypeId} {pos : String} {af : Array Edge} {gd : Option (Nat × Bool)} {w : World} {a : Addr} {v u : Value} (hx : ρ x = .pointer (some a)) (hy : ρ y = v) (h1 : v.oneCell' = true) (hc : w.cell? a = some u) (hz : w.frozen? a = false) : (execOp ρ ⟨d, .store 2 x y, ty, pos, af, gd⟩).run Tryd.prog w = .ok .skip (w.setCell a v) := st_any 2 (sz2 w) hx hy h1 hc hz
theorem ag3 (w : World) : (isAgg 3).run Tryd.prog w = .ok false w := by kernel_rfl
theorem sz3 (w : World) : (sizeOf 3).run Tryd.prog w = .ok 1 w := by kernel_rfl
theorem ld3 {ρ : Operand → Value} {d : Option Nat} {x : Operand} {ty : TypeId} {pos : String} {af : Array Edge} {gd : Option (Nat × Bool)} {w : World} {a : Addr} {v : Value} (hx : ρ x = .pointer (some a)) (hc : w.cell? a = some v) : (execOp ρ ⟨d, .load 3 x, ty, pos, af, gd⟩).run Tryd.prog w = .ok (.value v) w := ld_any 3 (ag3 w) hx hc
theorem st3 {ρ : Operand → Value} {d : Option Nat} {x y : Operand} {ty : TypeId} {pos : String} {af : Array Edge} {gd : Option (Nat × Bool)} {w : World} {a : Addr} {v u : Value} (hx : ρ x = .pointer (some a)) (hy : ρ y = v) (h1 : v.oneCell' = true) (hc : w.cell? a = some u) (hz : w.frozen? a = false) : (execOp ρ ⟨d, .store 3 x y, ty, pos, af, gd⟩).run Tryd.prog w = .ok .skip (w.setCell a v) := st_any 3 (sz3 w) hx hy h1 hc hz
theorem ag4 (w : World) : (isAgg 4).run Tryd.prog w = .ok false w := by kernel_rfl
theorem sz4 (w : World) : (sizeOf 4).run Tryd.prog w = .ok 1 w := by kernel_rfl
theorem ld4 {ρ : Operand → Value} {d : Option Nat} {x : Operand} {ty : TypeId} {pos : String} {af : Array Edge} {gd : Option (Nat × Bool)} {w : World} {a : Addr} {v : Value} (hx : ρ x = .pointer (some a)) (hc : w.cell? a = some v) : (execOp ρ ⟨d, .load 4 x, ty, pos, af, gd⟩).run Tryd.prog w = .ok (.value v) w := ld_any 4 (ag4 w) hx hc
theorem st4 {ρ : Operand → Value} {d : Option Nat} {x y : Operand} {ty : TypeId} {pos : String} {af : Array Edge} {gd : Option (Nat × Bool)} {w : World} {a : Addr} {v u : Value} (hx : ρ x = .pointer (some a)) (hy : ρ y = v) (h1 : v.oneCell' = true) (hc : w.cell? a = some u) (hz : w.frozen? a = false) : (execOp ρ ⟨d, .store 4 x y, ty, pos, af, gd⟩).run Tryd.prog w = .ok .skip (w.setCell a v) := st_any 4 (sz4 w) hx hy h1 hc hz
theorem ag5 (w : World) : (isAgg 5).run Tryd.prog w = .ok false w := by kernel_rfl
theorem sz5 (w : World) : (sizeOf 5).run Tryd.prog w = .ok 1 w := by kernel_rfl
theorem ld5 {ρ : Operand → Value} {d : Option Nat} {x : Operand} {ty : TypeId} {pos : String} {af : Array Edge} {gd : Option (Nat × Bool)} {w : World} {a : Addr} {v : Value} (hx : ρ x = .pointer (some a)) (hc : w.cell? a = some v) : (execOp ρ ⟨d, .load 5 x, ty, pos, af, gd⟩).run Tryd.prog w = .ok (.value v) w := ld_any 5 (ag5 w) hx hc
theorem st5 {ρ : Operand → Value} {d : Option Nat} {x y : Operand} {ty : TypeId} {pos : String} {af : Array Edge} {gd : Option (Nat × Bool)} {w : World} {a : Addr} {v u : Value} (hx : ρ x = .pointer (some a)) (hy : ρ y = v) (h1 : v.oneCell' = true) (hc : w.cell? a = some u) (hz : w.frozen? a = false) : (execOp ρ ⟨d, .store 5 x y, ty, pos, af, gd⟩).run Tryd.prog w = .ok .skip (w.setCell a v) := st_any 5 (sz5 w) hx hy h1 hc hz
theorem ag22 (w : World) : (isAgg 22).run Tryd.prog w = .ok false w := by kernel_rfl
theorem sz22 (w : World) : (sizeOf 22).run Tryd.prog w = .ok 1 w := by kernel_rfl
theorem ld22 {ρ : Operand → Value} {d : Option Nat} {x : Operand} {ty : TypeId} {pos : String} {af : Array Edge} {gd : Option (Nat × Bool)} {w : World} {a : Addr} {v : Value} (hx : ρ x = .pointer (some a)) (hc : w.cell? a = some v) : (execOp ρ ⟨d, .load 22 x, ty, pos, af, gd⟩).run Tryd.prog w = .ok (.value v) w := ld_any 22 (ag22 w) hx hc
theorem st22 {ρ : Operand → Value} {d : Option Nat} {x y : Operand} {ty : TypeId} {pos : String} {af : Array Edge} {gd : Option (Nat × Bool)} {w : World} {a : Addr} {v u : Value} (hx : ρ x = .pointer (some a)) (hy : ρ y = v) (h1 : v.oneCell' = true) (hc : w.cell? a = some u) (hz : w.frozen? a = false) : (execOp ρ ⟨d, .store 22 x y, ty, pos, af, gd⟩).run Tryd.prog w = .ok .skip (w.setCell a v) := st_any 22 (sz22 w) hx hy h1 hc hz
theorem ag24 (w : World) : (isAgg 24).run Tryd.prog w = .ok false w := by kernel_rfl
theorem sz24 (w : World) : (sizeOf 24).run Tryd.prog w = .ok 1 w := by kernel_rfl
theorem ld24 {ρ : Operand → Value} {d : Option Nat} {x : Operand} {ty : TypeId} {pos : String} {af : Array Edge} {gd : Option (Nat × Bool)} {w : World} {a : Addr} {v : Value} (hx : ρ x = .pointer (some a)) (hc : w.cell? a = some v) : (execOp ρ ⟨d, .load 24 x, ty, pos, af, gd⟩).run Tryd.prog w = .ok (.value v) w := ld_any 24 (ag24 w) hx hc
theorem st24 {ρ : Operand → Value} {d : Option Nat} {x y : Operand} {ty : TypeId} {pos : String} {af : Array Edge} {gd : Option (Nat × Bool)} {w : World} {a : Addr} {v u : Value} (hx : ρ x = .pointer (some a)) (hy : ρ y = v) (h1 : v.oneCell' = true) (hc : w.cell? a = some u) (hz : w.frozen? a = false) : (execOp ρ ⟨d, .store 24 x y, ty, pos, af, gd⟩).run Tryd.prog w = .ok .skip (w.setCell a v) := st_any 24 (sz24 w) hx hy h1 hc hz
theorem ag38 (w : World) : (isAgg 38).run Tryd.prog w = .ok false w := by kernel_rfl
theorem sz38 (w : World) : (sizeOf 38).run Tryd.prog w = .ok 1 w := by kernel_rfl
theorem ld38 {ρ : Operand → Value} {d : Option Nat} {x : Operand} {ty : TypeId} {pos : String} {af : Array Edge} {gd : Option (Nat × Bool)} {w : World} {a : Addr} {v : Value} (hx : ρ x = .pointer (some a)) (hc : w.cell? a = some v) : (execOp ρ ⟨d, .load 38 x, ty, pos, af, gd⟩).run Tryd.prog w = .ok (.value v) w := ld_any 38 (ag38 w) hx hc
theorem st38 {ρ : Operand → Value} {d : Option Nat} {x y : Operand} {ty : TypeId} {pos : String} {af : Array Edge} {gd : Option (Nat × Bool)} {w : World} {a : Addr} {v u : Value} (hx : ρ x = .pointer (some a)) (hy : ρ y = v) (h1 : v.oneCell' = true) (hc : w.cell? a = some u) (hz : w.frozen? a = false) : (execOp ρ ⟨d, .store 38 x y, ty, pos, af, gd⟩).run Tryd.prog w = .ok .skip (w.setCell a v) := st_any 38 (sz38 w) hx hy h1 hc hz
theorem ag62 (w : World) : (isAgg 62).run Tryd.prog w = .ok false w := by kernel_rfl
theorem sz62 (w : World) : (sizeOf 62).run Tryd.prog w = .ok 1 w := by kernel_rfl
theorem ld62 {ρ : Operand → Value} {d : Option Nat} {x : Operand} {ty : TypeId} {pos : String} {af : Array Edge} {gd : Option (Nat × Bool)} {w : World} {a : Addr} {v : Value} (hx : ρ x = .pointer (some a)) (hc : w.cell? a = some v) : (execOp ρ ⟨d, .load 62 x, ty, pos, af, gd⟩).run Tryd.prog w = .ok (.value v) w := ld_any 62 (ag62 w) hx hc
theorem st62 {ρ : Operand → Value} {d : Option Nat} {x y : Operand} {ty : TypeId} {pos : String} {af : Array Edge} {gd : Option (Nat × Bool)} {w : World} {a : Addr} {v u : Value} (hx : ρ x = .pointer (some a)) (hy : ρ y = v) (h1 : v.oneCell' = true) (hc : w.cell? a = some u) (hz : w.frozen? a = false) : (execOp ρ ⟨d, .store 62 x y, ty, pos, af, gd⟩).run Tryd.prog w = .ok .skip (w.setCell a v) := st_any 62 (sz62 w) hx hy h1 hc hz
theorem ag80 (w : World) : (isAgg 80).run Tryd.prog w = .ok false w := by kernel_rfl
theorem sz80 (w : World) : (sizeOf 80).run Tryd.prog w = .ok 1 w := by kernel_rfl
theorem ld80 {ρ : Operand → Value} {d : Option Nat} {x : Operand} {ty : TypeId} {pos : String} {af : Array Edge} {gd : Option (Nat × Bool)} {w : World} {a : Addr} {v : Value} (hx : ρ x = .pointer (some a)) (hc : w.cell? a = some v) : (execOp ρ ⟨d, .load 80 x, ty, pos, af, gd⟩).run Tryd.prog w = .ok (.value v) w := ld_any 80 (ag80 w) hx hc
theorem st80 {ρ : Operand → Value} {d : Option Nat} {x y : Operand} {ty : TypeId} {pos : String} {af : Array Edge} {gd : Option (Nat × Bool)} {w : World} {a : Addr} {v u : Value} (hx : ρ x = .pointer (some a)) (hy : ρ y = v) (h1 : v.oneCell' = true) (hc : w.cell? a = some u) (hz : w.frozen? a = false) : (execOp ρ ⟨d, .store 80 x y, ty, pos, af, gd⟩).run Tryd.prog w = .ok .skip (w.setCell a v) := st_any 80 (sz80 w) hx hy h1 hc hz
theorem ag81 (w : World) : (isAgg 81).run Tryd.prog w = .ok false w := by kernel_rfl
theorem sz81 (w : World) : (sizeOf 81).run Tryd.prog w = .ok 1 w := by kernel_rfl
theorem ld81 {ρ : Operand → Value} {d : Option Nat} {x : Operand} {ty : TypeId} {pos : String} {af : Array Edge} {gd : Option (Nat × Bool)} {w : World} {a : Addr} {v : Value} (hx : ρ x = .pointer (some a)) (hc : w.cell? a = some v) : (execOp ρ ⟨d, .load 81 x, ty, pos, af, gd⟩).run Tryd.prog w = .ok (.value v) w := ld_any 81 (ag81 w) hx hc
theorem st81 {ρ : Operand → Value} {d : Option Nat} {x y : Operand} {ty : TypeId} {pos : String} {af : Array Edge} {gd : Option (Nat × Bool)} {w : World} {a : Addr} {v u : Value} (hx : ρ x = .pointer (some a)) (hy : ρ y = v) (h1 : v.oneCell' = true) (hc : w.cell? a = some u) (hz : w.frozen? a = false) : (execOp ρ ⟨d, .store 81 x y, ty, pos, af, gd⟩).run Tryd.prog w = .ok .skip (w.setCell a v) := st_any 81 (sz81 w) hx hy h1 hc hz
theorem ag82 (w : World) : (isAgg 82).run Tryd.prog w = .ok false w := by kernel_rfl
theorem sz82 (w : World) : (sizeOf 82).run Tryd.prog w = .ok 1 w := by kernel_rfl
theorem ld82 {ρ : Operand → Value} {d : Option Nat} {x : Operand} {ty : TypeId} {pos : String} {af : Array Edge} {gd : Option (Nat × Bool)} {w : World} {a : Addr} {v : Value} (hx : ρ x = .pointer (some a)) (hc : w.cell? a = some v) : (execOp ρ ⟨d, .load 82 x, ty, pos, af, gd⟩).run Tryd.prog w = .ok (.value v) w := ld_any 82 (ag82 w) hx hc
theorem st82 {ρ : Operand → Value} {d : Option Nat} {x y : Operand} {ty : TypeId} {pos : String} {af : Array Edge} {gd : Option (Nat × Bool)} {w : World} {a : Addr} {v u : Value} (hx : ρ x = .pointer (some a)) (hy : ρ y = v) (h1 : v.oneCell' = true) (hc : w.cell? a = some u) (hz : w.frozen? a = false) : (execOp ρ ⟨d, .store 82 x y, ty, pos, af, gd⟩).run Tryd.prog w = .ok .skip (w.setCell a v) := st_any 82 (sz82 w) hx hy h1 hc hz
theorem ag84 (w : World) : (isAgg 84).run Tryd.prog w = .ok false w := by kernel_rfl
theorem sz84 (w : World) : (sizeOf 84).run Tryd.prog w = .ok 1 w := by kernel_rfl
theorem ld84 {ρ : Operand → Value} {d : Option Nat} {x : Operand} {ty : TypeId} {pos : String} {af : Array Edge} {gd : Option (Nat × Bool)} {w : World} {a : Addr} {v : Value} (hx : ρ x = .pointer (some a)) (hc : w.cell? a = some v) : (execOp ρ ⟨d, .load 84 x, ty, pos, af, gd⟩).run Tryd.prog w = .ok (.value v) w := ld_any 84 (ag84 w) hx hc
theorem st84 {ρ : Operand → Value} {d : Option Nat} {x y : Operand} {ty : TypeId} {pos : String} {af : Array Edge} {gd : Option (Nat × Bool)} {w : World} {a : Addr} {v u : Value} (hx : ρ x = .pointer (some a)) (hy : ρ y = v) (h1 : v.oneCell' = true) (hc : w.cell? a = some u) (hz : w.frozen? a = false) : (execOp ρ ⟨d, .store 84 x y, ty, pos, af, gd⟩).run Tryd.prog w = .ok .skip (w.setCell a v) := st_any 84 (sz84 w) hx hy h1 hc hz
theorem ag87 (w : World) : (isAgg 87).run Tryd.prog w = .ok false w := by kernel_rfl
theorem sz87 (w : World) : (sizeOf 87).run Tryd.prog w = .ok 1 w := by kernel_rfl
theorem ld87 {ρ : Operand → Value} {d : Option Nat} {x : Operand} {ty : TypeId} {pos : String} {af : Array Edge} {gd : Option (Nat × Bool)} {w : World} {a : Addr} {v : Value} (hx : ρ x = .pointer (some a)) (hc : w.cell? a = some v) : (execOp ρ ⟨d, .load 87 x, ty, pos, af, gd⟩).run Tryd.prog w = .ok (.value v) w := ld_any 87 (ag87 w) hx hc
theorem st87 {ρ : Operand → Value} {d : Option Nat} {x y : Operand} {ty : TypeId} {pos : String} {af : Array Edge} {gd : Option (Nat × Bool)} {w : World} {a : Addr} {v u : Value} (hx : ρ x = .pointer (some a)) (hy : ρ y = v) (h1 : v.oneCell' = true) (hc : w.cell? a = some u) (hz : w.frozen? a = false) : (execOp ρ ⟨d, .store 87 x y, ty, pos, af, gd⟩).run Tryd.prog w = .ok .skip (w.setCell a v) := st_any 87 (sz87 w) hx hy h1 hc hz
theorem ag88 (w : World) : (isAgg 88).run Tryd.prog w = .ok false w := by kernel_rfl
theorem sz88 (w : World) : (sizeOf 88).run Tryd.prog w = .ok 1 w := by kernel_rfl
theorem ld88 {ρ : Operand → Value} {d : Option Nat} {x : Operand} {ty : TypeId} {pos : String} {af : Array Edge} {gd : Option (Nat × Bool)} {w : World} {a : Addr} {v : Value} (hx : ρ x = .pointer (some a)) (hc : w.cell? a = some v) : (execOp ρ ⟨d, .load 88 x, ty, pos, af, gd⟩).run Tryd.prog w = .ok (.value v) w := ld_any 88 (ag88 w) hx hc
theorem st88 {ρ : Operand → Value} {d : Option Nat} {x y : Operand} {ty : TypeId} {pos : String} {af : Array Edge} {gd : Option (Nat × Bool)} {w : World} {a : Addr} {v u : Value} (hx : ρ x = .pointer (some a)) (hy : ρ y = v) (h1 : v.oneCell' = true) (hc : w.cell? a = some u) (hz : w.frozen? a = false) : (execOp ρ ⟨d, .store 88 x y, ty, pos, af, gd⟩).run Tryd.prog w = .ok .skip (w.setCell a v) := st_any 88 (sz88 w) hx hy h1 hc hz
theorem ag92 (w : World) : (isAgg 92).run Tryd.prog w = .ok false w := by kernel_rfl
theorem sz92 (w : World) : (sizeOf 92).run Tryd.prog w = .ok 1 w := by kernel_rfl
theorem ld92 {ρ : Operand → Value} {d : Option Nat} {x : Operand} {ty : TypeId} {pos : String} {af : Array Edge} {gd : Option (Nat × Bool)} {w : World} {a : Addr} {v : Value} (hx : ρ x = .pointer (some a)) (hc : w.cell? a = some v) : (execOp ρ ⟨d, .load 92 x, ty, pos, af, gd⟩).run Tryd.prog w = .ok (.value v) w := ld_any 92 (ag92 w) hx hc
theorem st92 {ρ : Operand → Value} {d : Option Nat} {x y : Operand} {ty : TypeId} {pos : String} {af : Array Edge} {gd : Option (Nat × Bool)} {w : World} {a : Addr} {v u : Value} (hx : ρ x = .pointer (some a)) (hy : ρ y = v) (h1 : v.oneCell' = true) (hc : w.cell? a = some u) (hz : w.frozen? a = false) : (execOp ρ ⟨d, .store 92 x y, ty, pos, af, gd⟩).run Tryd.prog w = .ok .skip (w.setCell a v) := st_any 92 (sz92 w) hx hy h1 hc hz
theorem ag93 (w : World) : (isAgg 93).run Tryd.prog w = .ok false w := by kernel_rfl
theorem sz93 (w : World) : (sizeOf 93).run Tryd.prog w = .ok 1 w := by kernel_rfl
theorem ld93 {ρ : Operand → Value} {d : Option Nat} {x : Operand} {ty : TypeId} {pos : String} {af : Array Edge} {gd : Option (Nat × Bool)} {w : World} {a : Addr} {v : Value} (hx : ρ x = .pointer (some a)) (hc : w.cell? a = some v) : (execOp ρ ⟨d, .load 93 x, ty, pos, af, gd⟩).run Tryd.prog w = .ok (.value v) w := ld_any 93 (ag93 w) hx hc
theorem st93 {ρ : Operand → Value} {d : Option Nat} {x y : Operand} {ty : TypeId} {pos : String} {af : Array Edge} {gd : Option (Nat × Bool)} {w : World} {a : Addr} {v u : Value} (hx : ρ x = .pointer (some a)) (hy : ρ y = v) (h1 : v.oneCell' = true) (hc : w.cell? a = some u) (hz : w.frozen? a = false) : (execOp ρ ⟨d, .store 93 x y, ty, pos, af, gd⟩).run Tryd.prog w = .ok .skip (w.setCell a v) := st_any 93 (sz93 w) hx hy h1 hc hz
theorem ag130 (w : World) : (isAgg 130).run Tryd.prog w = .ok false w := by kernel_rfl
theorem sz130 (w : World) : (sizeOf 130).run Tryd.prog w = .ok 1 w := by kernel_rfl
theorem ld130 {ρ : Operand → Value} {d : Option Nat} {x : Operand} {ty : TypeId} {pos : String} {af : Array Edge} {gd : Option (Nat × Bool)} {w : World} {a : Addr} {v : Value} (hx : ρ x = .pointer (some a)) (hc : w.cell? a = some v) : (execOp ρ ⟨d, .load 130 x, ty, pos, af, gd⟩).run Tryd.prog w = .ok (.value v) w := ld_any 130 (ag130 w) hx hc
theorem st130 {ρ : Operand → Value} {d : Option Nat} {x y : Operand} {ty : TypeId} {pos : String} {af : Array Edge} {gd : Option (Nat × Bool)} {w : World} {a : Addr} {v u : Value} (hx : ρ x = .pointer (some a)) (hy : ρ y = v) (h1 : v.oneCell' = true) (hc : w.cell? a = some u) (hz : w.frozen? a = false) : (execOp ρ ⟨d, .store 130 x y, ty, pos, af, gd⟩).run Tryd.prog w = .ok .skip (w.setCell a v) := st_any 130 (sz130 w) hx hy h1 hc hz
theorem has9 : Has 9 Tryd.f9 := ⟨Tryd.func9, by kernel_rfl, by kernel_rfl⟩
theorem has10 : Has 10 Tryd.f10 := ⟨Tryd.func10, by kernel_rfl, by kernel_rfl⟩
theorem has11 : Has 11 Tryd.f11 := ⟨Tryd.func11, by kernel_rfl, by kernel_rfl⟩
theorem has12 : Has 12 Tryd.f12 := ⟨Tryd.func12, by kernel_rfl, by kernel_rfl⟩
theorem has13 : Has 13 Tryd.f13 := ⟨Tryd.func13, by kernel_rfl, by kernel_rfl⟩
theorem has14 : Has 14 Tryd.f14 := ⟨Tryd.func14, by kernel_rfl, by kernel_rfl⟩
theorem has15 : Has 15 Tryd.f15 := ⟨Tryd.func15, by kernel_rfl, by kernel_rfl⟩
theorem has16 : Has 16 Tryd.f16 := ⟨Tryd.func16, by kernel_rfl, by kernel_rfl⟩
theorem has17 : Has 17 Tryd.f17 := ⟨Tryd.func17, by kernel_rfl, by kernel_rfl⟩
theorem has18 : Has 18 Tryd.f18 := ⟨Tryd.func18, by kernel_rfl, by kernel_rfl⟩
theorem has19 : Has 19 Tryd.f19 := ⟨Tryd.func19, by kernel_rfl, by kernel_rfl⟩
theorem has20 : Has 20 Tryd.f20 := ⟨Tryd.func20, by kernel_rfl, by kernel_rfl⟩
theorem has21 : Has 21 Tryd.f21 := ⟨Tryd.func21, by kernel_rfl, by kernel_rfl⟩
theorem has22 : Has 22 Tryd.f22 := ⟨Tryd.func22, by kernel_rfl, by kernel_rfl⟩
theorem has23 : Has 23 Tryd.f23 := ⟨Tryd.func23, by kernel_rfl, by kernel_rfl⟩
theorem has24 : Has 24 Tryd.f24 := ⟨Tryd.func24, by kernel_rfl, by kernel_rfl⟩
theorem has25 : Has 25 Tryd.f25 := ⟨Tryd.func25, by kernel_rfl, by kernel_rfl⟩
theorem has26 : Has 26 Tryd.f26 := ⟨Tryd.func26, by kernel_rfl, by kernel_rfl⟩
theorem has27 : Has 27 Tryd.f27 := ⟨Tryd.func27, by kernel_rfl, by kernel_rfl⟩
theorem has28 : Has 28 Tryd.f28 := ⟨Tryd.func28, by kernel_rfl, by kernel_rfl⟩
theorem has29 : Has 29 Tryd.f29 := ⟨Tryd.func29, by kernel_rfl, by kernel_rfl⟩
theorem has30 : Has 30 Tryd.f30 := ⟨Tryd.func30, by kernel_rfl, by kernel_rfl⟩
theorem has31 : Has 31 Tryd.f31 := ⟨Tryd.func31, by kernel_rfl, by kernel_rfl⟩
theorem has32 : Has 32 Tryd.f32 := ⟨Tryd.func32, by kernel_rfl, by kernel_rfl⟩
theorem has33 : Has 33 Tryd.f33 := ⟨Tryd.func33, by kernel_rfl, by kernel_rfl⟩
theorem has34 : Has 34 Tryd.f34 := ⟨Tryd.func34, by kernel_rfl, by kernel_rfl⟩
theorem has35 : Has 35 Tryd.f35 := ⟨Tryd.func35, by kernel_rfl, by kernel_rfl⟩
theorem has36 : Has 36 Tryd.f36 := ⟨Tryd.func36, by kernel_rfl, by kernel_rfl⟩
theorem has37 : Has 37 Tryd.f37 := ⟨Tryd.func37, by kernel_rfl, by kernel_rfl⟩
theorem has38 : Has 38 Tryd.f38 := ⟨Tryd.func38, by kernel_rfl, by kernel_rfl⟩
theorem has39 : Has 39 Tryd.f39 := ⟨Tryd.func39, by kernel_rfl, by kernel_rfl⟩
theorem has40 : Has 40 Tryd.f40 := ⟨Tryd.func40, by kernel_rfl, by kernel_rfl⟩
theorem has41 : Has 41 Tryd.f41 := ⟨Tryd.func41, by kernel_rfl, by kernel_rfl⟩
theorem has42 : Has 42 Tryd.f42 := ⟨Tryd.func42, by kernel_rfl, by kernel_rfl⟩
theorem has43 : Has 43 Tryd.f43 := ⟨Tryd.func43, by kernel_rfl, by kernel_rfl⟩
theorem has44 : Has 44 Tryd.f44 := ⟨Tryd.func44, by kernel_rfl, by kernel_rfl⟩
theorem has45 : Has 45 Tryd.f45 := ⟨Tryd.func45, by kernel_rfl, by kernel_rfl⟩
theorem has46 : Has 46 Tryd.f46 := ⟨Tryd.func46, by kernel_rfl, by kernel_rfl⟩
theorem has47 : Has 47 Tryd.f47 := ⟨Tryd.func47, by kernel_rfl, by kernel_rfl⟩
theorem has48 : Has 48 Tryd.f48 := ⟨Tryd.func48, by kernel_rfl, by kernel_rfl⟩
theorem has49 : Has 49 Tryd.f49 := ⟨Tryd.func49, by kernel_rfl, by kernel_rfl⟩
theorem has50 : Has 50 Tryd.f50 := ⟨Tryd.func50, by kernel_rfl, by kernel_rfl⟩
theorem has51 : Has 51 Tryd.f51 := ⟨Tryd.func51, by kernel_rfl, by kernel_rfl⟩
theorem has52 : Has 52 Tryd.f52 := ⟨Tryd.func52, by kernel_rfl, by kernel_rfl⟩
theorem has53 : Has 53 Tryd.f53 := ⟨Tryd.func53, by kernel_rfl, by kernel_rfl⟩
theorem has54 : Has 54 Tryd.f54 := ⟨Tryd.func54, by kernel_rfl, by kernel_rfl⟩
theorem has55 : Has 55 Tryd.f55 := ⟨Tryd.func55, by kernel_rfl, by kernel_rfl⟩
theorem has56 : Has 56 Tryd.f56 := ⟨Tryd.func56, by kernel_rfl, by kernel_rfl⟩
theorem has57 : Has 57 Tryd.f57 := ⟨Tryd.func57, by kernel_rfl, by kernel_rfl⟩
theorem has58 : Has 58 Tryd.f58 := ⟨Tryd.func58, by kernel_rfl, by kernel_rfl⟩
theorem has59 : Has 59 Tryd.f59 := ⟨Tryd.func59, by kernel_rfl, by kernel_rfl⟩
theorem has60 : Has 60 Tryd.f60 := ⟨Tryd.func60, by kernel_rfl, by kernel_rfl⟩
theorem has61 : Has 61 Tryd.f61 := ⟨Tryd.func61, by kernel_rfl, by kernel_rfl⟩
theorem has62 : Has 62 Tryd.f62 := ⟨Tryd.func62, by kernel_rfl, by kernel_rfl⟩
theorem has63 : Has 63 Tryd.f63 := ⟨Tryd.func63, by kernel_rfl, by kernel_rfl⟩
theorem has64 : Has 64 Tryd.f64 := ⟨Tryd.func64, by kernel_rfl, by kernel_rfl⟩
theorem has65 : Has 65 Tryd.f65 := ⟨Tryd.func65, by kernel_rfl, by kernel_rfl⟩
theorem has81 : Has 81 Tryd.f81 := ⟨Tryd.func81, by kernel_rfl, by kernel_rfl⟩
theorem has82 : Has 82 Tryd.f82 := ⟨Tryd.func82, by kernel_rfl, by kernel_rfl⟩
theorem has90 : Has 90 Tryd.f90 := ⟨Tryd.func90, by kernel_rfl, by kernel_rfl⟩
theorem has91 : Has 91 Tryd.f91 := ⟨Tryd.func91, by kernel_rfl, by kernel_rfl⟩
/-- A call that returns. -/
def Ret (g : FuncId) (args : List Value) (w : World) (R : Value → World → Prop) : Prop := Calls Tryd.prog g args.toArray w (fun e w' => ∃ v, e = .returned v ∧ R v w')
end Go.Proofs.YtejeloeaklpinaaDoor
