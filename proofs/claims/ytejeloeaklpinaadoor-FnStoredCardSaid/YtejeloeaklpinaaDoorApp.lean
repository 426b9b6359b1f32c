/- Slices of bytes that a call has made: made, and grown by append. -/
import Derived.Test.YtejeloeaklpinaaDoorNew0
import Derived.Deep.OwnRows
namespace Go.Proofs.YtejeloeaklpinaaDoor
/-- A slice of bytes that begins at its block's head (or nil). -/
def Sl (w : World) (v : Value) (xs : List Nat) : Prop :=
  (v = .slice none 0 0 ∧ xs = []) ∨ ∃ b cap g, v = .slice (some ⟨b, 0, none⟩) xs.length cap ∧ Bk w b cap 5 g ∧ xs.length ≤ cap ∧ cap ≤ maxLen ∧ ∀ k, k < xs.length → g k = .int .u8 (xs.getD k 0)
def obk (v : Value) : List Nat := match v.ownBlock with
  | some b => [b]
  | none => []
theorem Sl.kp {w w' : World} {v : Value} {xs : List Nat} {L : List Nat} (h : Sl w v xs) (k : Kp L w w') (hL : ∀ b, v.ownBlock = some b → b ∉ L) : Sl w' v xs := by
  rcases h with h | ⟨b, cap, g, rfl, h2, h3⟩
  · exact .inl h
  · exact .inr ⟨b, cap, g, rfl, h2.kp k (hL b rfl), h3⟩
theorem Sl.lt {w : World} {v : Value} {xs : List Nat} (h : Sl w v xs) {b : Nat} (hb : v.ownBlock = some b) : b < w.heap.size := by
  rcases h with ⟨rfl, _⟩ | ⟨b', cap, g, rfl, h2, _⟩
  · simp [Value.ownBlock] at hb
  · simp only [Value.ownBlock, Option.some.injEq] at hb
    subst hb; exact h2.lt
theorem Sl.val {w : World} {v : Value} {xs : List Nat} (h : Sl w v xs) : ∃ a c, v = .slice a xs.length c := by
  rcases h with ⟨rfl, rfl⟩ | ⟨b', cap, g, rfl, h2, _⟩
  · exact ⟨_, _, rfl⟩
  · exact ⟨_, _, rfl⟩
theorem Sl.nil (w : World) : Sl w (.slice none 0 0) [] := .inl ⟨rfl, rfl⟩
theorem info5 : ∃ i, Tryd.prog.info? 5 = some i ∧ i.zero = some (.int .u8 0) ∧ i.size = 1 ∧ i.bytes = 1 := by
  have h : (Tryd.prog.info? 5).map (fun i => (i.zero, i.size, i.bytes)) = some (some (.int .u8 0), 1, 1) := by kernel_rfl
  obtain ⟨i, hi, he⟩ := Option.map_eq_some_iff.1 h
  simp only [Prod.mk.injEq] at he
  exact ⟨i, hi, he.1, he.2.1, he.2.2⟩
theorem getD_app (xs ys : List Nat) (k : Nat) : (xs ++ ys).getD k 0 = if k < xs.length then xs.getD k 0 else ys.getD (k - xs.length) 0 := by
  by_cases h : k < xs.length
  · rw [if_pos h, List.getD_eq_getElem?_getD, List.getElem?_append_left h, ← List.getD_eq_getElem?_getD]
  · rw [if_neg h, List.getD_eq_getElem?_getD, List.getElem?_append_right (by omega), ← List.getD_eq_getElem?_getD]
theorem map_get (ys : List Nat) (j : Nat) (h : j < ys.length) : (ys.map fun c : Nat => Value.int .u8 (c : Int))[j]? = some (.int .u8 (ys.getD j 0)) := by
  rw [List.getElem?_map, List.getD_eq_getElem?_getD, List.getElem?_eq_getElem h]
  rfl
theorem grownNew {w : World} {xs ys : List Nat} {C : Array Value} {cap : Nat} {Z : Array Value} (hC : C = (xs.map fun c : Nat => Value.int .u8 (c : Int)).toArray ++ (ys.map fun c : Nat => Value.int .u8 (c : Int)).toArray ++ Z) (hZ : Z.size = cap - (xs.length + ys.length)) (hcap : xs.length + ys.length ≤ cap) (hm : cap ≤ maxLen) :
    Sl (w.drew.alloc (.cells C 5)) (.slice (some ⟨w.heap.size, 0, none⟩) (xs.length + ys.length) cap) (xs ++ ys) := by
  have hs : C.size = cap := by subst hC; simp; omega
  refine .inr ⟨w.heap.size, cap, fun k => C.getD k undef, by rw [List.length_append], by rw [← hs]; exact Bk.new w.drew C 5, by rw [List.length_append]; exact hcap, hm, fun k hk => ?_⟩
  rw [List.length_append] at hk
  rw [getD_app]
  subst hC
  simp only [Array.getD_eq_getD_getElem?]
  by_cases h : k < xs.length
  · rw [if_pos h, Array.getElem?_append_left (by simp; omega), Array.getElem?_append_left (by simpa using h)]
    simp [h]
  · rw [if_neg h, Array.getElem?_append_left (by simp; omega), Array.getElem?_append_right (by simpa using h)]
    simp only [List.size_toArray, List.length_map, List.getElem?_toArray]
    rw [map_get _ _ (by omega)]
    rfl
theorem ap_run (w : World) (ty : TypeId) {v : Value} {xs ys : List Nat} {a : Addr} {m c2 : Nat} (hS : Sl w v xs) (hl : ys.length = m) (hys : ∀ j, j < m → w.cell? (a.add j) = some (.int .u8 (ys.getD j 0))) (hmax : xs.length + m ≤ 140737488355328) :
    ∃ v' w', (Builtin.append_ #[22, 22] ty #[v, .slice (some a) m c2]).run Tryd.prog w = .ok v' w' ∧ Sl w' v' (xs ++ ys) ∧ Kp (obk v) w w' ∧ ∀ k, v'.ownBlock = some k → v.ownBlock = some k ∨ w.heap.size ≤ k := by
  obtain ⟨i, hi, hz, hsz, hby⟩ := info5
  have hl' : (ys.map fun c : Nat => Value.int .u8 (c : Int)).length = m * i.size := by rw [hsz, List.length_map]; omega
  have hnews : ∀ j u, (ys.map fun c : Nat => Value.int .u8 (c : Int))[j]? = some u → w.cell? (a.add j) = some u := by
    intro j u hj
    have hlt : j < ys.length := by have := (List.getElem?_eq_some_iff.1 hj).1; simpa using this
    rw [map_get _ _ hlt] at hj
    rw [hys j (by omega)]
    exact hj
  have h1 : ∀ u ∈ (ys.map fun c : Nat => Value.int .u8 (c : Int)), u.oneCell' = true := by
    intro u hu
    obtain ⟨c, _, rfl⟩ := List.mem_map.1 hu
    rfl
  have hmx : xs.length + m ≤ maxLen := by simp only [maxLen]; omega
  rcases hS with ⟨rfl, rfl⟩ | ⟨b, cap, g, rfl, hB, hxc, hcm, hg⟩
  · by_cases hm : m = 0
    · subst hm
      have hn : ys = [] := List.eq_nil_of_length_eq_zero hl
      subst hn
      refine ⟨.slice none 0 0, w, ?_, .inl ⟨rfl, rfl⟩, Kp.refl _ _, fun k hk => .inl hk⟩
      simp [Builtin.append_, run_underlying und22, sizeOf, typeInfo, hi, Builtin.lenOf, Builtin.firstCells, loadCells, loadCellsFrom]
    · have hr := run_append_nil (P := Tryd.prog) w 22 ty 5 i (.int .u8 0) und22 hi hz a m c2 _ hl' hnews (by omega) (by simp at hmax; omega) (by rw [hby]; simp at hmax; omega)
      have hge := grownCap_ge w m 0 5
      refine ⟨_, _, hr, ?_, ((Kp.refl _ w).drew.alloc _), fun k hk => ?_⟩
      · have := grownNew (w := w) (xs := []) (ys := ys) (C := (ys.map fun c : Nat => Value.int .u8 (c : Int)).toArray ++ Builtin.zeroCells (Value.int .u8 0).cells (grownCap w m 0 5 - m)) (cap := grownCap w m 0 5) (Z := Builtin.zeroCells (Value.int .u8 0).cells (grownCap w m 0 5 - m)) (by simp) (by simp [Builtin.zeroCells, Value.cells]; omega) (by simp; omega) (grownCap_le_maxLen w m 0 5 (by simp at hmx; exact hmx))
        simpa [hl] using this
      · simp only [Value.ownBlock, Option.some.injEq] at hk
        exact .inr (by omega)
  · obtain ⟨C, hC, hCs, hCg⟩ := hB
    by_cases hroom : xs.length + m ≤ cap
    · have hr := run_append_room (P := Tryd.prog) w 22 ty 5 i und22 hi b xs.length cap C hC a m c2 _ hl' hnews h1 hroom (by rw [hsz, List.length_map]; omega)
      rw [hsz, Nat.mul_one, List.length_map] at hr
      refine ⟨_, _, hr, ?_, (Kp.refl _ w).setRow (by simp [obk, Value.ownBlock]) _, fun k hk => .inl hk⟩
      refine .inr ⟨b, cap, fun k => if k < xs.length then .int .u8 (xs.getD k 0) else if k < xs.length + m then .int .u8 (ys.getD (k - xs.length) 0) else g k, by rw [List.length_append, hl], ?_, by rw [List.length_append]; omega, hcm, fun k hk => ?_⟩
      · refine Bk.setRow (g := g) ⟨C, hC, hCs, hCg⟩ _ ?_ ?_
        · simp; omega
        · intro k hk
          have htl : (C.toList.take xs.length).length = xs.length := by simp; omega
          rw [List.getElem?_toArray]
          by_cases hk1 : k < xs.length
          · rw [if_pos hk1, List.append_assoc, List.getElem?_append_left (by omega), List.getElem?_take, if_pos hk1]
            rw [← hg k hk1]
            simpa using hCg k hk
          · rw [if_neg hk1, List.append_assoc, List.getElem?_append_right (by omega), htl]
            by_cases hk2 : k < xs.length + m
            · rw [if_pos hk2, List.getElem?_append_left (by simp; omega), map_get _ _ (by omega)]
            · rw [if_neg hk2, List.getElem?_append_right (by simp; omega), List.getElem?_drop, List.length_map, hl]
              rw [show xs.length + m + (k - xs.length - m) = k by omega]
              simpa using hCg k hk
      · rw [List.length_append] at hk
        rw [getD_app]
        simp only
        by_cases hk1 : k < xs.length
        · rw [if_pos hk1, if_pos hk1]
        · rw [if_neg hk1, if_neg hk1, if_pos (by omega)]
    · have holds : ∀ j u, (xs.map fun c : Nat => Value.int .u8 (c : Int))[j]? = some u → w.cell? ((⟨b, 0, none⟩ : Addr).add j) = some u := by
        intro j u hj
        have hlt : j < xs.length := by have := (List.getElem?_eq_some_iff.1 hj).1; simpa using this
        rw [map_get _ _ hlt] at hj
        rw [Addr.add_lit, Nat.zero_add, Bk.cell (n := cap) (t := 5) (g := g) ⟨C, hC, hCs, hCg⟩ (k := j) (by omega), hg j hlt]
        exact hj
      have hr := run_append_grow (P := Tryd.prog) w 22 ty 5 i (.int .u8 0) und22 hi hz ⟨b, 0, none⟩ xs.length cap (xs.map fun c : Nat => Value.int .u8 (c : Int)) (by rw [hsz, List.length_map, Nat.mul_one]) holds a m c2 _ hl' hnews (by omega) (by omega) (growslice_fits (by omega) (by rw [hby]; omega))
      have hge := grownCap_ge w (xs.length + m) cap 5
      refine ⟨_, _, hr, ?_, ((Kp.refl _ w).drew.alloc _), fun k hk => ?_⟩
      · have := grownNew (w := w) (xs := xs) (ys := ys) (cap := grownCap w (xs.length + m) cap 5) (Z := Builtin.zeroCells (Value.int .u8 0).cells (grownCap w (xs.length + m) cap 5 - (xs.length + m))) rfl (by simp [Builtin.zeroCells, Value.cells]; omega) (by omega) (grownCap_le_maxLen w (xs.length + m) cap 5 hmx)
        rw [hl] at this
        exact this
      · simp only [Value.ownBlock, Option.some.injEq] at hk
        exact .inr (by omega)
/-- A slice of bytes that came in: nothing is asked of its block. -/
def Ag (w : World) (v : Value) (xs : List Nat) : Prop := ∃ a c, v = .slice a xs.length c ∧ ∀ j, j < xs.length → ∃ ad, a = some ad ∧ w.cell? (ad.add j) = some (.int .u8 (xs.getD j 0))
theorem Ag.kp {w w' : World} {v : Value} {xs : List Nat} (h : Ag w v xs) (k : Kp [] w w') : Ag w' v xs := by
  obtain ⟨a, c, h1, h2⟩ := h
  refine ⟨a, c, h1, fun j hj => ?_⟩
  obtain ⟨ad, h3, h4⟩ := h2 j hj
  exact ⟨ad, h3, k.cell h4 (by simp)⟩
theorem Sl.ag {w : World} {v : Value} {xs : List Nat} (h : Sl w v xs) : Ag w v xs := by
  rcases h with ⟨rfl, rfl⟩ | ⟨b, cap, g, rfl, h2, h3, h4, h5⟩
  · exact ⟨none, 0, rfl, fun j hj => by simp at hj⟩
  · refine ⟨_, _, rfl, fun j hj => ⟨_, rfl, ?_⟩⟩
    rw [Addr.add_lit, Nat.zero_add, h2.cell (by omega), h5 j hj]
/-- Where nothing is appended. -/
theorem ap_run0 (w : World) (ty : TypeId) {v : Value} {xs : List Nat} {a : Option Addr} {c : Nat} (hS : Sl w v xs) : (Builtin.append_ #[22, 22] ty #[v, .slice a 0 c]).run Tryd.prog w = .ok v w := by
  obtain ⟨i, hi, hz, hsz, hby⟩ := info5
  rcases hS with ⟨rfl, rfl⟩ | ⟨b, cap, g, rfl, hB, hxc, hcm, hg⟩
  · cases a <;> simp [Builtin.append_, run_underlying und22, sizeOf, typeInfo, hi, Builtin.lenOf, Builtin.firstCells, loadCells, loadCellsFrom]
  · cases a <;> simp [Builtin.append_, run_underlying und22, sizeOf, typeInfo, hi, Builtin.lenOf, Builtin.firstCells, loadCells, loadCellsFrom, hxc, storeCells]
section
variable {ops : Array Oper} {Q : Exit → Act → World → Prop} {N : Nat} {L : List (Nat × Value)} {B : Nat → Value} {w : World} {rest : List Oper} {dd : Nat} {ty : TypeId} {pos : String} {af : Array Edge} {x y : Operand}
theorem Lap {v : Value} {xs ys : List Nat} {b2 o2 m c2 n2 : Nat} {t2 : TypeId} {g2 : Nat → Value} (hx : ev N (fl L B) x = v) (hy : ev N (fl L B) y = .slice (some ⟨b2, o2, none⟩) m c2) (hS : Sl w v xs) (hB2 : Bk w b2 n2 t2 g2) (hl : ys.length = m) (h2 : o2 + m ≤ n2) (hys : ∀ j, j < m → g2 (o2 + j) = .int .u8 (ys.getD j 0)) (hmax : xs.length + m ≤ 140737488355328)
    (K : ∀ v' w1, Sl w1 v' (xs ++ ys) → Kp (obk v) w w1 → (∀ k, v'.ownBlock = some k → v.ownBlock = some k ∨ w.heap.size ≤ k) → wpList Tryd.prog ops Q rest (fr N (fl ((dd, v') :: L) B)) w1) :
    wpList Tryd.prog ops Q (⟨some dd, .call ⟨.builtin .append, #[x, y], #[22, 22]⟩, ty, pos, af, none⟩ :: rest) (fr N (fl L B)) w := by
  obtain ⟨v', w1, hr, h3, h4, h5⟩ := ap_run w ty (a := ⟨b2, o2, none⟩) (c2 := c2) hS hl (fun j hj => by rw [Addr.add_lit, hB2.cell (k := o2 + j) (by omega), hys j hj]) hmax
  refine L1 (v := v') (w' := w1) ?_ (K v' w1 h3 h4 h5)
  simp [execOp, resolve, invoke, builtin, hx, hy, hr]
theorem Lapg {v u : Value} {xs ys : List Nat} (hx : ev N (fl L B) x = v) (hy : ev N (fl L B) y = u) (hS : Sl w v xs) (hA : Ag w u ys) (hmax : xs.length + ys.length ≤ 140737488355328)
    (K : ∀ v' w1, Sl w1 v' (xs ++ ys) → Kp (obk v) w w1 → (∀ k, v'.ownBlock = some k → v.ownBlock = some k ∨ w.heap.size ≤ k) → wpList Tryd.prog ops Q rest (fr N (fl ((dd, v') :: L) B)) w1) :
    wpList Tryd.prog ops Q (⟨some dd, .call ⟨.builtin .append, #[x, y], #[22, 22]⟩, ty, pos, af, none⟩ :: rest) (fr N (fl L B)) w := by
  obtain ⟨a, c, rfl, hA⟩ := hA
  by_cases h0 : ys.length = 0
  · have hys : ys = [] := List.eq_nil_of_length_eq_zero h0
    subst hys
    refine L1 (v := v) (w' := w) ?_ (K v w (by simpa using hS) (Kp.refl _ _) (fun k hk => .inl hk))
    have hr := ap_run0 w ty (a := a) (c := c) hS
    simp [execOp, resolve, invoke, builtin, hx, hy, hr]
  · obtain ⟨ad, rfl, _⟩ := hA 0 (by omega)
    obtain ⟨v', w1, hr, h3, h4, h5⟩ := ap_run w ty (a := ad) (c2 := c) hS rfl (fun j hj => by obtain ⟨ad', he, h⟩ := hA j hj; cases he; exact h) hmax
    refine L1 (v := v') (w' := w1) ?_ (K v' w1 h3 h4 h5)
    simp [execOp, resolve, invoke, builtin, hx, hy, hr]
theorem Lap0 {v : Value} {xs : List Nat} {a : Option Addr} {c : Nat} (hx : ev N (fl L B) x = v) (hy : ev N (fl L B) y = .slice a 0 c) (hS : Sl w v xs) (K : wpList Tryd.prog ops Q rest (fr N (fl ((dd, v) :: L) B)) w) :
    wpList Tryd.prog ops Q (⟨some dd, .call ⟨.builtin .append, #[x, y], #[22, 22]⟩, ty, pos, af, none⟩ :: rest) (fr N (fl L B)) w := by
  refine L1 (v := v) (w' := w) ?_ K
  have hr := ap_run0 w ty (a := a) (c := c) hS
  simp [execOp, resolve, invoke, builtin, hx, hy, hr]
/-- A new slice of n zero bytes. -/
theorem Lmk {n : Nat} {i : Int} (hx : ev N (fl L B) x = .int .i64 i) (hi : i = (n : Int)) (hn : n ≤ 1000000)
    (K : ∀ X w1, w.heap.size = X → Bk w1 X n 5 (fun _ => .int .u8 0) → Kp [] w w1 → w1.heap.size = X + 1 → wpList Tryd.prog ops Q rest (fr N (fl ((dd, .slice (some ⟨X, 0, none⟩) n n) :: L) B)) w1) :
    wpList Tryd.prog ops Q (⟨some dd, .makeSlice 22 x x, ty, pos, af, none⟩ :: rest) (fr N (fl L B)) w := by
  subst hi
  have hr := run_make_row' (P := Tryd.prog) 22 5 (.int .u8 0) 1 und22 (by kernel_rfl) rfl .i64 .i64 n (by omega) (by omega) w
  refine L1 (v := .slice (some ⟨w.heap.size, 0, none⟩) n n) (w' := w.alloc (.cells (madeCells #[.int .u8 0] n) 5)) ?_ (K _ _ rfl ?_ ((Kp.refl [] w).alloc _) (by simp))
  · simp [execOp, hx, hr]
  · obtain ⟨C, h1, h2, h3⟩ := World.rowIs_made w (.int .u8 0) n 5
    exact ⟨C, h1, h2, h3⟩
end
end Go.Proofs.YtejeloeaklpinaaDoor
