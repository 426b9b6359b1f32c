/- What the listed variables give; slices of bytes opened. -/
import Derived.Test.YtejeloeaklpinaaDoorClose
import Derived.SizedLaws
namespace Go.Proofs.YtejeloeaklpinaaDoor
open Go.ChangeShapes Go.WideShapes Go.ChangeAt Go.RowKit

def laidL : List (String × DataW Unit) := [("io.ErrShortBuffer", Rows.laid_io_ErrShortBuffer), ("io.EOF", Rows.laid_io_EOF), ("io.ErrUnexpectedEOF", Rows.laid_io_ErrUnexpectedEOF), ("loop.example/pub-g03122/pub/flate.codeOrder", Rows.laid_loop_example_pub_g03122_pub_flate_codeOrder)]
set_option maxRecDepth 100000 in
/-- A listed error: its pointer, its text, and that its block may be written. -/
theorem laid_err {n : String} {text : List UInt8} {r : List (String × DataW Unit)} {W : World} {g : Nat} (h : laidMet Tryd.prog ((n, .iface "*errors.errorString" (.ptr (.agg [.lit (.string text)]))) :: r) W)
    (hg : Tryd.prog.globalNamed n = some g) (ht : (Tryd.prog.globals[g]?).map (·.type) = some 62) :
    ∃ (a : Addr) (s : ByteArray), W.cell? ⟨g, 0, none⟩ = some (.iface 131 (.pointer (some a))) ∧ W.cell? a = some (.string s) ∧ s.data.toList = text ∧ ∃ c t, W.heap[a.block]? = some (.cells c t (0, 0)) := by
  obtain ⟨ps, ⟨g0, t0, cs0, f0, p0, q0, hg0, ht0, hv0, hd0, _, e0⟩, _, hrows⟩ := h
  obtain rfl := Option.some.inj (hg.symm.trans hg0)
  obtain rfl := Option.some.inj (ht.symm.trans ht0)
  subst e0
  obtain ⟨l0⟩ := cs0
  have ok0 : ∀ u v, l0 = [.iface u v] → Value.okWide Tryd.prog W .any 0 u v := fun u v e => by
    subst e
    exact (hrows g 0 (by simp [MemPlace.row])).2 u v (by simpa using World.var?_cell hg0 hv0 0)
  obtain ⟨a0, s0, rfl, hc0, hs0, hz0, hp0⟩ := errorString_of_trod (enc := fun _ => ()) (te := 150) (ts := 9) und62 row131 und131 Tryd.underlying150 rfl rfl Tryd.underlying9 cells150 cells9 hd0 ok0
  refine ⟨a0, s0, by simpa using World.var?_cell hg0 hv0 0, hc0, hs0, ?_⟩
  subst hp0
  have hsp : a0.spot = none := World.cell?_spot hc0
  exact (hrows a0.block a0.off (by simp [MemPlace.row])).1
theorem cells3 : Tryd.prog.cellsOf 3 = 1 := by kernel_rfl
theorem cells98 : Tryd.prog.cellsOf 98 = 19 := by kernel_rfl
theorem tOrder : (Tryd.prog.globals[2]?).map (·.type) = some 98 := by kernel_rfl
set_option maxRecDepth 100000 in
theorem gl_of_laid {W : World} (h : laidMet Tryd.prog laidL W) : ∃ E0 : Env, Gl E0 W ∧ E0.B = W.heap.size := by
  obtain ⟨aE, sE, hE, hcE, htE, hbE⟩ := laid_err h.tail gEOF tEOF
  obtain ⟨aU, sU, hU, hcU, htU, hbU⟩ := laid_err h.tail.tail gUEOF tUEOF
  have hT : Lib.TabIs Tryd.prog W "loop.example/pub-g03122/pub/flate.codeOrder" .i64 [16, 17, 18, 0, 8, 7, 9, 6, 10, 5, 11, 4, 12, 3, 13, 2, 14, 1, 15] :=
    Lib.tabIs_of_head (rest := []) gOrder tOrder Tryd.underlying98 Tryd.underlying3 cells3 cells98 h.tail.tail.tail
  have hne : aE ≠ aU := by
    intro e
    subst e
    rw [hcE] at hcU
    simp only [Option.some.injEq, Value.string.injEq] at hcU
    subst hcU
    rw [htE] at htU
    exact absurd htU (by decide)
  have hord : ∀ i, i < 19 → W.cell? ⟨2, i, none⟩ = some (.int .i64 (order i)) := fun i hi => hT.cell gOrder i hi
  have h2 := World.block_lt_of_cell? W _ (hord 0 (by decide))
  exact ⟨⟨W.heap.size, aE, aU, 0, 0, 0, 0, 0, 0, 0, 0, 0, fun _ => 0⟩, ⟨by show 3 ≤ W.heap.size; simp only at h2; omega, Nat.le_refl _, hE, hU, hne, World.block_lt_of_cell? W _ hcE, World.block_lt_of_cell? W _ hcU, hbE, hbU, hord⟩, rfl⟩
set_option maxRecDepth 100000 in
/-- A slice of bytes that came in. -/
theorem openBytes {H : Type} {enc : TypeId × Value → H} {W : World} {base : Nat} {v : Value} {d : DataW H} {p : List MemPlace} (hval : Value.okWide Tryd.prog W .any base 22 v) (h : DataW.Trod enc Tryd.prog W 0 (fun _ => true) true 22 v d p) :
    ∃ xs : List Nat, Ag W v xs ∧ (∀ x ∈ xs, x < 256) ∧ (xs.length = 0 ∨ ∃ el rs, d = .slice el rs ∧ el.length = xs.length) := by
  obtain ⟨a1, len, cap, rfl⟩ := okWide_slice und22 hval
  obtain ⟨fuel, hf⟩ := h
  rcases open_ints und22 Tryd.underlying5 (by kernel_rfl) hf with ⟨hcs, hx⟩ | ⟨a, len', cap', zs, hcs, _, hl, hm, hz, hx, hcell, hwz⟩
  · simp [Value.cells] at hcs
    obtain ⟨rfl, rfl, rfl⟩ := hcs
    exact ⟨[], ⟨none, 0, rfl, fun j hj => by simp at hj⟩, by simp, .inl rfl⟩
  · simp [Value.cells] at hcs
    obtain ⟨rfl, rfl, rfl⟩ := hcs
    simp only [Prod.mk.injEq] at hx
    obtain ⟨rfl, rfl⟩ := hx
    simp only [if_true] at hz
    have hlen : ((zs.take len).map Int.toNat).length = len := by simp; omega
    refine ⟨(zs.take len).map Int.toNat, ⟨some a, cap, by rw [hlen], fun j hj => ⟨a, rfl, ?_⟩⟩, fun x hx => ?_, .inr ⟨_, _, rfl, ?_⟩⟩
    · rw [hlen] at hj
      rw [hcell j (by omega)]
      have hb := range_u8 hwz j
      rw [List.getD_eq_getElem?_getD, List.getD_eq_getElem?_getD, List.getElem?_map, List.getElem?_take, if_pos hj]
      rw [List.getElem?_eq_getElem (show j < zs.length by omega)] at hb ⊢
      simp only [Option.getD_some, Option.map_some] at hb ⊢
      rw [Int.toNat_of_nonneg hb.1]
    · obtain ⟨z, hz1, rfl⟩ := List.mem_map.1 hx
      have := bounds_u8 (hwz z (List.mem_of_mem_take hz1))
      omega
    · rw [hlen]
      simp [lits]
      omega
end Go.Proofs.YtejeloeaklpinaaDoor
