/- FnStored: for every list of pieces and every number the law answers true, the arguments and the listed variables as they were; the listed variables start as the program's text lays them. -/
import Derived.Test.YtejeloeaklpinaaDoorStWalk
import Derived.Test.YtejeloeaklpinaaDoorWit
namespace Go.Proofs.YtejeloeaklpinaaDoor
open Go.ChangeShapes Go.WideShapes Go.ChangeAt Go.RowKit
set_option maxRecDepth 100000 in
/-- A slice of bytes in a cell. -/
theorem openBytesIn {H : Type} {enc : TypeId × Value → H} {W : World} {fuel : Nat} {v : Value} {x : DataW H × List MemPlace} (hf : DataW.trod enc Tryd.prog W 0 (fun _ => true) true fuel 22 [v] = some x) :
    ∃ xs : List Nat, Ag W v xs ∧ (∀ x ∈ xs, x < 256) ∧ (xs.length = 0 ∨ ∃ el rs, x.1 = .slice el rs ∧ el.length = xs.length) := by
  rcases open_ints und22 Tryd.underlying5 (by kernel_rfl) hf with ⟨hcs, hx⟩ | ⟨a, len, cap, zs, hcs, _, hl, hm, hz, hx, hcell, hwz⟩
  · simp at hcs
    subst hcs
    exact ⟨[], ⟨none, 0, rfl, fun j hj => by simp at hj⟩, by simp, .inl rfl⟩
  · simp at hcs
    subst hcs
    subst hx
    simp only [if_true] at hz
    have hlen : ((zs.take len).map Int.toNat).length = len := by simp; omega
    refine ⟨(zs.take len).map Int.toNat, ⟨some a, cap, by rw [hlen], fun j hj => ⟨a, rfl, ?_⟩⟩, fun x hx => ?_, .inr ⟨_, _, rfl, ?_⟩⟩
    · rw [hlen] at hj
      rw [hcell j (by omega)]
      have hb := range_u8 hwz j
      rw [List.getD_eq_getElem?_getD, List.getD_eq_getElem?_getD, List.getElem?_map, List.getElem?_take, if_pos hj]
      rw [List.getElem?_eq_getElem (show j < zs.length by omega)] at hb ⊢
      simp only [Option.getD_some, Option.map_some] at hb ⊢
      rw [Int.toNat_of_nonneg hb.1]
    · obtain ⟨z, hz1, rfl⟩ := List.mem_map.1 hx
      have := bounds_u8 (hwz z (List.mem_of_mem_take hz1))
      omega
    · rw [hlen]
      simp [lits]
      omega
theorem choose_list {α : Type} {P : Nat → α → Prop} (d : α) : ∀ (n : Nat), (∀ j, j < n → ∃ x, P j x) → ∃ l : List α, l.length = n ∧ ∀ j, j < n → P j (l.getD j d)
  | 0, _ => ⟨[], rfl, fun j hj => by omega⟩
  | n + 1, h => by
    obtain ⟨l, hl, h1⟩ := choose_list d n fun j hj => h j (by omega)
    obtain ⟨x, hx⟩ := h n (by omega)
    refine ⟨l ++ [x], by simp [hl], fun j hj => ?_⟩
    by_cases hjn : j < n
    · rw [List.getD_eq_getElem?_getD, List.getElem?_append_left (by omega), ← List.getD_eq_getElem?_getD]; exact h1 j hjn
    · obtain rfl : j = n := by omega
      rw [List.getD_eq_getElem?_getD, List.getElem?_append_right (by omega), hl]
      simpa using hx
theorem weightsAll_mem {H : Type} {P : Program} {e : TypeId} : ∀ {ds : List (DataW H)} {j : Nat} {d : DataW H}, ds[j]? = some d → ∀ n ∈ d.weights P e, n ∈ DataW.weightsAll P e ds
  | [], j, d, h, _, _ => by simp at h
  | d0 :: ds, 0, d, h, n, hn => by
    simp only [List.getElem?_cons_zero, Option.some.injEq] at h
    subst h
    simp only [DataW.weightsAll, List.mem_append]
    exact .inl hn
  | d0 :: ds, j + 1, d, h, n, hn => by
    simp only [List.getElem?_cons_succ] at h
    simp only [DataW.weightsAll, List.mem_append]
    exact .inr (weightsAll_mem h n hn)
theorem bytes5 : Tryd.prog.bytesOf 5 = 1 := by kernel_rfl
theorem cells22 : Tryd.prog.cellsOf 22 = 1 := by kernel_rfl
set_option maxRecDepth 100000 in
/-- A slice of slices of bytes that came in. -/
theorem openPieces {H : Type} {enc : TypeId × Value → H} {W : World} {base : Nat} {v : Value} {d : DataW H} {p : List MemPlace} (hval : Value.okWide Tryd.prog W .any base 36 v) (h : DataW.Trod enc Tryd.prog W 0 (fun _ => true) true 36 v d p) (hw : ∀ n ∈ d.weights Tryd.prog 36, n ≤ reachBytes) :
    ∃ (pa : Option Addr) (pc : Nat) (ps : List (List Nat)), v = .slice pa ps.length pc ∧ AgP W pa ps ∧ (∀ k, ∀ x ∈ ps.getD k [], x < 256) ∧ ∀ k, (ps.getD k []).length ≤ 140737488355328 := by
  obtain ⟨a1, len, cap, rfl⟩ := okWide_slice und36 hval
  obtain ⟨fuel, hf⟩ := h
  rcases DataW.trod_slice und36 hf with ⟨hcs, hx⟩ | ⟨a, len', cap', elems, rest, n, _, hcs, hx, _, hl, hm, hlen, hel, _⟩
  · simp [Value.cells] at hcs
    obtain ⟨rfl, rfl, rfl⟩ := hcs
    exact ⟨none, 0, [], rfl, fun j hj => by simp at hj, by intro k x hx; simp at hx, by intro k; simp⟩
  · simp [Value.cells] at hcs
    obtain ⟨rfl, rfl, rfl⟩ := hcs
    simp only [Prod.mk.injEq] at hx
    obtain ⟨rfl, rfl⟩ := hx
    have each : ∀ j, j < len → ∃ xs : List Nat, (∃ u, W.cell? (a.add j) = some u ∧ Ag W u xs) ∧ (∀ x ∈ xs, x < 256) ∧ xs.length ≤ 140737488355328 := by
      intro j hj
      have hE := hel j hj
      rw [cells22, Nat.mul_one, List.getElem?_eq_getElem (show j < elems.length by omega), Option.bind_eq_some_iff] at hE
      obtain ⟨cs, hcs, hy⟩ := hE
      obtain ⟨u, rfl⟩ : ∃ u, cs = [u] := by
        have := (World.cells?_some hcs).2.1
        cases cs with
        | nil => simp at this
        | cons u r =>
          cases r with
          | nil => exact ⟨u, rfl⟩
          | cons _ _ => simp at this
      have hc := cell_of_cells?_one hcs
      obtain ⟨xs, h1, h2, h3⟩ := openBytesIn hy
      refine ⟨xs, ⟨u, hc, h1⟩, h2, ?_⟩
      rcases h3 with h3 | ⟨el, rs, h3, h4⟩
      · omega
      · have hmem : (el.length + rs.length) * Tryd.prog.bytesOf 5 ∈ (elems[j].1).weights Tryd.prog 22 := by
          rw [h3]; simp [DataW.weights, und22]
        have := hw _ (by
          simp only [DataW.weights, und36, List.mem_cons, List.mem_append]
          refine .inr (.inl (weightsAll_mem (j := j) ?_ _ hmem))
          rw [List.getElem?_map, List.getElem?_eq_getElem (show j < elems.length by omega)]; rfl)
        rw [bytes5] at this
        simp only [reachBytes] at this
        omega
    obtain ⟨ps, hps, hP⟩ := choose_list (α := List Nat) [] len each
    have hP' : ∀ k, (∀ x ∈ ps.getD k [], x < 256) ∧ (ps.getD k []).length ≤ 140737488355328 := by
      intro k
      by_cases hk : k < len
      · exact (hP k hk).2
      · rw [List.getD_eq_getElem?_getD, List.getElem?_eq_none (by omega)]
        simp
    refine ⟨some a, cap, ps, by rw [hps], fun j hj => ?_, fun k => (hP' k).1, fun k => (hP' k).2⟩
    obtain ⟨⟨u, h1, h2⟩, _⟩ := hP j (by omega)
    exact ⟨a, u, rfl, h1, h2⟩
theorem st_reads0 (os : Os) {H : Type} (enc : TypeId × Value → H) : DataW.whole enc Tryd.prog ((laidWorld os).forCall (fun _ _ => 0) ⟨#[], #[.slice none 0 0, .int .u16 0], []⟩).memory Tryd.f7.params.toList Rows.fnStoredSpec.vars false [Value.slice none 0 0, .int .u16 0] 8 = some ([.nil, .lit (.int .u16 0)], [Rows.laid_loop_example_pub_g03122_pub_flate_codeOrder], (List.range 19).map (MemPlace.cell 2 ·)) := by kernel_rfl
theorem st_par : ∀ t ∈ Tryd.f7.params.toList, Tryd.prog.readableRec t = true ∧ t < Tryd.prog.types.size := by
  rw [Tryd.params7]
  intro t ht
  simp at ht
  rcases ht with rfl | rfl
  · exact ⟨by kernel_rfl, of_decide_eq_true (by kernel_rfl)⟩
  · exact ⟨by kernel_rfl, of_decide_eq_true (by kernel_rfl)⟩
set_option maxRecDepth 100000 in
theorem st_lifted (os : Os) (started : os.Started) (H : Type) (enc : TypeId × Value → H) (F : Stop.Interp) :
    ReturnsInHanded {} Tryd.checked os 7 .any ((OpenSpec.ofChange Rows.fnStoredSpec).preRow enc Tryd.prog Tryd.f7 Rows.fnStoredRow.domain false Rows.fnStoredRow.laid) (((OpenSpec.ofChange Rows.fnStoredSpec).at F).post enc Tryd.prog Tryd.f7 false true false false) := by
  have hx := st_reads0 os enc
  refine returnsInHanded_of_row (C := Tryd.checked) (s := OpenSpec.ofChange Rows.fnStoredSpec) ownKn started (by kernel_rfl) Tryd.func7
    (witness_row_at (enc := enc) (C := Tryd.checked) false (laidWorld os) #[.slice none 0 0, .int .u16 0] rfl (by kernel_rfl) (by kernel_rfl) (by kernel_rfl)
      (OpenSpec.preRow_of_cond 8 hx (by kernel_rfl) (fun k hk => by cases hk) (by kernel_rfl) (laid_met os _))) ?_
  intro W base args ds gs before hval hW _ _ hsz hL _ _
  have hW' := hW
  obtain ⟨p, q, hA0, hV, rfl, hfz, hnd⟩ := hW
  have hA : DataW.TrodAll enc Tryd.prog W 0 (fun _ => true) true Tryd.f7.params.toList args.toList ds p := hA0
  have hval' : ∀ (j : Nat) t v, Tryd.f7.params[j]? = some t → args[j]? = some v → Value.okWide Tryd.prog W .any base t v := hval
  rw [Tryd.params7] at hA hval'
  obtain ⟨v0, v1, d0, d1, p0, p1, rfl, rfl, rfl, h0, h1⟩ := trodAll_two hA
  have hwt : ∀ n ∈ d0.weights Tryd.prog 36, n ≤ reachBytes := fun n hn => by
    have := List.all_eq_true.1 hsz _ (DataW.weights_mem_each (j := 0) (t := 36) (d := d0) (by rw [Tryd.params7]; rfl) rfl n hn)
    simpa using this
  obtain ⟨pa, pc, ps, rfl, hP, hb, hl⟩ := openPieces (hval' 0 36 v0 rfl rfl) h0 hwt
  obtain ⟨z, rfl, rfl, rfl, hz⟩ := open_int (k := .u16) (by kernel_rfl) (hval' 1 37 v1 rfl rfl) h1
  have hz2 := bounds_u16 hz
  obtain ⟨bad, rfl⟩ : ∃ bad : Nat, z = (bad : Int) := ⟨z.toNat, by omega⟩
  obtain ⟨E0, hG, _⟩ := gl_of_laid (W := W) hL
  obtain ⟨g, rfl⟩ : ∃ g, gs = [g] := by
    have hV' : DataW.TrodVars enc Tryd.prog W (fun _ => true) ["loop.example/pub-g03122/pub/flate.codeOrder"] gs q := hV
    obtain ⟨_, _, _, _, d, _, rfl, _⟩ := trodVars_one hV'
    exact ⟨d, rfl⟩
  refine (fnStored_w E0 W hG pa pc ps bad hP hb hl (by omega)).mono fun e W' ⟨v, he, hv, kp⟩ => ?_
  subst hv
  exact ⟨_, he, post_true (s := Rows.fnStoredSpec) hW' kp rfl rfl st_par rfl⟩
theorem st_said : Rows.FnStoredSaid :=
  OpenClaim.holds_of_cond 7 Tryd.f7 rfl rfl rfl rfl rfl rfl rfl ⟨rfl, rfl, rfl, rfl, rfl⟩ rfl rfl rfl rfl rfl (by kernel_rfl) Tryd.func7 (by kernel_rfl)
    (of_decide_eq_true (by kernel_rfl)) (by unfold Func.isWrapper; first | (rw [if_pos (by decide +kernel)]; kernel_rfl) | (rw [if_neg (by decide +kernel)]; exact ⟨rfl, rfl⟩))
    (fun os started H enc _ F => by rw [OpenClaim.pre_eq_preRow]; exact st_lifted os started H enc F)
theorem st_plain (f : FuncId) (fn : Func) (hf : Tryd.pinned.checked.prog.funcNamed Rows.fnStoredRow.func = some f) (hfn : Tryd.pinned.checked.prog.funcs[f]? = some fn) :
    true = Tryd.pinned.checked.prog.looks [] ∧ ∀ (j : Nat) t, fn.params[j]? = some t → Tryd.pinned.checked.prog.wantsStandIn t = false := by
  obtain rfl : f = 7 := Option.some.inj ((show Tryd.prog.funcNamed Rows.fnStoredRow.func = some 7 by kernel_rfl).symm.trans hf) |>.symm
  obtain rfl : fn = Tryd.f7 := (Option.some.inj (Tryd.func7.symm.trans hfn)).symm
  refine ⟨by kernel_rfl, fun j t ht => ?_⟩
  rw [Tryd.params7] at ht
  have hm := Array.mem_of_getElem? ht
  simp at hm
  rcases hm with rfl | rfl
  · exact (show Tryd.prog.wantsStandIn 36 = false by kernel_rfl)
  · exact (show Tryd.prog.wantsStandIn 37 = false by kernel_rfl)
theorem stored_card : Rows.FnStoredCardSaid :=
  Claim7.holds_tied_plain_at .later [] _ _ _ _ st_said (fun _ h => by cases h) (by kernel_rfl) (fun _ h => by cases h) fnStored_row_tie rfl ⟨rfl, rfl⟩ (by kernel_rfl) rfl st_plain (by kernel_rfl)
end Go.Proofs.YtejeloeaklpinaaDoor
