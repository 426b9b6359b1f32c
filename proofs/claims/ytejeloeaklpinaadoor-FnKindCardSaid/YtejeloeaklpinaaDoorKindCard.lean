/- FnKind: for every list of bytes and every flag the law answers true, the arguments and the listed variables as they were; the listed variables start as the program's text lays them. -/
import Derived.Test.YtejeloeaklpinaaDoorKind
import Derived.Test.YtejeloeaklpinaaDoorWit
namespace Go.Proofs.YtejeloeaklpinaaDoor
open Go.ChangeShapes Go.WideShapes Go.ChangeAt Go.RowKit
theorem kind_reads (os : Os) {H : Type} (enc : TypeId × Value → H) : DataW.whole enc Tryd.prog ((laidWorld os).forCall (fun _ _ => 0) ⟨#[], #[.slice none 0 0, .bool false], []⟩).memory Tryd.f6.params.toList Rows.fnKindSpec.vars false [Value.slice none 0 0, .bool false] 8 = some ([.nil, .lit (.bool false)], [Rows.laid_loop_example_pub_g03122_pub_flate_codeOrder], (List.range 19).map (MemPlace.cell 2 ·)) := by kernel_rfl
theorem kind_par : ∀ t ∈ Tryd.f6.params.toList, Tryd.prog.readableRec t = true ∧ t < Tryd.prog.types.size := by
  rw [Tryd.params6]
  intro t ht
  simp at ht
  rcases ht with rfl | rfl
  · exact ⟨by kernel_rfl, of_decide_eq_true (by kernel_rfl)⟩
  · exact ⟨by kernel_rfl, of_decide_eq_true (by kernel_rfl)⟩
set_option maxRecDepth 100000 in
theorem kind_lifted (os : Os) (started : os.Started) (H : Type) (enc : TypeId × Value → H) (F : Stop.Interp) :
    ReturnsInHanded {} Tryd.checked os 6 .any ((OpenSpec.ofChange Rows.fnKindSpec).preRow enc Tryd.prog Tryd.f6 Rows.fnKindRow.domain false Rows.fnKindRow.laid) (((OpenSpec.ofChange Rows.fnKindSpec).at F).post enc Tryd.prog Tryd.f6 false true false false) := by
  have hx := kind_reads os enc
  refine returnsInHanded_of_row (C := Tryd.checked) (s := OpenSpec.ofChange Rows.fnKindSpec) ownKn started (by kernel_rfl) Tryd.func6
    (witness_row_at (enc := enc) (C := Tryd.checked) false (laidWorld os) #[.slice none 0 0, .bool false] rfl (by kernel_rfl) (by kernel_rfl) (by kernel_rfl)
      (OpenSpec.preRow_of_cond 8 hx (by kernel_rfl) (fun k hk => by cases hk) (by kernel_rfl) (laid_met os _))) ?_
  intro W base args ds gs before hval hW _ _ hsz hL _ _
  have hW' := hW
  obtain ⟨p, q, hA0, hV, rfl, hfz, hnd⟩ := hW
  have hA : DataW.TrodAll enc Tryd.prog W 0 (fun _ => true) true Tryd.f6.params.toList args.toList ds p := hA0
  have hval' : ∀ (j : Nat) t v, Tryd.f6.params[j]? = some t → args[j]? = some v → Value.okWide Tryd.prog W .any base t v := hval
  rw [Tryd.params6] at hA hval'
  obtain ⟨v0, v1, d0, d1, p0, p1, rfl, rfl, rfl, h0, h1⟩ := trodAll_two hA
  obtain ⟨more, hAg, hb, hlen⟩ := openBytes (hval' 0 22 v0 rfl rfl) h0
  obtain ⟨last, rfl, rfl, rfl⟩ := open_bool Tryd.underlying4 (hval' 1 4 v1 rfl rfl) h1
  obtain ⟨E0, hG, _⟩ := gl_of_laid (W := W) hL
  have hL47 : more.length + 1 ≤ 140737488355328 := by
    rcases hlen with h | ⟨el, rs, rfl, h⟩
    · omega
    · have := sized_slice (P := Tryd.prog) (j := 0) (t := 22) (e := 5) hsz (by rw [Tryd.params6]; rfl) rfl und22
      have hby : Tryd.prog.bytesOf 5 = 1 := by kernel_rfl
      rw [hby] at this
      simp only [reachBytes] at this
      omega
  obtain ⟨g, rfl⟩ : ∃ g, gs = [g] := by
    have hV' : DataW.TrodVars enc Tryd.prog W (fun _ => true) ["loop.example/pub-g03122/pub/flate.codeOrder"] gs q := hV
    obtain ⟨_, _, _, _, d, _, rfl, _⟩ := trodVars_one hV'
    exact ⟨d, rfl⟩
  refine (fnKind_w E0 W hG v0 more last hAg hb hL47).mono fun e W' ⟨v, he, hv, kp⟩ => ?_
  subst hv
  exact ⟨_, he, post_true (s := Rows.fnKindSpec) hW' kp rfl rfl kind_par rfl⟩
theorem kind_said : Rows.FnKindSaid :=
  OpenClaim.holds_of_cond 6 Tryd.f6 rfl rfl rfl rfl rfl rfl rfl ⟨rfl, rfl, rfl, rfl, rfl⟩ rfl rfl rfl rfl rfl (by kernel_rfl) Tryd.func6 (by kernel_rfl)
    (of_decide_eq_true (by kernel_rfl)) (by unfold Func.isWrapper; first | (rw [if_pos (by decide +kernel)]; kernel_rfl) | (rw [if_neg (by decide +kernel)]; exact ⟨rfl, rfl⟩))
    (fun os started H enc _ F => by rw [OpenClaim.pre_eq_preRow]; exact kind_lifted os started H enc F)
theorem kind_plain (f : FuncId) (fn : Func) (hf : Tryd.pinned.checked.prog.funcNamed Rows.fnKindRow.func = some f) (hfn : Tryd.pinned.checked.prog.funcs[f]? = some fn) :
    true = Tryd.pinned.checked.prog.looks [] ∧ ∀ (j : Nat) t, fn.params[j]? = some t → Tryd.pinned.checked.prog.wantsStandIn t = false := by
  obtain rfl : f = 6 := Option.some.inj ((show Tryd.prog.funcNamed Rows.fnKindRow.func = some 6 by kernel_rfl).symm.trans hf) |>.symm
  obtain rfl : fn = Tryd.f6 := (Option.some.inj (Tryd.func6.symm.trans hfn)).symm
  refine ⟨by kernel_rfl, fun j t ht => ?_⟩
  rw [Tryd.params6] at ht
  have hm := Array.mem_of_getElem? ht
  simp at hm
  rcases hm with rfl | rfl
  · exact (show Tryd.prog.wantsStandIn 22 = false by kernel_rfl)
  · exact (show Tryd.prog.wantsStandIn 4 = false by kernel_rfl)
theorem kind_card : Rows.FnKindCardSaid :=
  Claim7.holds_tied_plain_at .later [] _ _ _ _ kind_said (fun _ h => by cases h) (by kernel_rfl) (fun _ h => by cases h) fnKind_row_tie rfl ⟨rfl, rfl⟩ (by kernel_rfl) rfl kind_plain (by kernel_rfl)
end Go.Proofs.YtejeloeaklpinaaDoor
