/- How a law is closed: what the listed variables give, how slices are opened, what is left behind a call that only lays new blocks. -/
import Derived.Test.YtejeloeaklpinaaDoorInf
import Derived.Test.YtejeloeaklpinaaDoorCards
import Derived.Test.YtejeloeaklpinaaDoorTie
import Derived.ProofKit
import Derived.OpenShut
import Derived.ChangeVars
import Derived.Carry
import Derived.Deep.Slices
import Derived.Deep.DeepHandedRow
import Derived.Deep.DeepWitnessRowRef
import Derived.Stop.LaidErr
import Derived.Lib.LaidTab
namespace Go.Proofs.YtejeloeaklpinaaDoor
open Go.ChangeShapes Go.WideShapes Go.ChangeAt Go.RowKit

theorem laidOut : laidOutB Tryd.prog = true := by kernel_rfl
theorem gOrder : Tryd.prog.globalNamed "loop.example/pub-g03122/pub/flate.codeOrder" = some 2 := by kernel_rfl
theorem gEOF : Tryd.prog.globalNamed "io.EOF" = some 0 := by kernel_rfl
theorem gUEOF : Tryd.prog.globalNamed "io.ErrUnexpectedEOF" = some 1 := by kernel_rfl
theorem gShort : Tryd.prog.globalNamed "io.ErrShortBuffer" = some 3 := by kernel_rfl
theorem tEOF : (Tryd.prog.globals[0]?).map (·.type) = some 62 := by kernel_rfl
theorem tUEOF : (Tryd.prog.globals[1]?).map (·.type) = some 62 := by kernel_rfl
theorem tShort : (Tryd.prog.globals[3]?).map (·.type) = some 62 := by kernel_rfl
theorem cells150 : Tryd.prog.cellsOf 150 = 1 := by kernel_rfl
theorem cells9 : Tryd.prog.cellsOf 9 = 1 := by kernel_rfl
theorem starE : "*" ++ "errors.errorString" = "*errors.errorString" := by decide
theorem row131 (u : TypeId) (h : Tryd.prog.typeName? 3 u = some "*errors.errorString") : u = 131 :=
  typeName_ptr_named (nm := "errors.errorString") (by rw [starE]; kernel_rfl) (by kernel_rfl) (by decide) u (by rw [starE]; exact h)

/-- What a call leaves that lays new blocks only and answers true. -/
theorem trodAll_stays {H : Type} {enc : TypeId × Value → H} {W W' : World} {sp : Nat → Bool} : ∀ {ts : List TypeId} {vs : List Value} {ds : List (DataW H)} {ps : List MemPlace}, (∀ t ∈ ts, Tryd.prog.readableRec t = true ∧ t < Tryd.prog.types.size) →
    DataW.TrodAll enc Tryd.prog W 0 (fun _ => true) true ts vs ds ps → (∀ p ∈ ps, W.sameAt W' p) → (∀ p ∈ ps, sp p.block = true) → DataW.TrodAll enc Tryd.prog W' 0 sp true ts vs ds ps
  | [], [], [], _, _, h, _, _ => h
  | t :: _, _ :: _, _ :: _, _, hT, ⟨p, q, h1, h2, e⟩, hs, hp =>
    ⟨p, q, WideElems.Trod_stays laidOut (hT t (by simp)).1 (hT t (by simp)).2 h1 (fun x hx => hs x (by rw [e]; exact List.mem_append_left _ hx)) (fun x hx => hp x (by rw [e]; exact List.mem_append_left _ hx)),
      trodAll_stays (fun t ht => hT t (List.mem_cons_of_mem _ ht)) h2 (fun x hx => hs x (by rw [e]; exact List.mem_append_right _ hx)) (fun x hx => hp x (by rw [e]; exact List.mem_append_right _ hx)), e⟩
theorem sameAt_of_kp {W W' : World} (k : Kp [] W W') {p : MemPlace} (hp : p.block < W.heap.size) : W.sameAt W' p := by
  cases p with
  | cell b off => exact World.cell?_of_block (w := W) (w' := W') (a := ⟨b, off, none⟩) (k.block b hp (by simp))
  | map b => exact k.block b hp (by simp)
set_option maxRecDepth 100000 in
theorem post_true {H : Type} {enc : TypeId × Value → H} {f : Func} {s : ChangeSpec} {apart fresh handsOn again : Bool} {W W' : World} {args : Array Value} {ds gs : List (DataW H)} {before : List MemPlace}
    (hW : DataW.Whole enc Tryd.prog f.params.toList s.vars apart W args.toList ds gs before) (kp : Kp [] W W') (hr : f.resultTypes = #[4]) (hfn : s.fn H (ds ++ gs) = { results := [.lit (.bool true)], args := ds, vars := gs })
    (hpar : ∀ t ∈ f.params.toList, Tryd.prog.readableRec t = true ∧ t < Tryd.prog.types.size) (hv : s.vars = ["loop.example/pub-g03122/pub/flate.codeOrder"]) :
    s.post enc Tryd.prog f apart fresh handsOn again W args (.bool true) W' := by
  have hlt : ∀ p ∈ before, p.block < W.heap.size := fun p hp => hW.lt p hp
  have hsame : ∀ p ∈ before, W.sameAt W' p := fun p hp => sameAt_of_kp kp (hlt p hp)
  have hold : ∀ p ∈ before, (fun b => decide (b < W.heap.size)) p.block = true := fun p hp => by simpa using hlt p hp
  have hW0 := hW
  obtain ⟨p, q, hA, hV, e, hz, hn⟩ := hW
  have hA' : DataW.TrodAll enc Tryd.prog W 0 (fun _ => true) true f.params.toList args.toList ds p := hA
  have hV' : DataW.TrodVars enc Tryd.prog W (fun _ => true) s.vars gs q := hV
  have hargs : ∀ sp : Nat → Bool, (∀ p ∈ before, sp p.block = true) → DataW.TrodAll enc Tryd.prog W' 0 sp true f.params.toList args.toList ds p := fun sp hsp =>
    trodAll_stays hpar hA' (fun x hx => hsame x (by rw [e]; exact List.mem_append_left _ hx)) (fun x hx => hsp x (by rw [e]; exact List.mem_append_left _ hx))
  have hvars : ∀ sp : Nat → Bool, (∀ p ∈ before, sp p.block = true) → DataW.TrodVars enc Tryd.prog W' sp s.vars gs q := by
    intro sp hsp
    rw [hv] at hV' ⊢
    obtain ⟨g, t, cs, fuel, d, p2, rfl, h1, h2, h3, h4, rfl⟩ := trodVars_one hV'
    obtain rfl := Option.some.inj (gOrder.symm.trans h1)
    have h3' : W'.var? Tryd.prog "loop.example/pub-g03122/pub/flate.codeOrder" = some cs := by
      unfold World.var? at h3 ⊢
      rw [gOrder] at h3 ⊢
      simp only [Option.bind_some] at h3 ⊢
      have hb : 2 < W.heap.size := by
        rcases Nat.lt_or_ge 2 W.heap.size with h' | h'
        · exact h'
        · simp [Array.getElem?_eq_none h'] at h3
      rw [kp.block 2 hb (by simp)]
      exact h3
    have ht : t = 98 := by
      have h5 : (Tryd.prog.globals[2]?).map (·.type) = some 98 := by kernel_rfl
      exact Option.some.inj (h2.symm.trans h5)
    subst ht
    have hr98 : Tryd.prog.readableRec 98 = true := by kernel_rfl
    have hn' := DataW.trod_stays (w' := W') (sp' := sp) (kids_book laidOut hr98) (book_sized hr98) (fun h => by cases h) ⟨of_decide_eq_true (by kernel_rfl), book_self 98⟩ h4 (fun x hx => hsame x (by rw [e]; exact List.mem_append_right _ (List.mem_append_right _ hx))) (fun x hx => hsp x (by rw [e]; exact List.mem_append_right _ (List.mem_append_right _ hx)))
    exact trodVars_mk1 h1 h2 h3' hn'
  have hres : ∀ (b : Nat) (sp : Nat → Bool) (hd : Bool), DataW.TrodAll enc Tryd.prog W' b sp hd f.resultTypes.toList ((Value.bool true).resultList f.resultTypes.size) [.lit (.bool true)] [] := by
    intro b sp hd
    rw [hr]
    exact trodAll_cons_mk (shut_bool Tryd.underlying4 _) trodAll_mk0
  have hok0 : Value.okWide Tryd.prog W' .any 0 4 (.bool true) := okWide_bool_mk Tryd.underlying4 true
  have hok := ok_one (P := Tryd.prog) (W' := W') (f := f) (v := .bool true) (t := 4) hr rfl hok0
  have hk : W.keptBut W' (· ∈ before) := World.keptBut_mono (fun _ h => h.elim) (World.keptBut_none_iff.2 ⟨kp.os, kp.output, fun i hi => kp.block i hi (by simp)⟩)
  refine ⟨ds, gs, before, [], p, q, hW0, ?_, ?_, ?_, World.keptBut_mono (fun x hx => ⟨hx, ?_⟩) hk, fun _ => ?_⟩
  · rw [hfn]; exact hres _ _ _
  · rw [hfn]; exact hargs _ hold
  · rw [hfn]; exact hvars _ hold
  · have hx' := hx
    rw [e, List.mem_append] at hx'
    exact Or.inr hx'
  · refine ⟨hok, _, _, ([] ++ p) ++ q, ⟨[] ++ p, q, trodAll_append (hargs _ (fun _ _ => rfl)) (hres _ _ _), hvars _ (fun _ _ => rfl), rfl, ?_, ?_⟩, ?_⟩
    · intro b off hp
      have hpb : MemPlace.cell b off ∈ before := by rw [e]; simpa using hp
      rw [World.frozen?_of_block (w := W) (w' := W') (a := ⟨b, off, none⟩) (kp.block b (hlt _ hpb) (by simp))]
      exact hz b off hpb
    · intro ha
      have := hn ha
      rw [e] at this
      simpa using this
    · intro x hx _
      rw [e]
      simpa using hx
end Go.Proofs.YtejeloeaklpinaaDoor
