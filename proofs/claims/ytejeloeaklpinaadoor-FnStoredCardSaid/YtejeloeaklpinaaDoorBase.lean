/- Blocks of cells told by a function (Bk), what a call may change (Kp), and their small laws. Nothing of the program is in it. -/
import Derived.WalkKit
import Derived.WalkSpells
import Derived.WalkLawsBesides
import Derived.Deep.QuietTactic
import Derived.BigQuiet
namespace Go.Proofs.YtejeloeaklpinaaDoor
open Go.RowKit

/-- One place of a function turned. -/
def upd (g : Nat → Value) (k : Nat) (v : Value) : Nat → Value := fun j => if j = k then v else g j
theorem upd_same (g : Nat → Value) (k : Nat) (v : Value) : upd g k v k = v := by simp [upd]
theorem upd_ne (g : Nat → Value) (k j : Nat) (v : Value) (h : j ≠ k) : upd g k v j = g j := by simp [upd, h]

/-- Block b is n cells of type t, none frozen, and cell k holds g k. -/
def Bk (w : World) (b n : Nat) (t : TypeId) (g : Nat → Value) : Prop :=
  ∃ C : Array Value, w.heap[b]? = some (.cells C t (0, 0)) ∧ C.size = n ∧ ∀ k, k < n → C[k]? = some (g k)

/-- The two functions agree but at the places listed. -/
def Off (L : List Nat) (g g' : Nat → Value) : Prop := ∀ k, k ∉ L → g' k = g k
theorem Off.refl (L : List Nat) (g : Nat → Value) : Off L g g := fun _ _ => rfl
theorem Off.trans {L : List Nat} {g g' g'' : Nat → Value} (h : Off L g g') (h' : Off L g' g'') : Off L g g'' := fun k hk => (h' k hk).trans (h k hk)
theorem Off.mono {L L' : List Nat} {g g' : Nat → Value} (h : Off L g g') (hl : ∀ k, k ∈ L → k ∈ L') : Off L' g g' := fun k hk => h k (fun hm => hk (hl k hm))
theorem Off.upd {L : List Nat} {g g' : Nat → Value} (h : Off L g g') {k : Nat} (hk : k ∈ L) (v : Value) : Off L g (upd g' k v) := by
  intro j hj
  have hjk : j ≠ k := by intro e; subst e; exact hj hk
  rw [upd_ne _ _ _ _ hjk]
  exact h j hj

section
variable {w w' : World} {b n : Nat} {t : TypeId} {g g' : Nat → Value}

theorem Bk.lt (h : Bk w b n t g) : b < w.heap.size := by
  obtain ⟨C, hC, _⟩ := h
  exact lt_of_block hC
theorem Bk.cell (h : Bk w b n t g) {k : Nat} (hk : k < n) : w.cell? ⟨b, k, none⟩ = some (g k) := by
  obtain ⟨C, hC, hs, hg⟩ := h
  simp [World.cell?, hC, hg k hk]
theorem Bk.cellv (h : Bk w b n t g) {k : Nat} {v : Value} (hk : k < n) (hv : g k = v) : w.cell? ⟨b, k, none⟩ = some v := by
  rw [h.cell hk, hv]
theorem Bk.frozen (h : Bk w b n t g) (k : Nat) : w.frozen? ⟨b, k, none⟩ = false := by
  obtain ⟨C, hC, hs, hg⟩ := h
  simp [World.frozen?, hC]
theorem Bk.of_block (h : Bk w b n t g) (hb : w'.heap[b]? = w.heap[b]?) : Bk w' b n t g := by
  obtain ⟨C, hC, hs, hg⟩ := h
  exact ⟨C, hb.trans hC, hs, hg⟩
theorem Bk.congr (h : Bk w b n t g) (hg : ∀ k, k < n → g k = g' k) : Bk w b n t g' := by
  obtain ⟨C, hC, hs, hc⟩ := h
  exact ⟨C, hC, hs, fun k hk => by rw [hc k hk, hg k hk]⟩
theorem Bk.set (h : Bk w b n t g) (k : Nat) (v : Value) : Bk (w.setCell ⟨b, k, none⟩ v) b n t (upd g k v) := by
  obtain ⟨C, hC, hs, hc⟩ := h
  refine ⟨C.setIfInBounds k v, ?_, by simpa using hs, ?_⟩
  · simp [World.setCell, Array.getElem?_modify, hC]
  · intro j hj
    by_cases hjk : j = k
    · subst hjk
      rw [upd_same]
      simp [hs, hj]
    · rw [upd_ne _ _ _ _ hjk, Array.getElem?_setIfInBounds_ne (by omega)]
      exact hc j hj
theorem Bk.other (h : Bk w b n t g) {a : Addr} (ha : a.block ≠ b) (v : Value) : Bk (w.setCell a v) b n t g :=
  h.of_block (Below.heap_setCell w a v b (fun e => ha e.symm))
theorem Bk.drew (h : Bk w b n t g) : Bk w.drew b n t g := h
theorem Bk.drewN (h : Bk w b n t g) (m : Nat) : Bk (w.drewN m) b n t g := h
theorem Bk.alloc (h : Bk w b n t g) (o : Obj) : Bk (w.alloc o) b n t g := h.of_block (Below.heap_alloc w o b h.lt)
theorem Bk.new (w : World) (C : Array Value) (t : TypeId) : Bk (w.alloc (.cells C t)) w.heap.size C.size t (fun k => C.getD k undef) := by
  refine ⟨C, heap_alloc_new w _, rfl, fun k hk => ?_⟩
  simp [hk]
theorem Bk.setRow (h : Bk w b n t g) (C : Array Value) (hC : C.size = n) (hg : ∀ k, k < n → C[k]? = some (g' k)) : Bk (w.setRow b C) b n t g' := by
  obtain ⟨C0, h0, hs, hc⟩ := h
  exact ⟨C, setRow_heap w b C0 C t _ h0, hC, hg⟩
theorem Bk.setRowOther (h : Bk w b n t g) {b' : Nat} (hb : b' ≠ b) (C : Array Value) : Bk (w.setRow b' C) b n t g :=
  h.of_block (setRow_other w b' b C (fun e => hb e.symm))
end

/-- What was there before is as it was, but for the blocks listed; the streams are as they were. -/
structure Kp (L : List Nat) (w w' : World) : Prop where
  os : w'.os = w.os
  tape : w'.tape = w.tape
  output : w'.output = w.output
  size : w.heap.size ≤ w'.heap.size
  block : ∀ k, k < w.heap.size → k ∉ L → w'.heap[k]? = w.heap[k]?

section
variable {L L' : List Nat} {w w' w'' : World}
theorem Kp.refl (L : List Nat) (w : World) : Kp L w w := ⟨rfl, rfl, rfl, Nat.le_refl _, fun _ _ _ => rfl⟩
theorem Kp.trans (h : Kp L w w') (k : Kp L w' w'') : Kp L w w'' :=
  ⟨k.os.trans h.os, k.tape.trans h.tape, k.output.trans h.output, Nat.le_trans h.size k.size,
    fun i hi hn => (k.block i (Nat.lt_of_lt_of_le hi h.size) hn).trans (h.block i hi hn)⟩
theorem Kp.mono (h : Kp L w w') (hl : ∀ k, k ∈ L → k ∈ L') : Kp L' w w' :=
  ⟨h.os, h.tape, h.output, h.size, fun i hi hn => h.block i hi (fun hm => hn (hl i hm))⟩
theorem Kp.setCell (h : Kp L w w') {a : Addr} (ha : a.block ∈ L) (v : Value) : Kp L w (w'.setCell a v) :=
  h.trans ⟨rfl, rfl, rfl, by simp, fun i _ hn => Below.heap_setCell _ _ _ _ (fun e => hn (e ▸ ha))⟩
theorem Kp.drew (h : Kp L w w') : Kp L w w'.drew := h.trans ⟨rfl, rfl, rfl, Nat.le_refl _, fun _ _ _ => rfl⟩
theorem Kp.drewN (h : Kp L w w') (m : Nat) : Kp L w (w'.drewN m) := h.trans ⟨rfl, rfl, rfl, Nat.le_refl _, fun _ _ _ => rfl⟩
theorem Kp.alloc (h : Kp L w w') (o : Obj) : Kp L w (w'.alloc o) :=
  h.trans ⟨rfl, rfl, rfl, by simp, fun i hi _ => Below.heap_alloc _ _ _ hi⟩
theorem Kp.setRow (h : Kp L w w') {b : Nat} (hb : b ∈ L) (C : Array Value) : Kp L w (w'.setRow b C) :=
  h.trans ⟨rfl, rfl, rfl, by simp [World.setRow], fun i _ hn => setRow_other _ _ _ _ (fun e => hn (e ▸ hb))⟩
/-- A block that is new may be written: it is none of those that were there. -/
theorem Kp.setCellNew (h : Kp L w w') {a : Addr} (ha : w.heap.size ≤ a.block) (v : Value) : Kp L w (w'.setCell a v) :=
  ⟨h.os, h.tape, h.output, by simpa using h.size, fun i hi hn => by
    rw [Below.heap_setCell _ _ _ _ (by omega)]; exact h.block i hi hn⟩
theorem Kp.setRowNew (h : Kp L w w') {b : Nat} (hb : w.heap.size ≤ b) (C : Array Value) : Kp L w (w'.setRow b C) :=
  ⟨h.os, h.tape, h.output, by simpa [World.setRow] using h.size, fun i hi hn => by
    rw [setRow_other _ _ _ _ (by omega)]; exact h.block i hi hn⟩
/-- A call that may change new blocks (of the outer call) is a call that changes nothing of what was there. -/
theorem Kp.transNew (h : Kp L w w') (k : Kp L' w' w'') (hl : ∀ i, i ∈ L' → i < w.heap.size → i ∈ L) : Kp L w w'' :=
  ⟨k.os.trans h.os, k.tape.trans h.tape, k.output.trans h.output, Nat.le_trans h.size k.size,
    fun i hi hn => (k.block i (Nat.lt_of_lt_of_le hi h.size) (fun hm => hn (hl i hm hi))).trans (h.block i hi hn)⟩
theorem Kp.below (h : Kp L w w') {B : Nat} (hB : B ≤ w.heap.size) (hl : ∀ k, k ∈ L → B ≤ k) : Below B w w' :=
  ⟨h.os, h.tape, h.output, h.size, fun k hk => h.block k (by omega) (fun hm => by have := hl k hm; omega)⟩
theorem Kp.grown {row : Option Nat} (hg : w.grownBy w' row) (hr : ∀ k, row = some k → k ∈ L ∨ w.heap.size ≤ k) : Kp L w w' :=
  ⟨hg.os, hg.tape, hg.output, hg.size, fun k hk hn => hg.block k hk (fun e => by
    rcases hr k e.symm with h | h
    · exact hn h
    · omega)⟩
theorem Bk.kp {b n : Nat} {t : TypeId} {g : Nat → Value} (h : Bk w b n t g) (k : Kp L w w') (hb : b ∉ L) : Bk w' b n t g :=
  h.of_block (k.block b h.lt hb)
theorem Kp.cell (h : Kp L w w') {a : Addr} {v : Value} (hc : w.cell? a = some v) (hn : a.block ∉ L) : w'.cell? a = some v := by
  rw [World.cell?_of_block (w := w) (h.block a.block (World.block_lt_of_cell? w a hc) hn)]
  exact hc
end
end Go.Proofs.YtejeloeaklpinaaDoor
