/- A stream of blocks that are as they stand: what the machine makes of it. Plain lists and numbers. -/
import Derived.Test.YtejeloeaklpinaaDoorKind
namespace Go.Proofs.YtejeloeaklpinaaDoor
/-- The head of a block, a block, the stream and the bytes up to block k. -/
def stHead (last : Bool) (n : Nat) : List Nat := [if last then 1 else 0, n % 256, n / 256 % 256, 255 - n % 256, 255 - n / 256 % 256]
def stBlk (ps : List (List Nat)) (k : Nat) : List Nat := stHead (decide (k + 1 = ps.length)) (ps.getD k []).length ++ ps.getD k []
def stUp (ps : List (List Nat)) : Nat → List Nat
  | 0 => []
  | k + 1 => stUp ps k ++ stBlk ps k
def whUp (ps : List (List Nat)) : Nat → List Nat
  | 0 => []
  | k + 1 => whUp ps k ++ ps.getD k []
theorem stUp_pre (ps : List (List Nat)) (k : Nat) : ∀ d, ∃ r, stUp ps (k + d) = stUp ps k ++ r
  | 0 => ⟨[], by simp⟩
  | d + 1 => by
    obtain ⟨r, h⟩ := stUp_pre ps k d
    exact ⟨r ++ stBlk ps (k + d), by rw [← Nat.add_assoc]; simp only [stUp]; rw [h, List.append_assoc]⟩
theorem whUp_pre (ps : List (List Nat)) (k : Nat) : ∀ d, ∃ r, whUp ps (k + d) = whUp ps k ++ r
  | 0 => ⟨[], by simp⟩
  | d + 1 => by
    obtain ⟨r, h⟩ := whUp_pre ps k d
    exact ⟨r ++ ps.getD (k + d) [], by rw [← Nat.add_assoc]; simp only [whUp]; rw [h, List.append_assoc]⟩
theorem stHead_len (b : Bool) (n : Nat) : (stHead b n).length = 5 := rfl
theorem stUp_len (ps : List (List Nat)) : ∀ k, (stUp ps k).length = 5 * k + (whUp ps k).length
  | 0 => rfl
  | k + 1 => by simp only [stUp, whUp, stBlk, List.length_append, stHead_len, stUp_len ps k]; omega
theorem stUp_byte (ps : List (List Nat)) (h : ∀ k, ∀ x ∈ ps.getD k [], x < 256) : ∀ k, ∀ x ∈ stUp ps k, x < 256
  | 0, x, hx => by simp [stUp] at hx
  | k + 1, x, hx => by
    simp only [stUp, stBlk, List.mem_append] at hx
    rcases hx with hx | hx | hx
    · exact stUp_byte ps h k x hx
    · simp only [stHead, List.mem_cons, List.not_mem_nil, or_false] at hx
      rcases hx with rfl | rfl | rfl | rfl | rfl
      · split <;> omega
      all_goals omega
    · exact h k x hx
theorem srcb {data : List Nat} (hb : ∀ x ∈ data, x < 256) {i : Nat} (hi : i < data.length) : bv (srcOf data).D (8 * i) 8 = data.getD i 0 := by
  have e := dnum_byte (fun k => data.getD k 0) (fun k => getD_lt hb k) data.length i hi
  rw [pow256] at e
  exact e
theorem srcw {data : List Nat} (hb : ∀ x ∈ data, x < 256) {i : Nat} (hi : i + 1 < data.length) : bv (srcOf data).D (8 * i) 16 = data.getD i 0 + 256 * data.getD (i + 1) 0 := by
  rw [show (16 : Nat) = 8 + 8 from rfl, bv_add, srcb hb (by omega), show 8 * i + 8 = 8 * (i + 1) by omega, srcb hb hi]
theorem src3 {data : List Nat} (hb : ∀ x ∈ data, x < 256) {i : Nat} (hi : i < data.length) : bv (srcOf data).D (8 * i) 3 = data.getD i 0 % 8 := by
  rw [← bv_mod (srcOf data).D (8 * i) 8 3 (by decide), srcb hb hi]
theorem bytesAt_eq {data : List Nat} (hb : ∀ x ∈ data, x < 256) : ∀ (m pos : Nat), pos + m ≤ data.length → bytesAt (srcOf data) pos m = (data.drop pos).take m
  | 0, _, _ => by simp [bytesAt]
  | m + 1, pos, h => by
    simp only [bytesAt]
    rw [srcb hb (by omega), bytesAt_eq hb m (pos + 1) (by omega), List.drop_eq_getElem_cons (show pos < data.length by omega), List.take_succ_cons, List.getD_eq_getElem?_getD, List.getElem?_eq_getElem (show pos < data.length by omega)]
    rfl

section
variable {ps : List (List Nat)}
/-- The stream around block k. -/
theorem st_at {k : Nat} (hk : k < ps.length) : ∃ r, stUp ps ps.length = stUp ps k ++ (stHead (decide (k + 1 = ps.length)) (ps.getD k []).length ++ (ps.getD k [] ++ r)) := by
  obtain ⟨r, h⟩ := stUp_pre ps (k + 1) (ps.length - (k + 1))
  rw [show k + 1 + (ps.length - (k + 1)) = ps.length by omega] at h
  exact ⟨r, by rw [h]; simp only [stUp, stBlk, List.append_assoc]⟩
theorem st_head {k : Nat} (hk : k < ps.length) {j : Nat} (hj : j < 5) : (stUp ps ps.length).getD ((stUp ps k).length + j) 0 = (stHead (decide (k + 1 = ps.length)) (ps.getD k []).length).getD j 0 := by
  obtain ⟨r, h⟩ := st_at hk
  rw [h, getD_app, if_neg (by omega), getD_app, if_pos (by rw [stHead_len]; omega)]
  congr 1
  omega
theorem st_data {k : Nat} (hk : k < ps.length) {j m : Nat} (hj : j + m ≤ (ps.getD k []).length) : ((stUp ps ps.length).drop ((stUp ps k).length + 5 + j)).take m = ((ps.getD k []).drop j).take m := by
  obtain ⟨r, h⟩ := st_at hk
  have e : (stUp ps k ++ (stHead (decide (k + 1 = ps.length)) (ps.getD k []).length ++ (ps.getD k [] ++ r))).drop ((stUp ps k).length + 5 + j) = (ps.getD k [] ++ r).drop j := by
    rw [← List.append_assoc, List.drop_append, List.length_append, stHead_len, List.drop_of_length_le (by rw [List.length_append, stHead_len]; omega), List.nil_append, show (stUp ps k).length + 5 + j - ((stUp ps k).length + 5) = j by omega]
  rw [h, e, List.drop_append_of_le_length (by omega), List.take_append_of_le_length (by rw [List.length_drop]; omega)]
theorem st_len {k : Nat} (hk : k < ps.length) : (stUp ps k).length + 5 + (ps.getD k []).length ≤ (stUp ps ps.length).length := by
  obtain ⟨r, h⟩ := st_at hk
  rw [h]
  simp only [List.length_append, stHead_len]
  omega
theorem wh_len {k : Nat} (hk : k < ps.length) : (whUp ps k).length + (ps.getD k []).length ≤ (whUp ps ps.length).length := by
  obtain ⟨r, h⟩ := whUp_pre ps (k + 1) (ps.length - (k + 1))
  rw [show k + 1 + (ps.length - (k + 1)) = ps.length by omega] at h
  rw [h]
  simp only [List.length_append, whUp]
  omega
/-- Flushes that may come. -/
def stF (ps : List (List Nat)) (k l : Nat) : Nat := (ps.length - k) + ((whUp ps ps.length).length / 32768 - l / 32768)
inductive St (ps : List (List Nat)) : Nat → A → Prop where
  | next {a : A} (k : Nat) : k < ps.length → a.md = .next → a.err = 0 → a.pos = (stUp ps k).length → a.p = 8 * a.pos → a.out = whUp ps k → St ps (stF ps k a.out.length) a
  | data {a : A} (k j : Nat) : k < ps.length → a.md = .data ((ps.getD k []).length - j) → j ≤ (ps.getD k []).length → a.err = 0 → a.fin = decide (k + 1 = ps.length) → a.pos = (stUp ps k).length + 5 + j → a.out = whUp ps k ++ (ps.getD k []).take j → St ps (stF ps k a.out.length) a
  | done {a : A} : a.err = 1 → a.pos = (stUp ps ps.length).length → a.out = whUp ps ps.length → a.fl = a.out.length → St ps 0 a
theorem St.e {F : Nat} {a : A} (h : St ps F a) (e : Nat) : St ps F { a with e := e } := by
  cases h with
  | next k h1 h2 h3 h4 h5 h6 => exact .next (a := { a with e := e }) k h1 h2 h3 h4 h5 h6
  | data k j h1 h2 h3 h4 h5 h6 h7 => exact .data (a := { a with e := e }) k j h1 h2 h3 h4 h5 h6 h7
  | done h1 h2 h3 h4 => exact .done h1 h2 h3 h4
/-- Behind block k. -/
theorem st_finish {k l : Nat} (hk : k < ps.length) (hl0 : l ≤ (whUp ps (k + 1)).length) {b : A} (he : b.err = 0) (hf : b.fin = decide (k + 1 = ps.length)) (hpos : b.pos = (stUp ps (k + 1)).length) (hp : b.p = 8 * b.pos) (ho : b.out = whUp ps (k + 1)) :
    ∃ F', St ps F' b.finish ∧ F' + 1 ≤ stF ps k l := by
  have hl : (whUp ps (k + 1)).length ≤ (whUp ps ps.length).length := by have := wh_len hk; simp only [whUp, List.length_append]; omega
  unfold A.finish
  rw [hf]
  by_cases h : k + 1 = ps.length
  · rw [if_pos (by simpa using h)]
    refine ⟨0, .done rfl (by rw [← h]; exact hpos) (by rw [← h]; exact ho) rfl, ?_⟩
    unfold stF; omega
  · rw [if_neg (by simpa using h)]
    refine ⟨_, .next (k + 1) (by omega) rfl he hpos hp ho, ?_⟩
    show stF ps (k + 1) b.out.length + 1 ≤ _
    rw [ho]
    unfold stF
    have := Nat.div_le_div_right (c := 32768) hl0
    omega
theorem st_mic (hb : ∀ k, ∀ x ∈ ps.getD k [], x < 256) (hm : ∀ k, (ps.getD k []).length < 65536) {F : Nat} {a b : A} {t : Bool} (h : St ps F a) (he : a.err = 0) (hmic : mic (srcOf (stUp ps ps.length)) a = (b, t)) :
    ∃ F', St ps F' b ∧ F' + (if b.fl = a.fl then 0 else 1) ≤ F := by
  have hby := stUp_byte ps hb ps.length
  have hN : (srcOf (stUp ps ps.length)).N = (stUp ps ps.length).length := rfl
  cases h with
  | done h1 => omega
  | next k hk hmd _ hpos hp ho =>
    have hlen := st_len hk
    have hh : ∀ j, j < 5 → _ := fun j hj => st_head hk (j := j) hj
    have h0 : bv (srcOf (stUp ps ps.length)).D a.p 3 = if k + 1 = ps.length then 1 else 0 := by
      rw [hp, src3 hby (by omega), hpos]
      have := hh 0 (by decide)
      rw [Nat.add_zero] at this
      rw [this]
      show (if decide (k + 1 = ps.length) = true then 1 else 0) % 8 = _
      by_cases h : k + 1 = ps.length <;> simp [h]
    have hml := hm k
    have hrd : rdTo a.p a.pos 3 = (stUp ps k).length + 1 := by unfold rdTo; omega
    have w1 : bv (srcOf (stUp ps ps.length)).D (8 * ((stUp ps k).length + 1)) 16 = (ps.getD k []).length := by
      rw [srcw hby (by omega), hh 1 (by decide), Nat.add_assoc, hh (1 + 1) (by decide)]
      show (ps.getD k []).length % 256 + 256 * ((ps.getD k []).length / 256 % 256) = _
      omega
    have w2 : bv (srcOf (stUp ps ps.length)).D (8 * ((stUp ps k).length + 1) + 16) 16 = 65535 - (ps.getD k []).length := by
      rw [show 8 * ((stUp ps k).length + 1) + 16 = 8 * ((stUp ps k).length + 3) by omega, srcw hby (by omega), hh 3 (by decide), Nat.add_assoc, hh (3 + 1) (by decide)]
      show 255 - (ps.getD k []).length % 256 + 256 * (255 - (ps.getD k []).length / 256 % 256) = _
      omega
    have hfin : decide (bv (srcOf (stUp ps ps.length)).D a.p 3 % 2 = 1) = decide (k + 1 = ps.length) := by
      rw [h0]; split <;> simp_all
    have hz0 : bv (srcOf (stUp ps ps.length)).D a.p 3 / 2 = 0 := by rw [h0]; split <;> rfl
    rw [mic_next hmd] at hmic
    unfold mNext at hmic
    rw [hN, if_neg (by omega)] at hmic
    simp only at hmic
    rw [if_pos hz0] at hmic
    unfold mStored at hmic
    simp only [hrd, hfin, hN] at hmic
    rw [if_neg (by omega), w1, w2, if_neg (by omega)] at hmic
    split at hmic
    · rename_i hz
      have hnil : ps.getD k [] = [] := List.eq_nil_of_length_eq_zero hz
      obtain ⟨F', hF, hle⟩ := st_finish (l := a.out.length) (b := A.flush { a with p := 8 * ((stUp ps k).length + 1 + 4), pos := (stUp ps k).length + 1 + 4, fin := decide (k + 1 = ps.length) }) hk (by rw [ho]; simp only [whUp, List.length_append]; omega) he rfl (by simp only [A.flush, stUp, stBlk, List.length_append, stHead_len, hz]) rfl (by simp only [A.flush, whUp, hnil, List.append_nil]; exact ho)
      cases hmic
      refine ⟨F', hF, ?_⟩
      split <;> omega
    · rename_i hz
      cases hmic
      refine ⟨_, .data k 0 hk rfl (by omega) he rfl (by simp only) (by simp only [List.take_zero, List.append_nil]; exact ho), ?_⟩
      simp
  | data k j hk hmd hj _ hfin hpos ho =>
    have hlen := st_len hk
    have hwl := wh_len hk
    have hol : a.out.length = (whUp ps k).length + j := by rw [ho, List.length_append, List.length_take]; omega
    unfold mic at hmic
    rw [hmd] at hmic
    simp only at hmic
    unfold mData at hmic
    rw [hN, if_neg (by omega)] at hmic
    have hby2 : ∀ m, j + m ≤ (ps.getD k []).length → a.out ++ bytesAt (srcOf (stUp ps ps.length)) a.pos m = whUp ps k ++ (ps.getD k []).take (j + m) := fun m hm => by
      rw [ho, hpos, bytesAt_eq hby _ _ (by omega), st_data hk hm, List.append_assoc, ← List.take_add]
    split at hmic
    · rename_i hav
      cases hmic
      refine ⟨_, .data k (j + avail a.out) hk ?_ (by omega) he hfin (by show a.pos + avail a.out = _; omega) (hby2 _ (by omega)), ?_⟩
      · show Mode.data _ = Mode.data _
        congr 1
        omega
      · show stF ps k (a.out ++ bytesAt (srcOf (stUp ps ps.length)) a.pos (avail a.out)).length + (if _ then 0 else 1) ≤ _
        rw [List.length_append, bytesAt_length]
        have hd : (a.out.length + avail a.out) / 32768 = a.out.length / 32768 + 1 := by unfold avail; omega
        have hle : a.out.length + avail a.out ≤ (whUp ps ps.length).length := by omega
        have := Nat.div_le_div_right (c := 32768) hle
        unfold stF
        rw [hd]
        split <;> omega
    · rename_i hav
      obtain ⟨F', hF, hle⟩ := st_finish (l := a.out.length) (b := { a with p := 8 * (a.pos + ((ps.getD k []).length - j)), pos := a.pos + ((ps.getD k []).length - j), out := a.out ++ bytesAt (srcOf (stUp ps ps.length)) a.pos ((ps.getD k []).length - j) }) hk (by rw [hol]; simp only [whUp, List.length_append]; omega) he hfin (by simp only [stUp, stBlk, List.length_append, stHead_len]; omega) rfl (by
        simp only
        rw [hby2 _ (by omega), show j + ((ps.getD k []).length - j) = (ps.getD k []).length by omega, List.take_length]; rfl)
      rw [hmd] at hF
      cases hmic
      refine ⟨F', hF, ?_⟩
      split <;> omega
theorem St.late {F : Nat} {a : A} (h : St ps F a) : a.late = a := by
  unfold A.late
  split
  · rename_i h0
    cases h with
    | next _ _ _ h3 => exact absurd h3 h0.1
    | data _ _ _ _ _ h4 => exact absurd h4 h0.1
    | done _ _ _ h4 => unfold A.flush; rw [← h4]
  · rfl
theorem St.err {F : Nat} {a : A} (h : St ps F a) : a.err = 0 ∨ a.err = 1 ∧ a.fl = a.out.length ∧ a.out = whUp ps ps.length ∧ a.pos = (stUp ps ps.length).length := by
  cases h with
  | next _ _ _ h3 => exact .inl h3
  | data _ _ _ _ _ h4 => exact .inl h4
  | done h1 h2 h3 h4 => exact .inr ⟨h1, h4, h3, h2⟩
theorem St.out {F : Nat} {a : A} (h : St ps F a) : ∃ r, whUp ps ps.length = a.out ++ r := by
  cases h with
  | next k h1 _ _ _ _ h6 =>
    obtain ⟨r, h⟩ := whUp_pre ps k (ps.length - k)
    rw [show k + (ps.length - k) = ps.length by omega] at h
    exact ⟨r, by rw [h, h6]⟩
  | data k j h1 _ _ _ _ _ h7 =>
    obtain ⟨r, h⟩ := whUp_pre ps (k + 1) (ps.length - (k + 1))
    rw [show k + 1 + (ps.length - (k + 1)) = ps.length by omega] at h
    exact ⟨(ps.getD k []).drop j ++ r, by rw [h, h7]; simp only [whUp, List.append_assoc]; rw [← List.append_assoc ((ps.getD k []).take j), List.take_append_drop]⟩
  | done h1 h2 h3 h4 => exact ⟨[], by rw [h3, List.append_nil]⟩
theorem st_runs (hb : ∀ k, ∀ x ∈ ps.getD k [], x < 256) (hm : ∀ k, (ps.getD k []).length < 65536) {a b : A} (hr : Runs (srcOf (stUp ps ps.length)) a b) : ∀ {F : Nat}, St ps F a → a.err = 0 →
    ∃ F', St ps F' b ∧ F' + (if b.fl = a.fl then 0 else 1) ≤ F := by
  induction hr with
  | stop h => intro F hS he; exact st_mic hb hm hS he h
  | @more a b c h _ ih =>
    intro F hS he
    obtain ⟨F1, h1, h2⟩ := st_mic hb hm hS he h
    have hg := goes_mic (srcOf (stUp ps ps.length)) a
    rw [h] at hg
    obtain ⟨h3, _, h4⟩ := hg.fal rfl
    simp only at h3 h4
    obtain ⟨F2, h5, h6⟩ := ih h1 (h3.trans he)
    refine ⟨F2, h5, ?_⟩
    rw [h4] at h6
    omega
/-- What a Read leaves to be read. -/
def ind (a : A) : Nat := if a.e < a.fl then 1 else 0
theorem st_reads (hb : ∀ k, ∀ x ∈ ps.getD k [], x < 256) (hm : ∀ k, (ps.getD k []).length < 65536) {a b : A} {k er : Nat} (hr : Reads (srcOf (stUp ps ps.length)) 512 a k er b) : ∀ {F : Nat}, St ps F a → a.e ≤ a.fl → a.fl ≤ a.out.length →
    ∃ F', St ps F' b ∧ b.e = a.e + k ∧ b.e ≤ b.fl ∧ b.fl ≤ b.out.length ∧ (er = 0 → ((whUp ps ps.length).length - b.e) / 512 + F' + ind b + 1 ≤ ((whUp ps ps.length).length - a.e) / 512 + F + ind a) ∧ (er ≠ 0 → er = 1 ∧ b.e = b.fl ∧ b.err = 1) := by
  induction hr with
  | @give a h =>
    intro F hS h1 h2
    obtain ⟨r, ho⟩ := hS.out
    have hol : a.out.length ≤ (whUp ps ps.length).length := by rw [ho, List.length_append]; omega
    refine ⟨F, hS.e _, rfl, by simp only; omega, h2, fun her => ?_, fun her => ?_⟩
    · have hi : ind a = 1 := by unfold ind; rw [if_pos h]
      rw [hi]
      unfold ind
      simp only
      split <;> omega
    · split at her
      · rename_i hle
        rcases hS.err with h0 | ⟨h0, _⟩
        · exact absurd h0 her
        · rw [if_pos hle]
          exact ⟨h0, by simp only; omega, h0⟩
      · exact absurd rfl her
  | @done a h1 h2 =>
    intro F hS h3 h4
    rcases hS.err with h0 | ⟨h0, _⟩
    · exact absurd h0 h2
    · exact ⟨F, hS, by omega, h3, h4, fun her => absurd her h2, fun _ => ⟨h0, h1, h0⟩⟩
  | @step a b c k er h1 h2 hr _ ih =>
    intro F hS h3 h4
    obtain ⟨F1, hS1, hF1⟩ := st_runs hb hm hr hS h2
    obtain ⟨g1, g2, g3, _, _⟩ := hr.goes h4
    rw [hS1.late] at ih
    obtain ⟨F2, i1, i2, i3, i4, i5, i6⟩ := ih hS1 (by omega) g3
    refine ⟨F2, i1, by omega, i3, i4, fun her => ?_, i6⟩
    have := i5 her
    have hi : ind b ≤ if b.fl = a.fl then 0 else 1 := by
      unfold ind
      split
      · split <;> omega
      · split <;> omega
    rw [g1] at this
    omega
theorem st_dr (hb : ∀ k, ∀ x ∈ ps.getD k [], x < 256) (hm : ∀ k, (ps.getD k []).length < 65536) (hT : (whUp ps ps.length).length ≤ 60000) {i : Nat} {a b : A} {acc r : List Nat} {c : Nat} (hd : Dr (srcOf (stUp ps ps.length)) [] i a acc r c b) :
    ∀ {F : Nat}, St ps F a → a.e ≤ a.fl → a.fl ≤ a.out.length → acc = (whUp ps ps.length).take a.e → i + (((whUp ps ps.length).length - a.e) / 512 + F + ind a) < 10000 → c = 0 ∧ r = whUp ps ps.length ∧ b.pos = (stUp ps ps.length).length := by
  have hsz : ∀ i, szAt [] i = 512 := fun _ => rfl
  have key : ∀ {F F' : Nat} {a b : A} {k : Nat}, St ps F' b → b.e = a.e + k → b.e ≤ b.fl → b.fl ≤ b.out.length → (whUp ps ps.length).take a.e ++ (b.out.drop (b.e - k)).take k = (whUp ps ps.length).take b.e ∧ ((whUp ps ps.length).take a.e).length + k ≤ 60000 := by
    intro F F' a b k hS h1 h2 h3
    obtain ⟨r, ho⟩ := hS.out
    have hol : b.out.length ≤ (whUp ps ps.length).length := by rw [ho, List.length_append]; omega
    refine ⟨?_, by rw [List.length_take]; omega⟩
    have e : (b.out.drop (b.e - k)).take k = ((whUp ps ps.length).drop a.e).take k := by
      rw [ho, show b.e - k = a.e by omega, List.drop_append_of_le_length (by omega), List.take_append_of_le_length (by rw [List.length_drop]; omega)]
    rw [e, h1, ← List.take_add]
  induction hd with
  | stop h => intro F _ _ _ _ h5; omega
  | over h1 h2 h3 =>
    intro F hS h4 h5 h6 h7
    rw [hsz] at h2
    obtain ⟨F', i1, i2, i3, i4, _⟩ := st_reads hb hm h2 hS h4 h5
    have := (key (F := F) i1 i2 i3 i4).2
    rw [h6] at h3
    omega
  | @fin i k er a a' acc h1 h2 h3 h0 =>
    intro F hS h4 h5 h6 h7
    rw [hsz] at h2
    obtain ⟨F', i1, i2, i3, i4, _, i6⟩ := st_reads hb hm h2 hS h4 h5
    obtain ⟨rfl, j1, j2⟩ := i6 h0
    rcases i1.err with h | ⟨_, k1, k2, k3⟩
    · omega
    · refine ⟨rfl, ?_, k3⟩
      rw [h6, (key (F := F) i1 i2 i3 i4).1, j1, k1, k2, List.take_length]
  | @next i k a a' b acc r c h1 h2 h3 _ ih =>
    intro F hS h4 h5 h6 h7
    rw [hsz] at h2
    obtain ⟨F', i1, i2, i3, i4, i5, _⟩ := st_reads hb hm h2 hS h4 h5
    have := i5 rfl
    exact ih i1 i3 i4 (by rw [h6, (key (F := F) i1 i2 i3 i4).1]) (by omega)
theorem St.a0 (h : 0 < ps.length) : St ps (stF ps 0 0) (A0 []) := by
  have hl : (A0 []).out = whUp ps 0 := by show lastW [] = []; exact lastW_nil
  have hn : (A0 []).out.length = 0 := by rw [hl]; rfl
  have := St.next (ps := ps) (a := A0 []) 0 h rfl rfl rfl rfl hl
  rwa [hn] at this
/-- The law: whole blocks are read as they stand. -/
theorem st_law (hb : ∀ k, ∀ x ∈ ps.getD k [], x < 256) (hT : (whUp ps ps.length).length ≤ 60000) (hm : ∀ k, (ps.getD k []).length < 65536) (h0 : 0 < ps.length) (h1 : ps.length ≤ 2000) {r : List Nat} {c left : Nat} (hI : InfR (stUp ps ps.length) [] [] r c left) :
    c = 0 ∧ left = 0 ∧ r = whUp ps ps.length := by
  obtain ⟨a, hd, hl⟩ := hI
  have e0 : (A0 []).e = 0 := by show (lastW []).length = 0; rw [lastW_nil]; rfl
  have e1 : (A0 []).fl = 0 := by show (lastW []).length = 0; rw [lastW_nil]; rfl
  obtain ⟨k1, k2, k3⟩ := st_dr hb hm hT hd (St.a0 h0) (by omega) (by rw [e1]; omega) (by rw [e0]; rfl) (by
    rw [e0]
    unfold stF ind
    rw [e0, e1]
    simp only [Nat.lt_irrefl, if_false]
    omega)
  exact ⟨k1, by omega, k2⟩
theorem st_far (hb : ∀ k, ∀ x ∈ ps.getD k [], x < 256) (hm : ∀ k, (ps.getD k []).length < 65536) {a b : A} (hf : Far (srcOf (stUp ps ps.length)) a b) : (∃ F, St ps F a) → ∃ F, St ps F b := by
  induction hf with
  | refl => exact id
  | step h1 h2 h3 _ ih =>
    rintro ⟨F, hS⟩
    obtain ⟨F', h4, _⟩ := st_runs hb hm h3 hS h2
    exact ih ⟨F', by rw [h4.late]; exact h4⟩
  | take k h1 _ ih => rintro ⟨F, hS⟩; exact ih ⟨F, hS.e _⟩
theorem st_hc (hb : ∀ k, ∀ x ∈ ps.getD k [], x < 256) (hm : ∀ k, (ps.getD k []).length < 65536) (h0 : 0 < ps.length) : HCof (stUp ps ps.length) [] := by
  intro a hfar hn
  exfalso
  obtain ⟨F, hS⟩ := st_far hb hm hfar ⟨_, St.a0 h0⟩
  obtain ⟨he, hn⟩ := hn
  have hby := stUp_byte ps hb ps.length
  cases hS with
  | done h1 => omega
  | data k j _ h2 => unfold needsM at hn; rw [h2] at hn; exact hn
  | next k hk h2 _ hpos hp _ =>
    unfold needsM at hn
    rw [h2] at hn
    obtain ⟨_, hn⟩ := hn
    have hlen := st_len hk
    rw [hp, src3 hby (by omega), hpos] at hn
    have := st_head hk (j := 0) (by decide)
    rw [Nat.add_zero] at this
    rw [this] at hn
    have hx : (stHead (decide (k + 1 = ps.length)) (ps.getD k []).length).getD 0 0 ≤ 1 := by
      show (if decide (k + 1 = ps.length) = true then 1 else 0) ≤ 1
      split <;> omega
    omega
end
/-- A stream that is refused at once. -/
theorem one_law {data : List Nat} {b : A} (hm : mic (srcOf data) (A0 []) = (b, true)) (he : b.err ≠ 0) (ho : b.out = []) (h1 : b.fl = 0) (h2 : b.e = 0) {r : List Nat} {c left : Nat} (hI : InfR data [] [] r c left) : c = code b.err ∧ r = [] := by
  obtain ⟨a, hd, _⟩ := hI
  have hl : b.late = b := by
    unfold A.late
    split
    · have : b.out.length = b.fl := by rw [ho, h1]; rfl
      unfold A.flush; rw [this]
    · rfl
  have e0 : (A0 []).e = (A0 []).fl := rfl
  have hrd : Reads (srcOf data) (szAt [] 0) (A0 []) 0 b.err b := by
    refine .step e0 rfl (.stop hm) ?_
    rw [hl]
    exact .done (by omega) he
  have key : ∀ k er a', Reads (srcOf data) (szAt [] 0) (A0 []) k er a' → k = 0 ∧ er = b.err := fun k er a' hx => by
    obtain ⟨h1, h2, _⟩ := hx.det hrd
    exact ⟨h1, h2⟩
  cases hd with
  | stop h0 => omega
  | over _ hx h3 => obtain ⟨rfl, rfl⟩ := key _ _ _ hx; simp at h3
  | fin _ hx h3 h4 => obtain ⟨rfl, rfl⟩ := key _ _ _ hx; exact ⟨rfl, by simp⟩
  | next _ hx h3 h4 => have := (key _ _ _ hx).2; omega
theorem one_hc {data : List Nat} {b : A} (hm : mic (srcOf data) (A0 []) = (b, true)) (he : b.err ≠ 0) (hn : ¬ needs (srcOf data) (A0 [])) : HCof data [] := by
  intro a hfar hna
  have key : ∀ x c, Far (srcOf data) x c → x = A0 [] ∨ x.err ≠ 0 → c = A0 [] ∨ c.err ≠ 0 := by
    intro x c hf
    induction hf with
    | refl => exact id
    | step h1 h2 h3 _ ih =>
      rintro (rfl | h0)
      · refine ih (.inr ?_)
        rw [h3.det (.stop hm)]
        unfold A.late
        split
        · exact he
        · exact he
      · exact absurd h2 h0
    | take k h1 _ ih =>
      rintro (rfl | h0)
      · have hk : k = 0 := by
          have e : (A0 []).e = (A0 []).fl := rfl
          omega
        subst hk
        exact ih (.inl rfl)
      · exact ih (.inr h0)
  rcases key _ _ hfar (.inl rfl) with rfl | h0
  · exact absurd hna hn
  · exact absurd hna.1 h0
theorem nil_mic : mic (srcOf []) (A0 []) = ((A0 []).short (srcOf []), true) := by
  rw [mic_next rfl]
  unfold mNext
  rw [if_pos (by show 8 * 0 < 0 + 3; decide)]
theorem nil_law {r : List Nat} {c left : Nat} (hI : InfR [] [] [] r c left) : c = 2 :=
  (one_law nil_mic (by show (2 : Nat) ≠ 0; decide) lastW_nil (by show (lastW []).length = 0; rw [lastW_nil]; rfl) (by show (lastW []).length = 0; rw [lastW_nil]; rfl) hI).1
theorem nil_hc : HCof [] [] := one_hc nil_mic (by show (2 : Nat) ≠ 0; decide) (fun h => by have := h.2; unfold needsM at this; simp only [A0] at this; have h2 : (srcOf []).N = 0 := rfl; omega)
/-- Two lengths that are not turned. -/
def badS (b : Nat) : List Nat := [1, 0, 0, b % 256, b / 256]
theorem bad_mic {b : Nat} (hb : b < 65535) : ∃ x, mic (srcOf (badS b)) (A0 []) = (x, true) ∧ x.err = 3 ∧ x.out = [] ∧ x.fl = 0 ∧ x.e = 0 := by
  have hby : ∀ x ∈ badS b, x < 256 := by intro x hx; simp only [badS, List.mem_cons, List.not_mem_nil, or_false] at hx; omega
  have h0 : bv (srcOf (badS b)).D 0 3 = 1 := src3 hby (i := 0) (by show 0 < 5; decide)
  have h1 : bv (srcOf (badS b)).D (8 * 1) 16 = 0 := srcw hby (i := 1) (by show 2 < 5; decide)
  have h2 : bv (srcOf (badS b)).D (8 * 3) 16 = b % 256 + 256 * (b / 256) := srcw hby (i := 3) (by show 4 < 5; decide)
  have hl : (lastW []).length = 0 := by rw [lastW_nil]; rfl
  refine ⟨_, by
    rw [mic_next rfl]
    unfold mNext
    rw [show (A0 []).p = 0 from rfl, show (A0 []).pos = 0 from rfl, if_neg (by show ¬ 8 * 5 < 0 + 3; decide), h0]
    simp only
    rw [if_pos (by decide)]
    unfold mStored
    simp only [show rdTo 0 0 3 = 1 from rfl]
    rw [if_neg (by show ¬ 5 < 1 + 4; decide), if_pos (by rw [h1]; show 0 + bv (srcOf (badS b)).D (8 * 3) 16 ≠ 65535; rw [h2]; omega)], rfl, lastW_nil, hl, hl⟩
theorem bad_law {b : Nat} (hb : b < 65535) {r : List Nat} {c left : Nat} (hI : InfR (badS b) [] [] r c left) : c = 1 := by
  obtain ⟨x, h1, h2, h3, h4, h5⟩ := bad_mic hb
  have := (one_law h1 (by omega) h3 h4 h5 hI).1
  rw [h2] at this
  exact this
theorem bad_hc {b : Nat} (hb : b < 65535) : HCof (badS b) [] := by
  obtain ⟨x, h1, h2, h3, h4, h5⟩ := bad_mic hb
  refine one_hc h1 (by omega) fun h => ?_
  have hby : ∀ x ∈ badS b, x < 256 := by intro x hx; simp only [badS, List.mem_cons, List.not_mem_nil, or_false] at hx; omega
  have h0 : bv (srcOf (badS b)).D 0 3 = 1 := src3 hby (i := 0) (by show 0 < 5; decide)
  have := h.2
  unfold needsM at this
  simp only [A0] at this
  rw [h0] at this
  omega
theorem badS_eq : badS 65535 = stUp ([[]] : List (List Nat)) ([[]] : List (List Nat)).length := rfl
end Go.Proofs.YtejeloeaklpinaaDoor
