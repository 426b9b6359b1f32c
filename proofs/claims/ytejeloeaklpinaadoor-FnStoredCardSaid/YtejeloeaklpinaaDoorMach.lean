/- The reader as a machine over numbers and lists: what each step does. Nothing of the program is in it. -/
import Derived.Test.YtejeloeaklpinaaDoorBits
namespace Go.Proofs.YtejeloeaklpinaaDoor

/-- How many codes are of one length. -/
def cnt (L : List Nat) (n : Nat) : Nat := (L.filter (· == n)).length
/-- The first code of a length. -/
def nc (L : List Nat) : Nat → Nat
  | 0 => 0
  | n + 1 => 2 * (nc L n + (if n = 0 then 0 else cnt L n))
/-- The greatest length, and the least that is not 0. -/
def mx : List Nat → Nat
  | [] => 0
  | a :: l => max a (mx l)
def mn : List Nat → Nat
  | [] => 0
  | a :: l => if a = 0 then mn l else if mn l = 0 then a else min a (mn l)
/-- A number's lowest n bits turned about. -/
def rev : Nat → Nat → Nat
  | 0, _ => 0
  | n + 1, x => rev n (x / 2) + x % 2 * 2 ^ n
/-- The code of symbol s. -/
def cod (L : List Nat) (s : Nat) : Nat := nc L (L.getD s 0) + cnt (L.take s) (L.getD s 0)
/-- The bits X begin with the code of s. -/
def covers (L : List Nat) (X s : Nat) : Bool := L.getD s 0 != 0 && X % 2 ^ L.getD s 0 == rev (L.getD s 0) (cod L s)
/-- The look-up: 16 * symbol + length; 0: none. -/
def lkL (L : List Nat) (X : Nat) : Nat :=
  match (List.range L.length).find? (covers L X) with
  | some s => 16 * s + L.getD s 0
  | none => 0
/-- A set of codes that the reader takes: all codes are taken, or there is one of one bit, or none. -/
def okL (L : List Nat) : Bool := mx L == 0 || nc L (mx L) + cnt L (mx L) == 2 ^ mx L || (mx L == 1 && cnt L 1 == 1)
/-- Codes as the reader keeps them: how many bits it fetches at least, and the look-up. -/
structure Cd where
  m : Nat
  lk : Nat → Nat
def cdL (L : List Nat) : Cd := ⟨mn L, lkL L⟩
def fixL : List Nat := List.replicate 144 8 ++ List.replicate 112 9 ++ List.replicate 24 7 ++ List.replicate 8 8

/-- The source: so many bytes, and all their bits as one number. -/
structure Src where
  N : Nat
  D : Nat
/-- How many bytes are read when n bits from p on are held. -/
def rdTo (p pos n : Nat) : Nat := max pos ((p + n + 7) / 8)

inductive Mode where
  | next
  | data (n : Nat)
  | huff (hl : Cd) (hd : Option Cd) (c : Option (Nat × Nat))
/-- The machine: place (bit), bytes read, all that was told (behind the dictionary), the last block, what comes next, the error (0 none, 1 end, 2 too short, 3 refused), how much was handed on, how much of that was taken. -/
structure A where
  p : Nat
  pos : Nat
  out : List Nat
  fin : Bool
  md : Mode
  err : Nat
  fl : Nat
  e : Nat

def A.short (S : Src) (a : A) : A := { a with pos := S.N, err := 2 }
def A.bad (a : A) : A := { a with err := 3 }
def A.flush (a : A) : A := { a with fl := a.out.length }
def A.finish (a : A) : A := if a.fin then { a with md := .next, err := 1, fl := a.out.length } else { a with md := .next }

/-- What is fetched: a value and the place behind it, too few bits, or a refusal with the bytes read. -/
inductive Got where
  | ok (v p pos : Nat)
  | short
  | bad (p pos : Nat)
def getBits (S : Src) (p pos n : Nat) : Got := if p + n ≤ 8 * S.N then .ok (bv S.D p n) (p + n) (rdTo p pos n) else .short
def getSym (S : Src) (c : Cd) (p pos : Nat) : Got :=
  let v := c.lk (S.D / 2 ^ p)
  if v % 16 = 0 then (if p + c.m ≤ 8 * S.N then .bad p (rdTo p pos c.m) else .short)
  else if p + max c.m (v % 16) ≤ 8 * S.N then .ok (v / 16) (p + v % 16) (rdTo p pos (max c.m (v % 16))) else .short
def Got.bind (x : Got) (f : Nat → Nat → Nat → Got) : Got :=
  match x with
  | .ok v p pos => f v p pos
  | .short => .short
  | .bad p pos => .bad p pos

/-- The length that a symbol tells: its base and how many bits more. -/
def lenOf (v : Nat) : Nat × Nat :=
  if v < 265 then (v - 254, 0) else if v < 269 then (v * 2 - 519, 1) else if v < 273 then (v * 4 - 1057, 2) else if v < 277 then (v * 8 - 2149, 3)
  else if v < 281 then (v * 16 - 4365, 4) else if v < 285 then (v * 32 - 8861, 5) else (258, 0)
def getLen (S : Src) (v p pos : Nat) : Got :=
  if 286 ≤ v then .bad p pos else if (lenOf v).2 = 0 then .ok (lenOf v).1 p pos else (getBits S p pos (lenOf v).2).bind fun x p pos => .ok ((lenOf v).1 + x) p pos
def getDist (S : Src) (hd : Option Cd) (p pos : Nat) : Got :=
  ((match hd with
    | none => (getBits S p pos 5).bind fun x p pos => .ok (rev 5 x) p pos
    | some c => getSym S c p pos) : Got).bind fun d p pos =>
      if d < 4 then .ok (d + 1) p pos
      else if d < 30 then (getBits S p pos ((d - 2) / 2)).bind fun x p pos => .ok (2 ^ ((d - 2) / 2 + 1) + 1 + (d % 2 * 2 ^ ((d - 2) / 2) + x)) p pos
      else .bad p pos
/-- Copies from d back, one byte behind the other. -/
def lz (out : List Nat) (d : Nat) : Nat → List Nat
  | 0 => out
  | k + 1 => lz out d k ++ [(lz out d k).getD ((lz out d k).length - d) 0]
def avail (out : List Nat) : Nat := 32768 - out.length % 32768

/-- One round of a block with codes: true where the step ends. -/
def mHuff (S : Src) (a : A) (hl : Cd) (hd : Option Cd) : Option (Nat × Nat) → A × Bool
  | none =>
    match getSym S hl a.p a.pos with
    | .short => (a.short S, true)
    | .bad p pos => ({ a with p := p, pos := pos }.bad, true)
    | .ok v p pos =>
      if v < 256 then
        (if (a.out.length + 1) % 32768 = 0 then ({ a with p := p, pos := pos, out := a.out ++ [v], md := .huff hl hd none }.flush, true)
         else ({ a with p := p, pos := pos, out := a.out ++ [v], md := .huff hl hd none }, false))
      else if v = 256 then ({ a with p := p, pos := pos }.finish, true)
      else match getLen S v p pos with
        | .short => (a.short S, true)
        | .bad p pos => ({ a with p := p, pos := pos }.bad, true)
        | .ok len p pos => match getDist S hd p pos with
          | .short => (a.short S, true)
          | .bad p pos => ({ a with p := p, pos := pos }.bad, true)
          | .ok dist p pos => if min a.out.length 32768 < dist then ({ a with p := p, pos := pos }.bad, true)
            else ({ a with p := p, pos := pos, md := .huff hl hd (some (len, dist)) }, false)
  | some (len, dist) =>
    if avail a.out ≤ len then ({ a with out := lz a.out dist (avail a.out), md := .huff hl hd (some (len - avail a.out, dist)) }.flush, true)
    else ({ a with out := lz a.out dist len, md := .huff hl hd none }, false)

/-- Bytes of the source. -/
def bytesAt (S : Src) (pos : Nat) : Nat → List Nat
  | 0 => []
  | n + 1 => bv S.D (8 * pos) 8 :: bytesAt S (pos + 1) n
/-- A block that is as it stands: its head. -/
def mStored (S : Src) (a : A) : A × Bool :=
  if S.N < a.pos + 4 then (a.short S, true)
  else if bv S.D (8 * a.pos) 16 + bv S.D (8 * a.pos + 16) 16 ≠ 65535 then ({ a with p := 8 * (a.pos + 4), pos := a.pos + 4 }.bad, true)
  else if bv S.D (8 * a.pos) 16 = 0 then ({ a with p := 8 * (a.pos + 4), pos := a.pos + 4 }.flush.finish, true)
  else ({ a with p := 8 * (a.pos + 4), pos := a.pos + 4, md := .data (bv S.D (8 * a.pos) 16) }, false)
def mData (S : Src) (a : A) (n : Nat) : A × Bool :=
  if S.N < a.pos + min n (avail a.out) then ({ a with out := a.out ++ bytesAt S a.pos (S.N - a.pos) }.short S, true)
  else if avail a.out ≤ n then ({ a with p := 8 * (a.pos + avail a.out), pos := a.pos + avail a.out, out := a.out ++ bytesAt S a.pos (avail a.out), md := .data (n - avail a.out) }.flush, true)
  else ({ a with p := 8 * (a.pos + n), pos := a.pos + n, out := a.out ++ bytesAt S a.pos n }.finish, true)

/-- The lengths of a block's codes. -/
def clLens (S : Src) : Nat → Nat → Nat → (Nat → Nat) → Option ((Nat → Nat) × Nat × Nat)
  | 0, p, pos, f => some (f, p, pos)
  | k + 1, p, pos, f => match clLens S k p pos f with
    | none => none
    | some (f, p, pos) => if p + 3 ≤ 8 * S.N then some (fun j => if j = [16, 17, 18, 0, 8, 7, 9, 6, 10, 5, 11, 4, 12, 3, 13, 2, 14, 1, 15].getD k 0 then bv S.D p 3 else f j, p + 3, rdTo p pos 3) else none
/-- The lengths told by codes: the list so far is in lens. -/
inductive Lens where
  | ok (l : List Nat) (p pos : Nat)
  | short
  | bad (p pos : Nat)
def rdLens (S : Src) (c : Cd) (n : Nat) : Nat → List Nat → Nat → Nat → Lens
  | 0, l, p, pos => .ok l p pos
  | fuel + 1, l, p, pos =>
    if n ≤ l.length then .ok l p pos else
    match getSym S c p pos with
    | .short => .short
    | .bad p pos => .bad p pos
    | .ok x p pos =>
      if x < 16 then rdLens S c n fuel (l ++ [x]) p pos
      else if x = 16 ∧ l.length = 0 then .bad p pos
      else match getBits S p pos (if x = 16 then 2 else if x = 17 then 3 else 7) with
        | .short => .short
        | .bad p pos => .bad p pos
        | .ok r p pos =>
          let rep := (if x = 18 then 11 else 3) + r
          if n < l.length + rep then .bad p pos
          else rdLens S c n fuel (l ++ List.replicate rep (if x = 16 then l.getD (l.length - 1) 0 else 0)) p pos
/-- A block with codes of its own: its head. -/
def mDyn (S : Src) (a : A) : A × Bool :=
  if 8 * S.N < a.p + 14 then (a.short S, true) else
  let pos := rdTo a.p a.pos 14
  let v := bv S.D a.p 14
  let nlit := v % 32 + 257
  let ndist := v / 32 % 32 + 1
  let ncl := v / 1024 + 4
  if 286 < nlit ∨ 30 < ndist then ({ a with pos := pos }.bad, true) else
  match clLens S ncl (a.p + 14) pos (fun _ => 0) with
  | none => (a.short S, true)
  | some (f, p, pos) =>
    let cl := (List.range 19).map f
    if okL cl = false then ({ a with p := p, pos := pos }.bad, true) else
    match rdLens S (cdL cl) (nlit + ndist) (nlit + ndist) [] p pos with
    | .short => (a.short S, true)
    | .bad p pos => ({ a with p := p, pos := pos }.bad, true)
    | .ok l p pos =>
      if okL (l.take nlit) = false ∨ okL (l.drop nlit) = false then ({ a with p := p, pos := pos }.bad, true)
      else ({ a with p := p, pos := pos, md := .huff ⟨max (mn (l.take nlit)) (l.getD 256 0), lkL (l.take nlit)⟩ (some (cdL (l.drop nlit))) none }, false)
/-- A block's head. -/
def mNext (S : Src) (a : A) : A × Bool :=
  if 8 * S.N < a.p + 3 then (a.short S, true) else
  let b : A := { a with p := a.p + 3, pos := rdTo a.p a.pos 3, fin := decide (bv S.D a.p 3 % 2 = 1) }
  if bv S.D a.p 3 / 2 = 0 then mStored S b
  else if bv S.D a.p 3 / 2 = 1 then ({ b with md := .huff (cdL fixL) none none }, false)
  else if bv S.D a.p 3 / 2 = 2 then mDyn S b
  else (b.bad, true)

def mic (S : Src) (a : A) : A × Bool :=
  match a.md with
  | .next => mNext S a
  | .data n => mData S a n
  | .huff hl hd c => mHuff S a hl hd c

/-- What one step of the reader comes to. -/
inductive Runs (S : Src) : A → A → Prop where
  | stop {a b : A} : mic S a = (b, true) → Runs S a b
  | more {a b c : A} : mic S a = (b, false) → Runs S b c → Runs S a c
theorem Runs.det {S : Src} {a b c : A} (h : Runs S a b) (k : Runs S a c) : b = c := by
  induction h with
  | stop h => cases k with
    | stop k => rw [h] at k; exact congrArg Prod.fst k
    | more k _ => rw [h] at k; exact absurd (congrArg Prod.snd k) (by simp)
  | more h _ ih => cases k with
    | stop k => rw [h] at k; exact absurd (congrArg Prod.snd k) (by simp)
    | more k k2 => rw [h] at k; have := congrArg Prod.fst k; simp only at this; subst this; exact ih k2

/-- What a Read of so many bytes comes to: how many, the error, the machine behind it. -/
def A.late (a : A) : A := if a.err ≠ 0 ∧ a.e = a.fl then a.flush else a
inductive Reads (S : Src) (n : Nat) : A → Nat → Nat → A → Prop where
  | give {a : A} : a.e < a.fl → Reads S n a (min n (a.fl - a.e)) (if a.fl - a.e ≤ n then a.err else 0) { a with e := a.e + min n (a.fl - a.e) }
  | done {a : A} : a.e = a.fl → a.err ≠ 0 → Reads S n a 0 a.err a
  | step {a b c : A} {k er : Nat} : a.e = a.fl → a.err = 0 → Runs S a b → Reads S n b.late k er c → Reads S n a k er c
theorem Reads.det {S : Src} {n : Nat} {a b c : A} {k k' er er' : Nat} (h : Reads S n a k er b) (h' : Reads S n a k' er' c) : k = k' ∧ er = er' ∧ b = c := by
  induction h with
  | give h => cases h' with
    | give h' => exact ⟨rfl, rfl, rfl⟩
    | done h1 _ => omega
    | step h1 _ _ _ => omega
  | done h1 h2 => cases h' with
    | give h' => omega
    | done h1 _ => exact ⟨rfl, rfl, rfl⟩
    | step _ h3 _ _ => omega
  | step h1 h2 hr _ ih => cases h' with
    | give h' => omega
    | done _ h3 => omega
    | step _ _ hr' hx => rw [hr.det hr'] at *; exact ih hx
end Go.Proofs.YtejeloeaklpinaaDoor
