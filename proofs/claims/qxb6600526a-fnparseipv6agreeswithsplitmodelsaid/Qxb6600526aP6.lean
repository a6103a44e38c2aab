/-
  parseIPv6 and the split model, in plain words; no Go in sight.
-/
namespace Go.Proofs.Qxb6600526a.P6

/-! ### bytes -/
def hexV (c : UInt8) : Option Nat :=
  if 48 ≤ c.toNat ∧ c.toNat ≤ 57 then some (c.toNat - 48)
  else if 97 ≤ c.toNat ∧ c.toNat ≤ 102 then some (c.toNat - 87)
  else if 65 ≤ c.toNat ∧ c.toNat ≤ 70 then some (c.toNat - 55)
  else none
def isD (c : UInt8) : Bool := decide (48 ≤ c.toNat ∧ c.toNat ≤ 57)

theorem hexV_lt {c : UInt8} {d : Nat} (h : hexV c = some d) : d < 16 := by
  unfold hexV at h
  split at h
  · simp at h; omega
  · split at h
    · simp at h; omega
    · split at h
      · simp at h; omega
      · cases h
theorem isD_hex {c : UInt8} (h : isD c = true) : hexV c = some (c.toNat - 48) := by
  unfold isD at h; simp at h; unfold hexV; rw [if_pos h]
theorem hexV_colon {c : UInt8} (h : c.toNat = 58) : hexV c = none := by unfold hexV; simp [h]
theorem hexV_dot {c : UInt8} (h : c.toNat = 46) : hexV c = none := by unfold hexV; simp [h]

/-! ### the parser, as the code goes -/
/-- Up to k hex digits at the head: the number with g ahead of it, and how many. -/
def hexRun : Nat → Nat → List UInt8 → Nat × Nat
  | 0, g, _ => (g, 0)
  | _ + 1, g, [] => (g, 0)
  | k + 1, g, c :: l => match hexV c with
    | some d => ((hexRun k (g * 16 + d) l).1, (hexRun k (g * 16 + d) l).2 + 1)
    | none => (g, 0)
/-- readDecimal(.., 255) with value v and n digits read. -/
def rd : Nat → Nat → List UInt8 → Option (Nat × Nat)
  | v, n, [] => if 0 < n then some (v, n) else none
  | v, n, c :: l =>
    if isD c then
      if n = 1 ∧ v = 0 then none
      else if 255 < v * 10 + (c.toNat - 48) then none
      else rd (v * 10 + (c.toNat - 48)) (n + 1) l
    else if 0 < n then some (v, n) else none
/-- parseIPv4 with k fields to go; 'first': no dot is asked ahead. -/
def p4 : Nat → Bool → List UInt8 → Option (List Nat)
  | 0, _, l => if l = [] then some [] else none
  | k + 1, first, l =>
    if first = true then
      match rd 0 0 l with
      | some (v, n) => (p4 k false (l.drop n)).map (v :: ·)
      | none => none
    else match l with
      | [] => none
      | c :: t => if c.toNat = 46 then
          match rd 0 0 t with
          | some (v, n) => (p4 k false (t.drop n)).map (v :: ·)
          | none => none
        else none

/-- One round of parseIPv6: none: it returns false; (true, ..): the loop is left; (false, ..): it goes on. -/
def rnd (g : Option Nat) (o : List Nat) (s : List UInt8) : Option (Bool × Option Nat × List Nat × List UInt8) :=
  if (hexRun 5 0 s).2 = 0 ∨ 4 < (hexRun 5 0 s).2 then none
  else if (s.drop (hexRun 5 0 s).2).head?.map (·.toNat) = some 46 then
    if 16 < o.length + 4 then none else (p4 4 true s).map fun q => (true, g, o ++ q, [])
  else match s.drop (hexRun 5 0 s).2 with
    | [] => some (true, g, o ++ [(hexRun 5 0 s).1 / 256, (hexRun 5 0 s).1 % 256], [])
    | c :: t =>
      if c.toNat ≠ 58 ∨ t = [] then none
      else match t with
        | [] => none
        | d :: t' =>
          if d.toNat = 58 then if g.isSome then none else some (false, some (o.length + 2), o ++ [(hexRun 5 0 s).1 / 256, (hexRun 5 0 s).1 % 256], t')
          else some (false, g, o ++ [(hexRun 5 0 s).1 / 256, (hexRun 5 0 s).1 % 256], d :: t')
def lp : Nat → Option Nat → List Nat → List UInt8 → Option (Option Nat × List Nat × List UInt8)
  | 0, g, o, s => some (g, o, s)
  | f + 1, g, o, s =>
    if o.length < 16 ∧ s ≠ [] then
      match rnd g o s with
      | none => none
      | some (true, g', o', s') => some (g', o', s')
      | some (false, g', o', s') => lp f g' o' s'
    else some (g, o, s)
def fin : Option Nat × List Nat × List UInt8 → Option (List Nat)
  | (g, o, s) => if s ≠ [] then none else match g with
    | none => if o.length = 16 then some o else none
    | some k => if o.length = 16 then none else some (o.take k ++ List.replicate (16 - o.length) 0 ++ o.drop k)
def start : List UInt8 → Option Nat × List UInt8
  | c :: d :: l => if c.toNat = 58 ∧ d.toNat = 58 then (some 0, l) else (none, c :: d :: l)
  | l => (none, l)
def p6 (s : List UInt8) : Option (List Nat) := (lp 9 (start s).1 [] (start s).2).bind fin

/-! ### the split model, as the law goes -/
/-- The text cut at its first double colon. -/
def cut2 : List UInt8 → Option (List UInt8 × List UInt8)
  | c :: d :: l => if c.toNat = 58 ∧ d.toNat = 58 then some ([], l) else (cut2 (d :: l)).map fun p => (c :: p.1, p.2)
  | _ => none
/-- The fields between the bytes x. -/
def spl (x : Nat) : List UInt8 → List (List UInt8)
  | [] => [[]]
  | c :: l => if c.toNat = x then [] :: spl x l else match spl x l with
    | f :: fs => (c :: f) :: fs
    | [] => [[c]]
def hexAll : Nat → List UInt8 → Option Nat
  | v, [] => some v
  | v, c :: l => match hexV c with
    | some d => hexAll (v * 16 + d) l
    | none => none
def hexF (f : List UInt8) : Option Nat := if f.length = 0 ∨ 4 < f.length then none else hexAll 0 f
def decAll : Nat → List UInt8 → Option Nat
  | v, [] => some v
  | v, c :: l => if isD c then decAll (v * 10 + (c.toNat - 48)) l else none
def decB (d : List UInt8) : Option Nat :=
  if d.length = 0 ∨ 3 < d.length then none
  else if 1 < d.length ∧ d.head?.map (·.toNat) = some 48 then none
  else match decAll 0 d with
    | some v => if 255 < v then none else some v
    | none => none
/-- The quad's fields, k of them read. -/
def dq : Nat → List (List UInt8) → Option (List Nat)
  | k, [] => if k = 4 then some [] else none
  | k, d :: ds => if k = 4 then none else match decB d with
    | some v => (dq (k + 1) ds).map (v :: ·)
    | none => none
def hasX (x : Nat) (f : List UInt8) : Bool := f.any fun c => decide (c.toNat = x)
def fieldB (f : List UInt8) (lastOK : Bool) : Option (List Nat) :=
  if hasX 46 f then if lastOK then dq 0 (spl 46 f) else none
  else (hexF f).map fun v => [v / 256, v % 256]
def sd (last : Bool) : List Nat → List (List UInt8) → Option (List Nat)
  | o, [] => some o
  | o, f :: fs => match fieldB f (last && fs.isEmpty) with
    | none => none
    | some q => if 16 < (o ++ q).length then none else sd last (o ++ q) fs
def side (s : List UInt8) (last : Bool) : Option (List Nat) := if s = [] then some [] else sd last [] (spl 58 s)
def model (s : List UInt8) : Option (List Nat) := match cut2 s with
  | none => match side s true with
    | some o => if o.length = 16 then some o else none
    | none => none
  | some (l, r) => if (cut2 r).isSome then none else match side l false with
    | none => none
    | some a => match side r true with
      | none => none
      | some b => if 14 < a.length + b.length then none else some (a ++ List.replicate (16 - a.length - b.length) 0 ++ b)
end Go.Proofs.Qxb6600526a.P6
