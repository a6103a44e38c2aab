/-
  'match': the table's rows, as plain functions of the places; what a store does to the row at hand.
-/
import Derived.Test.Qxb6605540aMatchC
namespace Go.Proofs.Qxb6605540a.Mt
open Go.RowKit
open PMatch (M)

/-- The tokens as a list. -/
def toks (m : Nat) (K L : List Nat) (S : Nat → Nat → Int) : List PMatch.Tok := (List.range m).map fun i => tokOf (nth K i) (nth L i) (S i)
theorem len_toks (m : Nat) (K L : List Nat) (S : Nat → Nat → Int) : (toks m K L S).length = m := by simp [toks]
theorem drop_toks (m : Nat) (K L : List Nat) (S : Nat → Nat → Int) (i : Nat) (h : i < m) : (toks m K L S).drop i = tokOf (nth K i) (nth L i) (S i) :: (toks m K L S).drop (i + 1) := by
  rw [List.drop_eq_getElem_cons (by rw [len_toks]; exact h)]
  simp [toks]

/-- The tokens from i on match the text from p on. -/
def MT (ts : List PMatch.Tok) (bs : List Nat) (i p : Nat) : Bool := M (ts.drop i) (bs.drop p)
/-- They match behind some slash from p on. -/
def DA (ts : List PMatch.Tok) (bs : List Nat) (i p : Nat) : Bool := PMatch.dirsAfter (M (ts.drop i)) (bs.drop p)

theorem MT_last (ts : List PMatch.Tok) (bs : List Nat) (p : Nat) (hp : p ≤ bs.length) : MT ts bs ts.length p = decide (p = bs.length) := by
  unfold MT
  rw [List.drop_length]
  show (bs.drop p).isEmpty = _
  rw [Bool.eq_iff_iff, List.isEmpty_iff, List.drop_eq_nil_iff, decide_eq_true_iff]
  omega
theorem MT_star_end {ts : List PMatch.Tok} {bs : List Nat} {q : Nat} {t : PMatch.Tok} (ht : ts.drop q = t :: ts.drop (q + 1)) (h : t.kind = 3 ∨ t.kind = 4) : MT ts bs q bs.length = MT ts bs (q + 1) bs.length := by
  unfold MT; rw [ht, List.drop_length]
  rcases h with h | h
  · rw [PMatch.M3 _ _ _ h]; rfl
  · rw [PMatch.M4 _ _ _ h]; rfl
theorem MT_star {ts : List PMatch.Tok} {bs : List Nat} {q : Nat} {t : PMatch.Tok} (ht : ts.drop q = t :: ts.drop (q + 1)) (h : t.kind = 3) (p : Nat) (hp : p < bs.length) : MT ts bs q p = (MT ts bs (q + 1) p || (MT ts bs q (p + 1) && decide (nth bs p ≠ 47))) := by
  unfold MT; rw [ht, PMatch.M3 _ _ _ h, PMatch.M3 _ _ _ h, drop_nth bs p hp]; simp [PMatch.starM]
theorem MT_path {ts : List PMatch.Tok} {bs : List Nat} {q : Nat} {t : PMatch.Tok} (ht : ts.drop q = t :: ts.drop (q + 1)) (h : t.kind = 4) (p : Nat) (hp : p < bs.length) : MT ts bs q p = (MT ts bs (q + 1) p || MT ts bs q (p + 1)) := by
  unfold MT; rw [ht, PMatch.M4 _ _ _ h, PMatch.M4 _ _ _ h, drop_nth bs p hp]; simp [PMatch.starM]
theorem MT_dirs {ts : List PMatch.Tok} {bs : List Nat} {q : Nat} {t : PMatch.Tok} (ht : ts.drop q = t :: ts.drop (q + 1)) (h : t.kind = 5) (p : Nat) : MT ts bs q p = (MT ts bs (q + 1) p || DA ts bs (q + 1) p) := by
  unfold MT DA; rw [ht, PMatch.M5 _ _ _ h]
theorem MT_one_end {ts : List PMatch.Tok} {bs : List Nat} {q : Nat} {t : PMatch.Tok} (ht : ts.drop q = t :: ts.drop (q + 1)) (h3 : t.kind ≠ 3) (h4 : t.kind ≠ 4) (h5 : t.kind ≠ 5) : MT ts bs q bs.length = false := by
  unfold MT; rw [ht, List.drop_length, PMatch.M1 _ _ _ h3 h4 h5]; rfl
theorem MT_one {ts : List PMatch.Tok} {bs : List Nat} {q : Nat} {t : PMatch.Tok} (ht : ts.drop q = t :: ts.drop (q + 1)) (h3 : t.kind ≠ 3) (h4 : t.kind ≠ 4) (h5 : t.kind ≠ 5) (p : Nat) (hp : p < bs.length) : MT ts bs q p = (PMatch.takes t (nth bs p) && MT ts bs (q + 1) (p + 1)) := by
  unfold MT; rw [ht, PMatch.M1 _ _ _ h3 h4 h5, drop_nth bs p hp]; rfl
theorem DA_end (ts : List PMatch.Tok) (bs : List Nat) (q : Nat) : DA ts bs q bs.length = false := by
  unfold DA; rw [List.drop_length]; rfl
theorem DA_step (ts : List PMatch.Tok) (bs : List Nat) (q p : Nat) (hp : p < bs.length) : DA ts bs q p = (DA ts bs q (p + 1) || (decide (nth bs p = 47) && MT ts bs q (p + 1))) := by
  unfold DA MT; rw [drop_nth bs p hp]; rfl

/-- The two rows at hand: R in block bR, g in block bW, both the call's own; nothing old has turned. -/
structure RR (w wr : World) (bR bW n : Nat) (R g : Nat → Bool) : Prop where
  ne : bR ≠ bW
  loR : w.heap.size ≤ bR
  loW : w.heap.size ≤ bW
  row : wr.rowIs bR 4 (n + 1) (fun j => .bool (R j))
  wri : wr.rowIs bW 4 (n + 1) (fun j => .bool (g j))
  bel : Below w.heap.size w wr

variable {w wr : World} {bR bW n : Nat} {R g F : Nat → Bool}
theorem RR.swap (h : RR w wr bR bW n R g) : RR w wr bW bR n g R := ⟨fun e => h.ne e.symm, h.loW, h.loR, h.wri, h.row, h.bel⟩
theorem RR.congr {g' : Nat → Bool} (h : RR w wr bR bW n R g) (e : ∀ p, p ≤ n → g p = g' p) : RR w wr bR bW n R g' :=
  ⟨h.ne, h.loR, h.loW, h.row, h.wri.congr fun i hi => by rw [e i (by omega)], h.bel⟩
theorem RR.alloc (h : RR w wr bR bW n R g) (o : Obj) : RR w (wr.alloc o) bR bW n R g :=
  ⟨h.ne, h.loR, h.loW, h.row.alloc o, h.wri.alloc o, h.bel.alloc h.bel.size o⟩
theorem RR.drew (h : RR w wr bR bW n R g) : RR w wr.drew bR bW n R g := ⟨h.ne, h.loR, h.loW, h.row.drew, h.wri.drew, h.bel.drew⟩
theorem RR.below {w' : World} (h : RR w wr bR bW n R g) (hb : Below wr.heap.size wr w') : RR w w' bR bW n R g :=
  ⟨h.ne, h.loR, h.loW, row_below h.row hb, row_below h.wri hb, h.bel.trans (hb.mono h.bel.size)⟩
theorem RR.set (h : RR w wr bR bW n R g) (j : Nat) (x : Bool) : RR w (wr.setCell ⟨bW, j, none⟩ (.bool x)) bR bW n R (fun p => if p = j then x else g p) :=
  ⟨h.ne, h.loR, h.loW, h.row.setOther h.ne _, (h.wri.set j _).congr fun i _ => by by_cases e : i = j <;> simp [e], h.bel.setCell h.loW _⟩
/-- The row is written from the right: the places from j on are F's. -/
theorem RR.step {j : Nat} {v : Value} (h : RR w wr bR bW n R (fun p => if j + 1 ≤ p then F p else g p)) (hv : v = .bool (F j)) :
    RR w (wr.setCell ⟨bW, j, none⟩ v) bR bW n R (fun p => if j ≤ p then F p else g p) := by
  subst hv
  refine (h.set j _).congr fun p _ => ?_
  by_cases e : p = j
  · subst e; simp
  · by_cases h1 : j ≤ p
    · rw [if_neg e, if_pos (by omega), if_pos h1]
    · rw [if_neg e, if_neg (by omega), if_neg h1]
theorem RR.first {v : Value} (h : RR w wr bR bW n R g) (hv : v = .bool (F n)) : RR w (wr.setCell ⟨bW, n, none⟩ v) bR bW n R (fun p => if n ≤ p then F p else g p) := by
  subst hv
  refine (h.set n _).congr fun p hp => ?_
  by_cases e : p = n
  · subst e; simp
  · rw [if_neg e, if_neg (by omega)]
theorem RR.all (h : RR w wr bR bW n R (fun p => if 0 ≤ p then F p else g p)) : RR w wr bR bW n R F := h.congr fun p _ => by simp
theorem RR.cellR (h : RR w wr bR bW n R g) {p : Nat} (hp : p ≤ n) : wr.cell? ⟨bR, p, none⟩ = some (.bool (R p)) := h.row.cell (by omega)
theorem RR.cellW (h : RR w wr bR bW n R g) {p : Nat} (hp : p ≤ n) : wr.cell? ⟨bW, p, none⟩ = some (.bool (g p)) := h.wri.cell (by omega)
theorem RR.cellF {j : Nat} (h : RR w wr bR bW n R (fun p => if j ≤ p then F p else g p)) (hp : j ≤ n) : wr.cell? ⟨bW, j, none⟩ = some (.bool (F j)) := by
  rw [h.cellW hp]; simp

theorem RR_start (w : World) (n : Nat) (R : Nat → Bool) (hR : ∀ p, p ≤ n → R p = decide (p = n)) :
    RR w ((w.alloc (.cells ((madeCells #[.bool false] (n + 1)).setIfInBounds n (.bool true)) 4)).alloc (.cells (madeCells #[.bool false] (n + 1)) 4)) w.heap.size (w.heap.size + 1) n R (fun _ => false) := by
  have h1 : (w.alloc (.cells ((madeCells #[.bool false] (n + 1)).setIfInBounds n (.bool true)) 4)).rowIs w.heap.size 4 (n + 1) (fun j => .bool (R j)) := by
    refine ⟨_, Deep.blk_alloc_new _ _, by simp [size_madeCells], fun i hi => ?_⟩
    show _ = some (Value.bool (R i))
    rw [hR i (by omega), Array.getElem?_setIfInBounds]
    by_cases e : n = i
    · subst e; simp [size_madeCells]
    · rw [if_neg e]
      have e' : ¬ i = n := fun h => e h.symm
      simp [madeCells, hi, Nat.mod_one, e']
  have h2 := World.rowIs_made (w.alloc (.cells ((madeCells #[.bool false] (n + 1)).setIfInBounds n (.bool true)) 4)) (.bool false) (n + 1) 4
  rw [Deep.nblk_alloc] at h2
  exact ⟨by omega, Nat.le_refl _, by omega, h1.alloc _, h2, ((Below.refl _ _).alloc (Nat.le_refl _) _).alloc (by rw [Deep.nblk_alloc]; omega) _⟩

/-- The cells of a box of three. -/
def tri (x y z : Value) (j : Nat) : Value := if j = 0 then x else if j = 1 then y else z
theorem box_row {W : World} {B : Nat} {x y z : Value} (h : W.heap.size = B) : (W.alloc (.cells #[x, y, z] 64)).rowIs B 64 3 (tri x y z) := by
  subst h
  refine World.rowIs_alloc W #[x, y, z] 64 _ fun i hi => ?_
  simp at hi
  match i, hi with
  | 0, _ => rfl
  | 1, _ => rfl
  | 2, _ => rfl
theorem size_set (W : World) (a : Addr) (v : Value) : (W.setCell a v).heap.size = W.heap.size := by simp [World.setCell]
end Go.Proofs.Qxb6605540a.Mt
