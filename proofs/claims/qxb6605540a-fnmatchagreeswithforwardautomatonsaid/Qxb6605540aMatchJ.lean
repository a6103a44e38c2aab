/-
  forwardMatch: the sets of states as plain functions of the places; its four rows in memory.
-/
import Derived.Test.Qxb6605540aMatchI
namespace Go.Proofs.Qxb6605540a.Mt
open Go.RowKit
open PMatch (stepAt stepMid closeTo at0 none0 fwd takes)

section
variable (ts : List PMatch.Tok) (a md : Nat → Bool) (c k p : Nat)
theorem sA3 (h : tkind ts k = 3) : stepAt ts a md c (k + 1) p = (stepAt ts a md c k p || (decide (p = k) && (a k && decide (c ≠ 47)))) := by
  rw [stepAt]; unfold tkind at h; rw [if_pos h]
theorem sA4 (h : tkind ts k = 4) : stepAt ts a md c (k + 1) p = (stepAt ts a md c k p || (decide (p = k) && a k)) := by
  rw [stepAt]; unfold tkind at h; rw [if_neg (by omega), if_pos h]
theorem sA5 (h : tkind ts k = 5) : stepAt ts a md c (k + 1) p = (stepAt ts a md c k p || (decide (p = k + 1) && ((a k || md k) && decide (c = 47)))) := by
  rw [stepAt]; unfold tkind at h; rw [if_neg (by omega), if_neg (by omega), if_pos h]
theorem sA1 (h3 : tkind ts k ≠ 3) (h4 : tkind ts k ≠ 4) (h5 : tkind ts k ≠ 5) : stepAt ts a md c (k + 1) p = (stepAt ts a md c k p || (decide (p = k + 1) && (a k && takes (ts.getD k ⟨0, 0, fun _ => false⟩) c))) := by
  rw [stepAt]; unfold tkind at h3 h4 h5; rw [if_neg h3, if_neg h4, if_neg h5]
theorem sM5 (h : tkind ts k = 5) : stepMid ts a md (k + 1) p = (stepMid ts a md k p || (decide (p = k) && (a k || md k))) := by
  rw [stepMid]; unfold tkind at h; rw [if_pos h]
theorem sM1 (h : tkind ts k ≠ 5) : stepMid ts a md (k + 1) p = stepMid ts a md k p := by
  rw [stepMid]; unfold tkind at h; rw [if_neg h]
end
theorem or_yes (x : Bool) (p q : Nat) : (x || (decide (p = q) && true)) = if p = q then true else x := by
  by_cases h : p = q <;> simp [h]
theorem or_no (x : Bool) (p q : Nat) : (x || (decide (p = q) && false)) = x := by simp

/-- The sets after p bytes. -/
def stA (ts : List PMatch.Tok) (bs : List Nat) : Nat → (Nat → Bool) × (Nat → Bool)
  | 0 => (closeTo ts at0 ts.length, none0)
  | p + 1 => (closeTo ts (stepAt ts (stA ts bs p).1 (stA ts bs p).2 (nth bs p) ts.length) ts.length, stepMid ts (stA ts bs p).1 (stA ts bs p).2 ts.length)
/-- Their two halves, under names that the walk does not open. -/
def stA1 (ts : List PMatch.Tok) (bs : List Nat) (p : Nat) : Nat → Bool := (stA ts bs p).1
def stA2 (ts : List PMatch.Tok) (bs : List Nat) (p : Nat) : Nat → Bool := (stA ts bs p).2

theorem stA_fwd (ts : List PMatch.Tok) (bs : List Nat) : ∀ p, p ≤ bs.length → fwd ts (bs.drop p) (stA ts bs p) = fwd ts bs (stA ts bs 0)
  | 0, _ => by simp
  | p + 1, h => by
    rw [← stA_fwd ts bs p (by omega), drop_nth bs p (by omega)]
    rfl
theorem stA_end (ts : List PMatch.Tok) (bs : List Nat) : stA1 ts bs bs.length ts.length = PMatch.M ts bs := by
  rw [← PMatch.fwd_eq, show (closeTo ts at0 ts.length, none0) = stA ts bs 0 from rfl, ← stA_fwd ts bs bs.length (Nat.le_refl _), List.drop_length]
  rfl

/-- The four rows at hand, the call's own; nothing old has turned. -/
structure FR (w wr : World) (bA bM bN bX m : Nat) (a md n x : Nat → Bool) : Prop where
  am : bA ≠ bM
  an : bA ≠ bN
  ax : bA ≠ bX
  mn : bM ≠ bN
  mx : bM ≠ bX
  nx : bN ≠ bX
  la : w.heap.size ≤ bA
  lm : w.heap.size ≤ bM
  ln : w.heap.size ≤ bN
  lx : w.heap.size ≤ bX
  ra : wr.rowIs bA 4 (m + 1) (fun j => .bool (a j))
  rm : wr.rowIs bM 4 (m + 1) (fun j => .bool (md j))
  rn : wr.rowIs bN 4 (m + 1) (fun j => .bool (n j))
  rx : wr.rowIs bX 4 (m + 1) (fun j => .bool (x j))
  bel : Below w.heap.size w wr

variable {w wr : World} {bA bM bN bX m : Nat} {a md n x n' x' : Nat → Bool}
theorem FR.swap (h : FR w wr bA bM bN bX m a md n x) : FR w wr bN bX bA bM m n x a md :=
  ⟨h.nx, fun e => h.an e.symm, fun e => h.mn e.symm, fun e => h.ax e.symm, fun e => h.mx e.symm, h.am, h.ln, h.lx, h.la, h.lm, h.rn, h.rx, h.ra, h.rm, h.bel⟩
theorem FR.congrN (h : FR w wr bA bM bN bX m a md n x) (e : ∀ p, p ≤ m → n p = n' p) : FR w wr bA bM bN bX m a md n' x :=
  { h with rn := h.rn.congr fun i hi => by rw [e i (by omega)] }
theorem FR.congrX (h : FR w wr bA bM bN bX m a md n x) (e : ∀ p, p ≤ m → x p = x' p) : FR w wr bA bM bN bX m a md n x' :=
  { h with rx := h.rx.congr fun i hi => by rw [e i (by omega)] }
theorem FR.alloc (h : FR w wr bA bM bN bX m a md n x) (o : Obj) : FR w (wr.alloc o) bA bM bN bX m a md n x :=
  { h with ra := h.ra.alloc o, rm := h.rm.alloc o, rn := h.rn.alloc o, rx := h.rx.alloc o, bel := h.bel.alloc h.bel.size o }
theorem FR.drew (h : FR w wr bA bM bN bX m a md n x) : FR w wr.drew bA bM bN bX m a md n x :=
  { h with ra := h.ra.drew, rm := h.rm.drew, rn := h.rn.drew, rx := h.rx.drew, bel := h.bel.drew }
theorem FR.drewN (h : FR w wr bA bM bN bX m a md n x) (q : Nat) : FR w (wr.drewN q) bA bM bN bX m a md n x :=
  { h with ra := h.ra.of_block rfl, rm := h.rm.of_block rfl, rn := h.rn.of_block rfl, rx := h.rx.of_block rfl, bel := below_drewN h.bel q }
theorem FR.setN (h : FR w wr bA bM bN bX m a md n x) (j : Nat) (v : Bool) : FR w (wr.setCell ⟨bN, j, none⟩ (.bool v)) bA bM bN bX m a md (fun p => if p = j then v else n p) x :=
  { h with ra := h.ra.setOther h.an _, rm := h.rm.setOther h.mn _, rx := h.rx.setOther (fun e => h.nx e.symm) _, bel := h.bel.setCell h.ln _, rn := (h.rn.set j _).congr fun i _ => by by_cases e : i = j <;> simp [e] }
theorem FR.setX (h : FR w wr bA bM bN bX m a md n x) (j : Nat) (v : Bool) : FR w (wr.setCell ⟨bX, j, none⟩ (.bool v)) bA bM bN bX m a md n (fun p => if p = j then v else x p) :=
  { h with ra := h.ra.setOther h.ax _, rm := h.rm.setOther h.mx _, rn := h.rn.setOther h.nx _, bel := h.bel.setCell h.lx _, rx := (h.rx.set j _).congr fun i _ => by by_cases e : i = j <;> simp [e] }
/-- A call that turns one of the rows alone. -/
theorem FR.grownN {w' : World} (h : FR w wr bA bM bN bX m a md n x) (hg : wr.grownBy w' (some bN)) (hr : w'.rowIs bN 4 (m + 1) (fun j => .bool (n' j))) : FR w w' bA bM bN bX m a md n' x :=
  { h with
    ra := h.ra.of_block (hg.block _ h.ra.lt (by simpa using h.an)), rm := h.rm.of_block (hg.block _ h.rm.lt (by simpa using h.mn)), rn := hr,
    rx := h.rx.of_block (hg.block _ h.rx.lt (by simpa using fun e => h.nx e.symm)), bel := h.bel.grown hg h.bel.size (fun k e => by simp at e; rw [← e]; exact h.ln) }
theorem FR.clear {k : Nat} (h : FR w wr bA bM bN bX m a md (fun p => if p < k then false else n p) (fun p => if p < k then false else x p)) :
    FR w ((wr.setCell ⟨bN, k, none⟩ (.bool false)).setCell ⟨bX, k, none⟩ (.bool false)) bA bM bN bX m a md (fun p => if p < k + 1 then false else n p) (fun p => if p < k + 1 then false else x p) := by
  refine (((h.setN k false).setX k false).congrN fun p _ => ?_).congrX fun p _ => ?_
  · by_cases e : p = k
    · subst e; simp
    · by_cases h2 : p < k
      · rw [if_neg e, if_pos h2, if_pos (by omega)]
      · rw [if_neg e, if_neg h2, if_neg (by omega)]
  · by_cases e : p = k
    · subst e; simp
    · by_cases h2 : p < k
      · rw [if_neg e, if_pos h2, if_pos (by omega)]
      · rw [if_neg e, if_neg h2, if_neg (by omega)]
theorem FR.cleared {k : Nat} (h : FR w wr bA bM bN bX m a md (fun p => if p < k then false else n p) (fun p => if p < k then false else x p)) (hk : k = m + 1) (ts : List PMatch.Tok) (c : Nat) :
    FR w wr bA bM bN bX m a md (stepAt ts a md c 0) (stepMid ts a md 0) :=
  (h.congrN fun p hp => by rw [if_pos (by omega)]; rfl).congrX fun p hp => by rw [if_pos (by omega)]; rfl
/-- The reading of the arguments, still there. -/
theorem FR.rd {L : List Nat} {ao : Option Addr} (h : FR w wr bA bM bN bX m a md n x) (hr : Rd w ao L) : Rd wr ao L := hr.below h.bel
theorem FR.rdS {S : Nat → Nat → Int} {q : Nat} {ao : Option Addr} (h : FR w wr bA bM bN bX m a md n x) (hr : RdS w ao q S) : RdS wr ao q S := hr.below h.bel

/-- The four rows as the function lays them, the first one closed. -/
theorem FR_start (w : World) (m : Nat) (a : Nat → Bool) {w' : World}
    (hg : ((((w.alloc (.cells ((madeCells #[.bool false] (m + 1)).setIfInBounds 0 (.bool true)) 4)).alloc (.cells (madeCells #[.bool false] (m + 1)) 4)).alloc (.cells (madeCells #[.bool false] (m + 1)) 4)).alloc (.cells (madeCells #[.bool false] (m + 1)) 4)).grownBy w' (some w.heap.size))
    (hr : w'.rowIs w.heap.size 4 (m + 1) (fun j => .bool (a j))) : FR w w' w.heap.size (w.heap.size + 1) (w.heap.size + 1 + 1) (w.heap.size + 1 + 1 + 1) m a none0 none0 none0 := by
  have s1 : ∀ (W : World) (o : Obj), (W.alloc o).heap.size = W.heap.size + 1 := fun W o => Deep.nblk_alloc W o
  have b0 : Below w.heap.size w (w.alloc (.cells ((madeCells #[.bool false] (m + 1)).setIfInBounds 0 (.bool true)) 4)) := (Below.refl _ _).alloc (Nat.le_refl _) _
  have z0 := s1 w (.cells ((madeCells #[.bool false] (m + 1)).setIfInBounds 0 (.bool true)) 4)
  generalize w.alloc (.cells ((madeCells #[.bool false] (m + 1)).setIfInBounds 0 (.bool true)) 4) = W0 at *
  have e1 := World.rowIs_made W0 (.bool false) (m + 1) 4
  have z1 := s1 W0 (.cells (madeCells #[.bool false] (m + 1)) 4)
  have b1 := b0.alloc b0.size (.cells (madeCells #[.bool false] (m + 1)) 4)
  generalize W0.alloc (.cells (madeCells #[.bool false] (m + 1)) 4) = W1 at *
  have e2 := World.rowIs_made W1 (.bool false) (m + 1) 4
  have z2 := s1 W1 (.cells (madeCells #[.bool false] (m + 1)) 4)
  have b2 := b1.alloc b1.size (.cells (madeCells #[.bool false] (m + 1)) 4)
  have e1' := e1.alloc (.cells (madeCells #[.bool false] (m + 1)) 4)
  generalize W1.alloc (.cells (madeCells #[.bool false] (m + 1)) 4) = W2 at *
  have e3 := World.rowIs_made W2 (.bool false) (m + 1) 4
  have z3 := s1 W2 (.cells (madeCells #[.bool false] (m + 1)) 4)
  have b3 := b2.alloc b2.size (.cells (madeCells #[.bool false] (m + 1)) 4)
  have e1'' := e1'.alloc (.cells (madeCells #[.bool false] (m + 1)) 4)
  have e2' := e2.alloc (.cells (madeCells #[.bool false] (m + 1)) 4)
  generalize W2.alloc (.cells (madeCells #[.bool false] (m + 1)) 4) = W3 at *
  rw [z0] at e1''
  rw [z1, z0] at e2'
  rw [z2, z1, z0] at e3
  exact ⟨by omega, by omega, by omega, by omega, by omega, by omega, Nat.le_refl _, by omega, by omega, by omega, hr, e1''.of_block (hg.block _ (by omega) (by simp)), e2'.of_block (hg.block _ (by omega) (by simp; omega)), e3.of_block (hg.block _ (by omega) (by simp; omega)),
    b3.grown hg b3.size (fun k e => by simp at e; omega)⟩
theorem at_start (w : World) (m : Nat) : (w.alloc (.cells ((madeCells #[.bool false] (m + 1)).setIfInBounds 0 (.bool true)) 4)).rowIs w.heap.size 4 (m + 1) (fun j => .bool (at0 j)) := by
  refine ⟨_, Deep.blk_alloc_new _ _, by simp [size_madeCells], fun i hi => ?_⟩
  rw [Array.getElem?_setIfInBounds]
  by_cases e : 0 = i
  · subst e; simp [size_madeCells, at0]
  · rw [if_neg e]
    show _ = some (Value.bool (at0 i))
    simp [madeCells, hi, Nat.mod_one, at0]
    omega
end Go.Proofs.Qxb6605540a.Mt
