import Derived.Test.Qxb6600526aXc
import Derived.Test.Qxb6600526aP6f
import Derived.Test.Qxb6600526aWn
namespace Go.Proofs.Qxb6600526a
open Go.RowKit P6

/-- The writer's memory: the box with the bytes, and the text. -/
structure WR (G : Nat → Nat) (w wr : World) (v : Value) (T : List UInt8) : Prop where
  bel : Below w.heap.size w wr
  box : Bytes wr w.heap.size 39 16 G
  big : w.heap.size + 1 ≤ wr.heap.size
  own : Own wr (w.heap.size + 1) v (nums T)
theorem wr_next {G : Nat → Nat} {w w1 w2 : World} {v v' : Value} {T T' : List UInt8} (h : WR G w w1 v T) (hb : Below (w.heap.size + 1) w1 w2) (ho : Own w2 (w.heap.size + 1) v' (nums T')) : WR G w w2 v' T' :=
  ⟨h.bel.trans (hb.mono (Nat.le_succ _)), h.box.below hb (Nat.lt_succ_self _), Nat.le_trans h.big hb.size, ho⟩
/-- Behind an append of the bytes q. -/
theorem wr_append {G : Nat → Nat} {w w1 W w' : World} {v v' : Value} {T : List UInt8} {q : List UInt8} {m : Nat} (h : WR G w w1 v T) (hW : Below w1.heap.size w1 W) (hm : m = (nums q).length)
    (h1 : w'.ownsRow (w.heap.size + 1) 5 1 v' ((nums T).length + m) (vals (nums T) ++ vals (nums q))) (hg : W.grownBy w' v.ownBlock) : WR G w w' v' (T ++ q) := by
  have := own_grow h.own (Below.refl _ w1) h.big hW hm h1 hg
  rw [← nums_app] at this
  exact wr_next h this.1 this.2
theorem wr_drew {G : Nat → Nat} {w w1 : World} {v : Value} {T : List UInt8} (h : WR G w w1 v T) : WR G w w1.drew v T :=
  ⟨below_drew' h.bel, h.box, h.big, h.own⟩
where below_drew' {B : Nat} {w w' : World} (h : Below B w w') : Below B w w'.drew := h.drew
theorem wr_start {G : Nat → Nat} {w w2 : World} {v : Value} (h : w2.ownsRow (w.heap.size + 1) 5 1 v 0 []) (hg : (w.alloc (.cells (arr G) 39)).grownBy w2 none) : WR G w w2 v [] := by
  have hb : Below (w.heap.size + 1) (w.alloc (.cells (arr G) 39)) w2 := (Below.refl _ _).grown hg (by rw [size_alloc]; omega) (fun k hk => by cases hk)
  have h0 : Bytes (w.alloc (.cells (arr G) 39)) w.heap.size 39 16 G := World.rowIs_alloc w _ _ _ fun i hi => arr_get G i (by rw [arr_size] at hi; exact hi)
  refine ⟨(Below.alloc (Below.refl _ w) (Nat.le_refl _) _).trans (hb.mono (Nat.le_succ _)), h0.below hb (Nat.lt_succ_self _), ?_, h⟩
  have := hb.size
  rw [size_alloc] at this
  exact this
theorem own_mono {w : World} {B B' : Nat} {v : Value} {o : List Nat} (h : Own w B v o) (hB : B' ≤ B) : Own w B' v o := by
  refine ⟨h.1, ?_⟩
  rcases h.2 with h2 | ⟨g, cap, cur, h3, h4, h5⟩
  · exact Or.inl h2
  · exact Or.inr ⟨g, cap, cur, h3, Nat.le_trans hB h4, h5⟩
/-- A text that is not empty: its slice, and its last byte. -/
theorem wr_last {G : Nat → Nat} {w w1 : World} {v : Value} {T : List UInt8} {c : UInt8} (h : WR G w w1 v (T ++ [c])) : ∃ g cap, v = .slice (some ⟨g, 0, none⟩) (T.length + 1) cap ∧ w1.cell? ⟨g, T.length, none⟩ = some (.int .u8 (c.toNat : Nat)) := by
  have hl : (nums (T ++ [c])).length = T.length + 1 := by rw [nums_length]; simp
  obtain ⟨g, cap, hv⟩ := own_shape h.own (by omega)
  have ho := h.own
  rw [hl] at hv
  refine ⟨g, cap, hv, ?_⟩
  rw [hv] at ho
  rw [own_cell ho (i := T.length) (by omega)]
  rw [nums_app, List.getD_eq_getElem?_getD, List.getElem?_append_right (by rw [nums_length]; exact Nat.le_refl _), nums_length, Nat.sub_self]
  rfl
theorem wr_none {G : Nat → Nat} {w w1 : World} {v : Value} (h : WR G w w1 v []) : ∃ ad cap, v = .slice ad 0 cap := by
  obtain ⟨ad, cap, hv, -⟩ := own_open h.own
  exact ⟨ad, cap, hv⟩
theorem text_last (T : List UInt8) : T = [] ∨ ∃ T' c, T = T' ++ [c] := by
  by_cases h : T = []
  · exact Or.inl h
  · exact Or.inr ⟨T.dropLast, T.getLast h, (List.dropLast_concat_getLast h).symm⟩
/-- Whether a colon is wanted. -/
def wants (T : List UInt8) : Bool := match T.getLast? with
  | none => false
  | some c => decide (c.toNat ≠ 58)
theorem wants_nil : wants [] = false := rfl
theorem wants_snoc (T : List UInt8) (c : UInt8) : wants (T ++ [c]) = decide (c.toNat ≠ 58) := by unfold wants; simp
theorem sep_wants (T : List UInt8) : sepOf T = if wants T = true then T ++ [58] else T := by
  unfold sepOf wants
  cases T.getLast? with
  | none => simp
  | some c => by_cases h : c.toNat = 58 <;> simp [h]

/-! ### the quad's part -/
def qpart (G : Nat → Nat) : Nat → List UInt8
  | 0 => []
  | 1 => dc (G 12)
  | n + 2 => qpart G (n + 1) ++ 46 :: dc (G (12 + (n + 1)))
theorem qpart_four (G : Nat → Nat) : qpart G 4 = qd (G 12) (G 13) (G 14) (G 15) := by simp [qpart, qd]
theorem qpart_first (G : Nat → Nat) : qpart G 0 ++ dc (G (12 + 0)) = qpart G 1 := rfl
theorem qpart_more (G : Nat → Nat) {n : Nat} (h : 0 < n) : qpart G n ++ [46] ++ dc (G (12 + n)) = qpart G (n + 1) := by
  cases n with
  | zero => omega
  | succ n => simp [qpart]
theorem dc_len (v : Nat) : (dc v).length ≤ 3 := by unfold dc; split <;> split <;> simp
theorem qpart_len (G : Nat → Nat) : ∀ n, (qpart G n).length ≤ 4 * n
  | 0 => by simp [qpart]
  | 1 => by have := dc_len (G 12); simp [qpart]; omega
  | n + 2 => by have := qpart_len G (n + 1); have := dc_len (G (12 + (n + 1))); simp [qpart] at *; omega
end Go.Proofs.Qxb6600526a
