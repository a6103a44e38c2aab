import Derived.Test.Qxb6600526aWk
namespace Go.Proofs.Qxb6600526a
open Go.RowKit P6

theorem info5 : (Try.prog.info? 5).map (fun i => (i.zero, i.size, i.bytes)) = some (some (.int .u8 0), 1, 1) := by kernel_rfl
/-- Numbers as bytes in memory. -/
def vals (o : List Nat) : List Value := o.map fun (n : Nat) => Value.int .u8 (n : Int)
theorem vals_length (o : List Nat) : (vals o).length = o.length := by simp [vals]
theorem vals_app (o q : List Nat) : vals (o ++ q) = vals o ++ vals q := by simp [vals]
theorem vals_one (o : List Nat) : ∀ u ∈ vals o, u.oneCell' = true := by
  intro u hu
  simp only [vals, List.mem_map] at hu
  obtain ⟨n, -, rfl⟩ := hu
  rfl
/-- The slice v owns the bytes o. -/
def Own (w : World) (B : Nat) (v : Value) (o : List Nat) : Prop := w.ownsRow B 5 1 v o.length (vals o)
theorem own_below {w1 w2 : World} {B : Nat} {v : Value} {o : List Nat} (h : Own w1 B v o) (hb : Below w1.heap.size w1 w2) : Own w2 B v o := by
  refine ⟨h.1, ?_⟩
  rcases h.2 with h2 | ⟨g, cap, cur, h3, h4, h5, h6⟩
  · exact Or.inl h2
  · right
    refine ⟨g, cap, cur, h3, h4, ?_, h6⟩
    have hg : g < w1.heap.size := by
      apply Classical.byContradiction
      intro hn
      rw [Array.getElem?_eq_none (by omega)] at h5
      cases h5
    rw [hb.block g hg, h5]
theorem own_shape {w : World} {B : Nat} {v : Value} {o : List Nat} (h : Own w B v o) (ho : 0 < o.length) : ∃ g cap, v = .slice (some ⟨g, 0, none⟩) o.length cap := by
  rcases h.2 with ⟨_, h2⟩ | ⟨g, cap, cur, h3, _⟩
  · omega
  · exact ⟨g, cap, h3⟩
theorem own_len {w : World} {B : Nat} {v : Value} {o : List Nat} (h : Own w B v o) : ∃ a cap, v = .slice a o.length cap := by
  rcases h.2 with ⟨h1, h2⟩ | ⟨g, cap, cur, h3, _⟩
  · exact ⟨none, 0, by rw [h1, h2]⟩
  · exact ⟨_, cap, h3⟩
theorem own_cell {w : World} {B g c n : Nat} {o : List Nat} (h : Own w B (.slice (some ⟨g, 0, none⟩) n c) o) {i : Nat} (hi : i < o.length) : w.cell? ⟨g, i, none⟩ = some (.int .u8 (o.getD i 0)) := by
  have h1 := World.ownsRow.cells h (g := g) rfl i (.int .u8 (o.getD i 0)) (by
    simp [vals, List.getElem?_eq_getElem hi, List.getD_eq_getElem?_getD])
  rw [Addr.add_mid, Nat.zero_add] at h1
  exact h1
/-- Behind an append. -/
theorem own_append {w w1 W w' : World} {v v' : Value} {o q : List Nat} {m : Nat} (h : Own w1 w.heap.size v o) (hb : Below w.heap.size w w1) (hW : Below w1.heap.size w1 W) (hm : m = q.length)
    (h1 : w'.ownsRow w.heap.size 5 1 v' (o.length + m) (vals o ++ vals q)) (hg : W.grownBy w' v.ownBlock) : Below w.heap.size w w' ∧ Own w' w.heap.size v' (o ++ q) := by
  have hbW : Below w.heap.size w W := hb.trans (hW.mono hb.size)
  refine ⟨hbW.grown hg hbW.size (fun k hk => (World.ownsRow.lt h k hk).1), ?_⟩
  unfold Own
  rw [vals_app, List.length_append, ← hm]
  exact h1

/-! ### one side, as far as i -/
structure S6 (x : Option (List Nat)) (last : Bool) (w wr : World) (l : List UInt8) (v : Value) (st i : Nat) (o : List Nat) : Prop where
  clr : Clr 58 l st i
  len : o.length ≤ 16
  run : sd last o (fromAt 58 l st) = x
  bel : Below w.heap.size w wr
  own : Own wr w.heap.size v o
def SaidS (x : Option (List Nat)) (w : World) (e : Ending) (w' : World) : Prop :=
  ∃ v, e = .returned (.tuple #[v, .bool x.isSome]) ∧ Below w.heap.size w w' ∧ ∀ o, x = some o → Own w' w.heap.size v o
theorem saidS_none {x : Option (List Nat)} {w w' : World} {v : Value} (h : x = none) (hb : Below w.heap.size w w') : SaidS x w (.returned (.tuple #[v, .bool false])) w' := by
  subst h; exact ⟨v, rfl, hb, fun o h => by cases h⟩
theorem saidS_some {x : Option (List Nat)} {w w' : World} {v : Value} {o : List Nat} (h : x = some o) (hb : Below w.heap.size w w') (ho : Own w' w.heap.size v o) : SaidS x w (.returned (.tuple #[v, .bool true])) w' := by
  subst h; exact ⟨v, rfl, hb, fun o' h => by cases h; exact ho⟩
theorem s6_scan {x : Option (List Nat)} {last : Bool} {w wr : World} {s : ByteArray} {v : Value} {st i : Nat} {o : List Nat} (h : S6 x last w wr (L s) v st i o) (hi : i < s.size) (hx : s[i].toNat ≠ 58) : S6 x last w wr (L s) v st (i + 1) o :=
  ⟨clr_step h.clr hi hx, h.len, h.run, h.bel, h.own⟩
theorem s6_end {x : Option (List Nat)} {last : Bool} {w wr : World} {s : ByteArray} {v : Value} {st i : Nat} {o : List Nat} (h : S6 x last w wr (L s) v st i o) (hi : i = s.size + 1) : x = some o := by
  have hlen := L_length s
  have := h.clr.2.2.1 (by omega)
  rw [← h.run, from_end (by omega)]; rfl
theorem from_isEmpty {x : Nat} {s : ByteArray} {i : Nat} (hi : i ≤ s.size) : (fromAt x (L s) (i + 1)).isEmpty = decide (i = s.size) := by
  have hlen := L_length s
  unfold fromAt
  by_cases h : i = s.size
  · rw [if_neg (by omega), decide_eq_true h]; rfl
  · rw [if_pos (by omega), decide_eq_false h]
    cases hsp : spl x ((L s).drop (i + 1)) with
    | nil => exact absurd hsp (spl_ne _)
    | cons => rfl
theorem s6_field {x : Option (List Nat)} {last : Bool} {w wr : World} {s : ByteArray} {v : Value} {st i : Nat} {o : List Nat} (h : S6 x last w wr (L s) v st i o) (hi : i ≤ s.size) (hx : ∀ hlt : i < s.size, s[i].toNat = 58) :
    (match fieldB (L (s.extract st i)) (last && decide (i = s.size)) with
      | none => none
      | some q => if 16 < (o ++ q).length then none else sd last (o ++ q) (fromAt 58 (L s) (i + 1))) = x := by
  have := h.run
  rw [from_cut h.clr hi hx, sd, from_isEmpty hi] at this
  exact this
theorem s6_bad {x : Option (List Nat)} {last : Bool} {w wr : World} {s : ByteArray} {v : Value} {st i : Nat} {o : List Nat} (h : S6 x last w wr (L s) v st i o) (hi : i ≤ s.size) (hx : ∀ hlt : i < s.size, s[i].toNat = 58)
    (hf : fieldB (L (s.extract st i)) (last && decide (i = s.size)) = none) : x = none := by
  have := s6_field h hi hx
  rw [hf] at this
  exact this.symm
theorem s6_long {x : Option (List Nat)} {last : Bool} {w wr : World} {s : ByteArray} {v : Value} {st i : Nat} {o q : List Nat} (h : S6 x last w wr (L s) v st i o) (hi : i ≤ s.size) (hx : ∀ hlt : i < s.size, s[i].toNat = 58)
    (hf : fieldB (L (s.extract st i)) (last && decide (i = s.size)) = some q) (hl : 16 < (o ++ q).length) : x = none := by
  have := s6_field h hi hx
  rw [hf] at this
  simp only [if_pos hl] at this
  exact this.symm
theorem s6_next {x : Option (List Nat)} {last : Bool} {w wr wr' : World} {s : ByteArray} {v v' : Value} {st i : Nat} {o q : List Nat} (h : S6 x last w wr (L s) v st i o) (hi : i ≤ s.size) (hx : ∀ hlt : i < s.size, s[i].toNat = 58)
    (hf : fieldB (L (s.extract st i)) (last && decide (i = s.size)) = some q) (hl : ¬ 16 < (o ++ q).length) (hb : Below w.heap.size w wr' ∧ Own wr' w.heap.size v' (o ++ q)) : S6 x last w wr' (L s) v' (i + 1) (i + 1) (o ++ q) := by
  have := s6_field h hi hx
  rw [hf] at this
  simp only [if_neg hl] at this
  exact ⟨clr_next (by rw [L_length]; exact hi), by omega, this, hb.1, hb.2⟩
theorem field_dot {f : List UInt8} {b : Bool} (h : hasX 46 f = true) : fieldB f b = if b then dq 0 (spl 46 f) else none := by unfold fieldB; rw [if_pos h]
theorem field_hex {f : List UInt8} {b : Bool} (h : hasX 46 f = false) : fieldB f b = (hexF f).map fun v => [v / 256, v % 256] := by unfold fieldB; rw [if_neg (by simp [h])]
theorem quad_list {q : List Nat} {G : Nat → Nat} (hq : q.length = 4) (hG : ∀ i, i < 4 → G i = q.getD i 0) : q = [G 0, G 1, G 2, G 3] := by
  rw [hG 0 (by omega), hG 1 (by omega), hG 2 (by omega), hG 3 (by omega)]
  match q, hq with
  | [a, b, c, d], _ => rfl
theorem hexF_lt {f : List UInt8} {v : Nat} (h : hexF f = some v) : v < 65536 := by
  have key : ∀ (f : List UInt8) (g v : Nat), hexAll g f = some v → v < (g + 1) * 16 ^ f.length := by
    intro f
    induction f with
    | nil => intro g v h; simp [hexAll] at h; simp; omega
    | cons c f ih =>
      intro g v h
      rw [hexAll] at h
      cases hc : hexV c with
      | none => rw [hc] at h; cases h
      | some d =>
        rw [hc] at h
        have h1 := ih _ _ h
        have h2 := hexV_lt hc
        have h3 : (g * 16 + d + 1) * 16 ^ f.length ≤ (g + 1) * 16 * 16 ^ f.length := Nat.mul_le_mul_right _ (by omega)
        rw [List.length_cons, Nat.pow_succ, Nat.mul_comm (16 ^ f.length) 16, ← Nat.mul_assoc]
        omega
  unfold hexF at h
  split at h
  · cases h
  · rename_i hl
    have h1 := key _ _ _ h
    have h2 : 16 ^ f.length ≤ 16 ^ 4 := Nat.pow_le_pow_right (by omega) (by omega)
    omega
end Go.Proofs.Qxb6600526a
