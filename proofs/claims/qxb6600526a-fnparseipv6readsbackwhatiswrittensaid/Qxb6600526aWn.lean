import Derived.Test.Qxb6600526aWm
namespace Go.Proofs.Qxb6600526a
open Go.RowKit P6

theorem cut2_join : ∀ {l a r : List UInt8}, cut2 l = some (a, r) → l = a ++ 58 :: 58 :: r
  | [], a, r, h => by simp [cut2] at h
  | [c], a, r, h => by simp [cut2] at h
  | c :: d :: l, a, r, h => by
    rw [cut2] at h
    split at h
    · rename_i hc
      simp at h
      obtain ⟨rfl, rfl⟩ := h
      rw [colon_eq hc.1, colon_eq hc.2]; rfl
    · cases hc : cut2 (d :: l) with
      | none => rw [hc] at h; cases h
      | some p =>
        obtain ⟨a', r'⟩ := p
        rw [hc] at h
        simp at h
        obtain ⟨rfl, rfl⟩ := h
        rw [cut2_join hc]; rfl
theorem idx_none {l : List UInt8} (h : cut2 l = none) : idxFrom 0 l = -1 := by unfold idxFrom; rw [h]
theorem idx_some {l a r : List UInt8} (h : cut2 l = some (a, r)) : idxFrom 0 l = (a.length : Int) := by unfold idxFrom; rw [h]; simp
theorem left_L {s : ByteArray} {a r : List UInt8} (h : cut2 (L s) = some (a, r)) : L (s.extract 0 a.length) = a ∧ L (s.extract (a.length + 2) s.size) = r ∧ a.length + 2 ≤ s.size := by
  have e := cut2_join h
  have hl := L_length s
  have h1 : (L s).length = a.length + (r.length + 2) := by rw [e]; simp
  refine ⟨?_, ?_, by omega⟩
  · rw [L_extract, e, List.drop_zero, Nat.sub_zero, List.take_left' rfl]
  · rw [L_from s _ _ (Nat.le_refl _), e]
    have : a ++ 58 :: 58 :: r = (a ++ [58, 58]) ++ r := by simp
    rw [this, List.drop_left' (by simp)]
theorem side_len {o : List Nat} {f : List UInt8} {last : Bool} (h : side f last = some o) : o.length ≤ 16 := by
  rw [side_FF] at h
  cases hf : FF last f with
  | none => rw [hf] at h; cases h
  | some q =>
    rw [hf] at h
    simp only [Option.bind_some] at h
    split at h
    · cases h
    · simp at h; subst h; omega

/-! ### the model's ways -/
theorem m_side_none {s : List UInt8} {x : Option (List Nat)} (hx : model s = x) (hc : cut2 s = none) (h : side s true = none) : x = none := by
  rw [← hx, model, hc]; simp only [h]
theorem m_side_some {s : List UInt8} {x : Option (List Nat)} {o : List Nat} (hx : model s = x) (hc : cut2 s = none) (h : side s true = some o) : x = if o.length = 16 then some o else none := by
  rw [← hx, model, hc]; simp only [h]
theorem m_twice {s l r : List UInt8} {x : Option (List Nat)} (hx : model s = x) (hc : cut2 s = some (l, r)) (h : (cut2 r).isSome = true) : x = none := by
  rw [← hx, model, hc]; simp only [h, if_true]
theorem m_left {s l r : List UInt8} {x : Option (List Nat)} (hx : model s = x) (hc : cut2 s = some (l, r)) (h : cut2 r = none) (h1 : side l false = none) : x = none := by
  rw [← hx, model, hc]; simp [h, h1]
theorem m_right {s l r : List UInt8} {x : Option (List Nat)} {a : List Nat} (hx : model s = x) (hc : cut2 s = some (l, r)) (h : cut2 r = none) (h1 : side l false = some a) (h2 : side r true = none) : x = none := by
  rw [← hx, model, hc]; simp [h, h1, h2]
theorem m_both {s l r : List UInt8} {x : Option (List Nat)} {a b : List Nat} (hx : model s = x) (hc : cut2 s = some (l, r)) (h : cut2 r = none) (h1 : side l false = some a) (h2 : side r true = some b) : x = if 14 < a.length + b.length then none else some (a ++ List.replicate (16 - a.length - b.length) 0 ++ b) := by
  rw [← hx, model, hc]; simp [h, h1, h2]

/-! ### sixteen bytes, from one block to another -/
theorem bytes_setCells {b t n : Nat} : ∀ (l : List Nat) (o : Nat) (w : World) (F : Nat → Nat), Bytes w b t n F → Bytes (w.setCells b o (vals l)) b t n (fun i => if o ≤ i ∧ i < o + l.length then l.getD (i - o) 0 else F i)
  | [], o, w, F, h => World.rowIs.congr h fun i _ => by simp only [List.length_nil]; rw [if_neg (by omega)]
  | x :: l, o, w, F, h => by
    have h1 := bytes_setCells l (o + 1) (w.setCell ⟨b, o, none⟩ (.int .u8 (x : Nat))) _ (h.set o x rfl rfl)
    refine World.rowIs.congr h1 fun i _ => ?_
    by_cases h2 : o + 1 ≤ i ∧ i < o + 1 + l.length
    · have e : i - o = (i - (o + 1)) + 1 := by omega
      simp only [if_pos h2, List.length_cons, if_pos (show o ≤ i ∧ i < o + (l.length + 1) by omega), e, List.getD_cons_succ]
    · by_cases h3 : i = o
      · subst h3; simp only [if_neg h2, List.length_cons, if_true, if_pos (show i ≤ i ∧ i < i + (l.length + 1) by omega), Nat.sub_self, List.getD_cons_zero]
      · simp only [if_neg h2, if_neg h3, List.length_cons, if_neg (show ¬ (o ≤ i ∧ i < o + (l.length + 1)) by omega)]
theorem arr_vals (G : Nat → Nat) : (arr G).toList = vals ((List.range 16).map G) := by simp [arr, vals]
def put16 (w : World) (b : Nat) (G : Nat → Nat) : World := w.setCells b 0 (arr G).toList
theorem bytes_put16 {w : World} {b : Nat} {t : TypeId} {F G : Nat → Nat} (h : Bytes w b t 16 F) : Bytes (put16 w b G) b t 16 G := by
  unfold put16
  rw [arr_vals]
  refine World.rowIs.congr (bytes_setCells ((List.range 16).map G) 0 w F h) fun i hi => ?_
  simp only [List.length_map, List.length_range, Nat.sub_zero]
  rw [if_pos (by omega)]
  simp [List.getD_eq_getElem?_getD, List.getElem?_map, List.getElem?_range hi]
theorem below_put16 {w w0 : World} {b B : Nat} {G : Nat → Nat} (h : Below B w0 w) (hb : B ≤ b) : Below B w0 (put16 w b G) := below_clear hb _ _ _ h
theorem load16 {ops : Array Oper} {rest : List Oper} {op : Oper} {a : Act} {w : World} {Q : Exit → Act → World → Prop} {b : Nat} {t : TypeId} {G : Nat → Nat} (hgd : op.guard = none) (ho : op.op = .load 39 (.tmp 4))
    (hx : a.eval (.tmp 4) = .pointer (some ⟨b, 0, none⟩)) (hB : Bytes w b t 16 G) (h : wpList Try.prog ops Q rest (a.put op.dst (.agg (arr G))) w) : wpList Try.prog ops Q (op :: rest) a w :=
  wpList_load_mid hgd 39 (.tmp 4) ho b 0 hx (arr G).toList _ (bytes_range hB) Try.underlying39 rfl rfl (by simpa using h)
theorem store16 {ops : Array Oper} {rest : List Oper} {op : Oper} {a : Act} {w : World} {Q : Exit → Act → World → Prop} {b : Nat} {t : TypeId} {F G : Nat → Nat} {y : Operand} (hgd : op.guard = none) (ho : op.op = .store 39 (.tmp 2) y)
    (hx : a.eval (.tmp 2) = .pointer (some ⟨b, 0, none⟩)) (hy : a.eval y = .agg (arr G)) (hB : Bytes w b t 16 F) (h : wpList Try.prog ops Q rest (a.put op.dst undef) (put16 w b G)) : wpList Try.prog ops Q (op :: rest) a w := by
  refine wpList_store_mid hgd 39 (.tmp 2) y ho b 0 (arr G) hx hy (by
    intro j hj
    rw [arr_size] at hj
    rw [Nat.zero_add]
    exact ⟨by rw [World.rowIs.cell hB hj]; rfl, World.rowIs.frozen hB _⟩) (by rw [arr_size]; rfl) (by simp [arr]; intro x _; rfl) h
theorem results28 {w : World} {b : Nat} {t : TypeId} {G : Nat → Nat} (h : Bytes w b t 16 G) (tmps : Array Value) (hp : tmps.getD 2 undef = .pointer (some ⟨b, 0, none⟩)) :
    (results Try.f28 tmps).run Try.prog w = .ok (.tuple #[.agg (arr G), tmps.getD 3 undef]) w := by
  rw [results_cell_tmp rfl, hp]
  show (((loadVar 39 ⟨b, 0, none⟩).run Try.prog w).andThen _) = _
  rw [bytes_load h]; rfl
theorem bytes_second (w : World) : Bytes ((w.alloc (.cells #[.int .u8 0, .int .u8 0, .int .u8 0, .int .u8 0, .int .u8 0, .int .u8 0, .int .u8 0, .int .u8 0, .int .u8 0, .int .u8 0, .int .u8 0, .int .u8 0, .int .u8 0, .int .u8 0, .int .u8 0, .int .u8 0] 39)).alloc (.cells #[.int .u8 0, .int .u8 0, .int .u8 0, .int .u8 0, .int .u8 0, .int .u8 0, .int .u8 0, .int .u8 0, .int .u8 0, .int .u8 0, .int .u8 0, .int .u8 0, .int .u8 0, .int .u8 0, .int .u8 0, .int .u8 0] 39)) (w.heap.size + 1) 39 16 (fun _ => 0) := by
  have h := bytes_zero (w.alloc (.cells #[.int .u8 0, .int .u8 0, .int .u8 0, .int .u8 0, .int .u8 0, .int .u8 0, .int .u8 0, .int .u8 0, .int .u8 0, .int .u8 0, .int .u8 0, .int .u8 0, .int .u8 0, .int .u8 0, .int .u8 0, .int .u8 0] 39))
  rw [size_alloc] at h
  exact h
theorem Bytes.below {w w' : World} {B b : Nat} {t : TypeId} {n : Nat} {F : Nat → Nat} (h : Bytes w b t n F) (hb : Below B w w') (hB : b < B) : Bytes w' b t n F := by
  obtain ⟨c, h1, h2, h3⟩ := h
  exact ⟨c, (hb.block b hB).trans h1, h2, h3⟩
theorem own_other {w : World} {B b i : Nat} {v u : Value} {o : List Nat} (h : Own w B v o) (hb : b < B) : Own (w.setCell ⟨b, i, none⟩ u) B v o := by
  refine ⟨h.1, ?_⟩
  rcases h.2 with h2 | ⟨g, cap, cur, h3, h4, h5, h6⟩
  · exact Or.inl h2
  · exact Or.inr ⟨g, cap, cur, h3, h4, (Go.Deep.blk_setCell_other _ _ _ _ (by show g ≠ b; omega)).trans h5, h6⟩
/-- The slice's shape, the address kept apart. -/
theorem own_open {w : World} {B : Nat} {v : Value} {o : List Nat} (h : Own w B v o) : ∃ (ad : Option Addr) (cap : Nat), v = .slice ad o.length cap ∧ (0 < o.length → ∃ g, B ≤ g ∧ ad = some ⟨g, 0, none⟩) := by
  rcases h.2 with ⟨h1, h2⟩ | ⟨g, cap, cur, h3, h4, _⟩
  · exact ⟨none, 0, by rw [h1, h2], fun h => by omega⟩
  · exact ⟨some ⟨g, 0, none⟩, cap, h3, fun _ => ⟨g, h4, rfl⟩⟩

/-- The two blocks of ipv6Model. -/
structure M0 (w wr : World) (G : Nat → Nat) : Prop where
  bel : Below w.heap.size w wr
  res : Bytes wr w.heap.size 39 16 (fun _ => 0)
  out : Bytes wr (w.heap.size + 1) 39 16 G
  big : w.heap.size + 2 ≤ wr.heap.size
theorem m0_below {w w1 w2 : World} {G : Nat → Nat} (h : M0 w w1 G) (hb : Below w1.heap.size w1 w2) : M0 w w2 G :=
  ⟨h.bel.trans (hb.mono h.bel.size), h.res.below hb (by have := h.big; omega), h.out.below hb (by have := h.big; omega), Nat.le_trans h.big hb.size⟩
theorem m0_set {w w1 : World} {G : Nat → Nat} {i v : Nat} {u : Value} (h : M0 w w1 G) (hu : u = .int .u8 (v : Nat)) : M0 w (w1.setCell ⟨w.heap.size + 1, i, none⟩ u) (fun j => if j = i then v else G j) :=
  ⟨below_set h.bel (by omega), h.res.other (by omega), h.out.set i v hu rfl, by rw [Go.Deep.nblk_setCell]; exact h.big⟩
theorem m0_start (w : World) : M0 w ((w.alloc (.cells #[.int .u8 0, .int .u8 0, .int .u8 0, .int .u8 0, .int .u8 0, .int .u8 0, .int .u8 0, .int .u8 0, .int .u8 0, .int .u8 0, .int .u8 0, .int .u8 0, .int .u8 0, .int .u8 0, .int .u8 0, .int .u8 0] 39)).alloc (.cells #[.int .u8 0, .int .u8 0, .int .u8 0, .int .u8 0, .int .u8 0, .int .u8 0, .int .u8 0, .int .u8 0, .int .u8 0, .int .u8 0, .int .u8 0, .int .u8 0, .int .u8 0, .int .u8 0, .int .u8 0, .int .u8 0] 39)) (fun _ => 0) :=
  ⟨(Below.alloc (Below.refl _ w) (Nat.le_refl _) _).alloc (by rw [size_alloc]; omega) _, (bytes_zero w).alloc (by rw [size_alloc]; omega) _, bytes_second w, by rw [size_alloc, size_alloc]; omega⟩
end Go.Proofs.Qxb6600526a
