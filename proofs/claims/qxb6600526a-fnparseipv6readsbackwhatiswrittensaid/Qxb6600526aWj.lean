import Derived.Test.Qxb6600526aWi
import Derived.Test.Qxb6600526aP6d
namespace Go.Proofs.Qxb6600526a
open Go.RowKit P6

/-! ### fields by position -/
def fromAt (x : Nat) (l : List UInt8) (st : Nat) : List (List UInt8) := if st ≤ l.length then spl x (l.drop st) else []
def Clr (x : Nat) (l : List UInt8) (st i : Nat) : Prop := st ≤ i ∧ i ≤ l.length + 1 ∧ (i = l.length + 1 → st = i) ∧ No x ((l.drop st).take (i - st))
theorem clr_start {x : Nat} {l : List UInt8} : Clr x l 0 0 := ⟨by omega, by omega, fun _ => rfl, fun c hc => by simp at hc⟩
theorem clr_step {x : Nat} {s : ByteArray} {st i : Nat} (h : Clr x (L s) st i) (hi : i < s.size) (hx : s[i].toNat ≠ x) : Clr x (L s) st (i + 1) := by
  obtain ⟨h1, h2, h3, h4⟩ := h
  have hlen := L_length s
  refine ⟨by omega, by omega, fun e => by omega, ?_⟩
  intro c hc
  rw [show i + 1 - st = (i - st) + 1 by omega, List.take_add_one] at hc
  simp only [List.mem_append, List.getElem?_drop] at hc
  rcases hc with hc | hc
  · exact h4 c hc
  · have hd := L_drop s i hi
    have e : (L s)[st + (i - st)]? = some s[i] := by
      rw [show st + (i - st) = i + 0 by omega, ← List.getElem?_drop, hd]; rfl
    rw [e] at hc
    simp at hc
    rw [hc]; exact hx
theorem clr_next {x : Nat} {l : List UInt8} {i : Nat} (hi : i ≤ l.length) : Clr x l (i + 1) (i + 1) := ⟨by omega, by omega, fun _ => rfl, fun c hc => by simp at hc⟩
/-- A field ends at i. -/
theorem from_cut {x : Nat} {s : ByteArray} {st i : Nat} (h : Clr x (L s) st i) (hi : i ≤ s.size) (hx : ∀ hlt : i < s.size, s[i].toNat = x) : fromAt x (L s) st = L (s.extract st i) :: fromAt x (L s) (i + 1) := by
  obtain ⟨h1, h2, h3, h4⟩ := h
  have hlen := L_length s
  rw [L_extract]
  unfold fromAt
  rw [if_pos (by omega)]
  by_cases he : i = s.size
  · rw [if_neg (by omega)]
    have e : ((L s).drop st).take (i - st) = (L s).drop st := List.take_of_length_le (by rw [List.length_drop]; omega)
    rw [e] at h4 ⊢
    exact spl_one h4
  · rw [if_pos (by omega)]
    have hlt : i < s.size := by omega
    have e : (L s).drop st = ((L s).drop st).take (i - st) ++ s[i] :: (L s).drop (i + 1) := by
      have := List.take_append_drop (i - st) ((L s).drop st)
      rw [List.drop_drop, show st + (i - st) = i by omega, L_drop s i hlt] at this
      exact this.symm
    have e2 := spl_more (t := (L s).drop (i + 1)) (hx hlt) h4
    rw [← e] at e2
    exact e2
theorem from_start {x : Nat} {l : List UInt8} : fromAt x l 0 = spl x l := by unfold fromAt; rw [if_pos (by omega), List.drop_zero]
theorem from_end {x : Nat} {l : List UInt8} {i : Nat} (h : i = l.length + 1) : fromAt x l i = [] := by unfold fromAt; rw [if_neg (by omega)]

/-! ### four bytes -/
def arr4 (G : Nat → Nat) : Array Value := #[.int .u8 (G 0), .int .u8 (G 1), .int .u8 (G 2), .int .u8 (G 3)]
theorem arr4_get (G : Nat → Nat) (i : Nat) (h : i < 4) : (arr4 G)[i]? = some (.int .u8 (G i)) := by
  unfold arr4
  rcases (by omega : i = 0 ∨ i = 1 ∨ i = 2 ∨ i = 3) with rfl | rfl | rfl | rfl <;> rfl
theorem bytes4_range {w : World} {b : Nat} {t : TypeId} {G : Nat → Nat} (h : Bytes w b t 4 G) : w.rangeAt b 0 (arr4 G).toList := by
  intro j v hv
  have hj : j < 4 := by
    have := (List.getElem?_eq_some_iff.1 hv).1
    simpa [arr4] using this
  have := arr4_get G j hj
  rw [Array.getElem?_toList] at hv
  rw [hv] at this
  rw [Nat.zero_add, World.rowIs.cell h hj, this]
theorem bytes4_load {w : World} {b : Nat} {t : TypeId} {G : Nat → Nat} (h : Bytes w b t 4 G) :
    (loadVar 63 ⟨b, 0, none⟩).run Try.prog w = .ok (.agg (arr4 G)) w := by
  have := run_loadVar_mid (P := Try.prog) w b 0 63 (arr4 G).toList _ (bytes4_range h) Try.underlying63 rfl rfl
  simpa using this
theorem load4 {ops : Array Oper} {rest : List Oper} {op : Oper} {a : Act} {w : World} {Q : Exit → Act → World → Prop} {b : Nat} {t : TypeId} {G : Nat → Nat} (hgd : op.guard = none) (ho : op.op = .load 63 (.tmp 4))
    (hx : a.eval (.tmp 4) = .pointer (some ⟨b, 0, none⟩)) (hB : Bytes w b t 4 G) (h : wpList Try.prog ops Q rest (a.put op.dst (.agg (arr4 G))) w) : wpList Try.prog ops Q (op :: rest) a w :=
  wpList_load_mid hgd 63 (.tmp 4) ho b 0 hx (arr4 G).toList _ (bytes4_range hB) Try.underlying63 rfl rfl (by simpa using h)
def put4 (w : World) (b : Nat) (G : Nat → Nat) : World := w.setCells b 0 (arr4 G).toList
theorem bytes_put4 {w : World} {b : Nat} {t : TypeId} {F G : Nat → Nat} (h : Bytes w b t 4 F) : Bytes (put4 w b G) b t 4 G := by
  have h1 := (((h.set 0 (G 0) rfl rfl).set 1 (G 1) rfl rfl).set 2 (G 2) rfl rfl).set 3 (G 3) rfl rfl
  refine World.rowIs.congr h1 fun i hi => ?_
  rcases (by omega : i = 0 ∨ i = 1 ∨ i = 2 ∨ i = 3) with rfl | rfl | rfl | rfl <;> rfl
theorem below_put4 {w w0 : World} {b B : Nat} {G : Nat → Nat} (h : Below B w0 w) (hb : B ≤ b) : Below B w0 (put4 w b G) := by
  unfold put4 arr4
  exact below_set (below_set (below_set (below_set h hb) hb) hb) hb
theorem store4 {ops : Array Oper} {rest : List Oper} {op : Oper} {a : Act} {w : World} {Q : Exit → Act → World → Prop} {b : Nat} {t : TypeId} {F G : Nat → Nat} {y : Operand} (hgd : op.guard = none) (ho : op.op = .store 63 (.tmp 2) y)
    (hx : a.eval (.tmp 2) = .pointer (some ⟨b, 0, none⟩)) (hy : a.eval y = .agg (arr4 G)) (hB : Bytes w b t 4 F) (h : wpList Try.prog ops Q rest (a.put op.dst undef) (put4 w b G)) : wpList Try.prog ops Q (op :: rest) a w := by
  refine wpList_store_mid hgd 63 (.tmp 2) y ho b 0 (arr4 G) hx hy (by
    intro j hj
    have hj : j < 4 := hj
    rw [Nat.zero_add]
    exact ⟨by rw [World.rowIs.cell hB hj]; rfl, World.rowIs.frozen hB _⟩) rfl (by simp [arr4]; exact ⟨rfl, rfl, rfl, rfl⟩) h
theorem bytes4_results {w : World} {b : Nat} {t : TypeId} {G : Nat → Nat} (h : Bytes w b t 4 G) (tmps : Array Value) (hp : tmps.getD 2 undef = .pointer (some ⟨b, 0, none⟩)) :
    (results Try.f48 tmps).run Try.prog w = .ok (.tuple #[.agg (arr4 G), tmps.getD 3 undef]) w := by
  rw [results_cell_tmp rfl, hp]
  show (((loadVar 63 ⟨b, 0, none⟩).run Try.prog w).andThen _) = _
  rw [bytes4_load h]; rfl
theorem bytes4_zero (w : World) : Bytes (w.alloc (.cells #[.int .u8 0, .int .u8 0, .int .u8 0, .int .u8 0] 63)) w.heap.size 63 4 (fun _ => 0) := by
  refine World.rowIs_alloc w _ _ _ fun i hi => ?_
  have : i < 4 := hi
  rcases (by omega : i = 0 ∨ i = 1 ∨ i = 2 ∨ i = 3) with rfl | rfl | rfl | rfl <;> rfl

def Said4 (x : Option (List Nat)) (B : Nat) (w : World) (e : Ending) (w' : World) : Prop :=
  ∃ G : Nat → Nat, e = .returned (.tuple #[.agg (arr4 G), .bool x.isSome]) ∧ Below B w w' ∧ ∀ q, x = some q → ∀ i, i < 4 → G i = q.getD i 0
theorem said4_none {x : Option (List Nat)} {B : Nat} {w w' : World} {G : Nat → Nat} (h : x = none) (hb : Below B w w') : Said4 x B w (.returned (.tuple #[.agg (arr4 G), .bool false])) w' := by
  subst h; exact ⟨G, rfl, hb, fun q h => by cases h⟩
theorem said4_some {x : Option (List Nat)} {B : Nat} {w w' : World} {G : Nat → Nat} {q : List Nat} (h : x = some q) (hb : Below B w w') (hG : ∀ i, i < 4 → G i = q.getD i 0) : Said4 x B w (.returned (.tuple #[.agg (arr4 G), .bool true])) w' := by
  subst h; exact ⟨G, rfl, hb, fun q' h => by cases h; exact hG⟩

/-- The quad as far as k fields, the scan at i, the field's start at st. -/
structure D4 (x : Option (List Nat)) (w : World) (wr : World) (l : List UInt8) (k st i : Nat) (G : Nat → Nat) : Prop where
  clr : Clr 46 l st i
  pre : ∃ pre : List Nat, pre.length = k ∧ (dq k (fromAt 46 l st)).map (pre ++ ·) = x ∧ ∀ i, i < k → G i = pre.getD i 0
  bel : Below w.heap.size w wr
  res : Bytes wr w.heap.size 63 4 (fun _ => 0)
  row : Bytes wr (w.heap.size + 1) 63 4 G
theorem d4_four {x : Option (List Nat)} {w wr : World} {s : ByteArray} {st i : Nat} {G : Nat → Nat} (h : D4 x w wr (L s) 4 st i G) (hi : i ≤ s.size) (hx : ∀ hlt : i < s.size, s[i].toNat = 46) : x = none := by
  obtain ⟨pre, h1, h2, h3⟩ := h.pre
  rw [from_cut h.clr hi hx, dq, if_pos rfl] at h2
  exact h2.symm
theorem d4_bad {x : Option (List Nat)} {w wr : World} {s : ByteArray} {k st i : Nat} {G : Nat → Nat} (h : D4 x w wr (L s) k st i G) (hk : k ≠ 4) (hi : i ≤ s.size) (hx : ∀ hlt : i < s.size, s[i].toNat = 46) (hd : decB (L (s.extract st i)) = none) : x = none := by
  obtain ⟨pre, h1, h2, h3⟩ := h.pre
  rw [from_cut h.clr hi hx, dq, if_neg hk, hd] at h2
  exact h2.symm
theorem d4_next {x : Option (List Nat)} {w wr wr' : World} {s : ByteArray} {k st i v : Nat} {G : Nat → Nat} (h : D4 x w wr (L s) k st i G) (hk : k ≠ 4) (hi : i ≤ s.size) (hx : ∀ hlt : i < s.size, s[i].toNat = 46) (hd : decB (L (s.extract st i)) = some v)
    (hb : Below w.heap.size w wr') (hr : Bytes wr' w.heap.size 63 4 (fun _ => 0)) (hB : Bytes wr' (w.heap.size + 1) 63 4 (fun j => if j = k then v else G j)) : D4 x w wr' (L s) (k + 1) (i + 1) (i + 1) (fun j => if j = k then v else G j) := by
  obtain ⟨pre, h1, h2, h3⟩ := h.pre
  rw [from_cut h.clr hi hx, dq, if_neg hk, hd] at h2
  refine ⟨clr_next (by rw [L_length]; exact hi), ⟨pre ++ [v], by simp [h1], ?_, ?_⟩, hb, hr, hB⟩
  · rw [← h2]
    simp only [Option.map_map]
    congr 1
    funext q
    simp
  · intro j hj
    by_cases e : j = k
    · subst e; simp [List.getD_eq_getElem?_getD, ← h1]
    · simp only [if_neg e]
      rw [h3 j (by omega)]
      simp only [List.getD_eq_getElem?_getD]
      rw [List.getElem?_append_left (by omega)]
theorem d4_scan {x : Option (List Nat)} {w wr : World} {s : ByteArray} {k st i : Nat} {G : Nat → Nat} (h : D4 x w wr (L s) k st i G) (hi : i < s.size) (hx : s[i].toNat ≠ 46) : D4 x w wr (L s) k st (i + 1) G :=
  ⟨clr_step h.clr hi hx, h.pre, h.bel, h.res, h.row⟩
theorem d4_end {x : Option (List Nat)} {w wr : World} {s : ByteArray} {k st i : Nat} {G : Nat → Nat} (h : D4 x w wr (L s) k st i G) (hi : i = s.size + 1) : ∃ pre : List Nat, pre.length = k ∧ (if k = 4 then some pre else none) = x ∧ ∀ i, i < k → G i = pre.getD i 0 := by
  obtain ⟨pre, h1, h2, h3⟩ := h.pre
  have hlen := L_length s
  have := h.clr.2.2.1 (by omega)
  rw [from_end (by omega)] at h2
  refine ⟨pre, h1, ?_, h3⟩
  rw [← h2, dq]
  split <;> simp
end Go.Proofs.Qxb6600526a
