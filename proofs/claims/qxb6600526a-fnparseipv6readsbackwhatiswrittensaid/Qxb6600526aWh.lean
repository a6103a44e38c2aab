import Derived.Test.Qxb6600526aWg
import Derived.Test.Qxb6600526aP6c
namespace Go.Proofs.Qxb6600526a
open Go.RowKit P6

/-! ### one round, by what stands behind the digits -/
theorem r_bad {g : Option Nat} {o : List Nat} {l : List UInt8} {a d : Nat} (h : hexRun 5 0 l = (a, d)) (hd : d = 0 ∨ 4 < d) : rnd g o l = none := by
  unfold rnd; rw [h]; rw [if_pos hd]
theorem r_dot {g : Option Nat} {o : List Nat} {l t : List UInt8} {c : UInt8} {a d : Nat} (h : hexRun 5 0 l = (a, d)) (h0 : 0 < d) (h4 : d ≤ 4) (hl : l.drop d = c :: t) (hc : c.toNat = 46) :
    rnd g o l = if 16 < o.length + 4 then none else (p4 4 true l).map fun q => (true, g, o ++ q, []) := by
  unfold rnd; rw [h]
  simp only
  rw [if_neg (by omega), hl, if_pos (by simp [hc])]
theorem r_end {g : Option Nat} {o : List Nat} {l : List UInt8} {a d : Nat} (h : hexRun 5 0 l = (a, d)) (h0 : 0 < d) (h4 : d ≤ 4) (hl : l.drop d = []) :
    rnd g o l = some (true, g, o ++ [a / 256, a % 256], []) := by
  unfold rnd; rw [h]
  simp only
  rw [if_neg (by omega), hl, if_neg (by simp)]
theorem r_sep {g : Option Nat} {o : List Nat} {l t : List UInt8} {c : UInt8} {a d : Nat} (h : hexRun 5 0 l = (a, d)) (h0 : 0 < d) (h4 : d ≤ 4) (hl : l.drop d = c :: t) (hc : c.toNat ≠ 46) (hb : c.toNat ≠ 58 ∨ t = []) :
    rnd g o l = none := by
  unfold rnd; rw [h]
  simp only
  rw [if_neg (by omega), hl, if_neg (by simp [hc])]
  simp only
  rw [if_pos hb]
theorem r_gap {g : Option Nat} {o : List Nat} {l t : List UInt8} {c e : UInt8} {a d : Nat} (h : hexRun 5 0 l = (a, d)) (h0 : 0 < d) (h4 : d ≤ 4) (hl : l.drop d = c :: e :: t) (hc : c.toNat = 58) (he : e.toNat = 58) :
    rnd g o l = if g.isSome then none else some (false, some (o.length + 2), o ++ [a / 256, a % 256], t) := by
  unfold rnd; rw [h]
  simp only
  rw [if_neg (by omega), hl, if_neg (by simp [hc])]
  simp only
  rw [if_neg (by simp [hc]), if_pos he]
theorem r_next {g : Option Nat} {o : List Nat} {l t : List UInt8} {c e : UInt8} {a d : Nat} (h : hexRun 5 0 l = (a, d)) (h0 : 0 < d) (h4 : d ≤ 4) (hl : l.drop d = c :: e :: t) (hc : c.toNat = 58) (he : e.toNat ≠ 58) :
    rnd g o l = some (false, g, o ++ [a / 256, a % 256], e :: t) := by
  unfold rnd; rw [h]
  simp only
  rw [if_neg (by omega), hl, if_neg (by simp [hc])]
  simp only
  rw [if_neg (by simp [hc]), if_neg he]

/-! ### the run by a round -/
theorem way_none {x : Option (List Nat)} {w wr : World} {g : Option Nat} {o : List Nat} {l : List UInt8} (h : Rel6 x w wr g o l) (ho : o.length < 16) (hl : l ≠ []) (hr : rnd g o l = none) : x = none := by
  obtain ⟨f, hf, he⟩ := h.run
  cases f with
  | zero => omega
  | succ f => rw [lp, if_pos ⟨ho, hl⟩, hr] at he; exact he.symm
theorem way_true {x : Option (List Nat)} {w wr : World} {g g' : Option Nat} {o o' : List Nat} {l l' : List UInt8} (h : Rel6 x w wr g o l) (ho : o.length < 16) (hl : l ≠ []) (hr : rnd g o l = some (true, g', o', l')) : fin (g', o', l') = x := by
  obtain ⟨f, hf, he⟩ := h.run
  cases f with
  | zero => omega
  | succ f => rw [lp, if_pos ⟨ho, hl⟩, hr] at he; exact he
theorem way_false {x : Option (List Nat)} {w wr : World} {g g' : Option Nat} {o o' : List Nat} {l l' : List UInt8} (h : Rel6 x w wr g o l) (ho : o.length < 16) (hl : l ≠ []) (hr : rnd g o l = some (false, g', o', l')) (h2 : o'.length = o.length + 2) :
    ∃ f, 18 ≤ o'.length + 2 * f ∧ (lp f g' o' l').bind fin = x := by
  obtain ⟨f, hf, he⟩ := h.run
  cases f with
  | zero => omega
  | succ f => rw [lp, if_pos ⟨ho, hl⟩, hr] at he; exact ⟨f, by omega, he⟩

theorem begin6 {x : Option (List Nat)} {w wr : World} {g : Option Nat} {l : List UInt8} (hg : g = none ∨ g = some 0) (hb : Below w.heap.size w wr) (hB : Bytes wr w.heap.size 39 16 (fun _ => 0)) (hx : (lp 9 g [] l).bind fin = x) : Rel6 x w wr g [] l :=
  ⟨by simp, rfl, fun k h => by rcases hg with rfl | rfl <;> simp at h; omega, hb, ⟨_, hB, fun i hi => by simp at hi⟩, 9, by simp, hx⟩

/-- Two bytes more. -/
def two (G : Nat → Nat) (n a : Nat) : Nat → Nat := fun j => if j = n + 1 then a % 256 else if j = n then a / 256 else G j
theorem bytes_two {w : World} {b n a i j : Nat} {G : Nat → Nat} {v1 v2 : Value} (h : Bytes w b 39 16 G) (h1 : v1 = .int .u8 ((a / 256 : Nat) : Int)) (h2 : v2 = .int .u8 ((a % 256 : Nat) : Int)) (hi : i = n) (hj : j = n + 1) :
    Bytes ((w.setCell ⟨b, i, none⟩ v1).setCell ⟨b, j, none⟩ v2) b 39 16 (two G n a) :=
  (h.set n (a / 256) h1 hi).set (n + 1) (a % 256) h2 hj
theorem below_two {w w0 : World} {B b i j : Nat} {v1 v2 : Value} (h : Below B w0 w) (hb : B ≤ b) : Below B w0 ((w.setCell ⟨b, i, none⟩ v1).setCell ⟨b, j, none⟩ v2) :=
  below_set (below_set h hb) hb
theorem two_get {G : Nat → Nat} {o : List Nat} {a : Nat} (h : ∀ i, i < o.length → G i = o.getD i 0) : ∀ i, i < (o ++ [a / 256, a % 256]).length → two G o.length a i = (o ++ [a / 256, a % 256]).getD i 0 := by
  intro i hi
  simp at hi
  unfold two
  by_cases h1 : i = o.length + 1
  · subst h1
    simp [List.getD_eq_getElem?_getD]
  · rw [if_neg h1]
    by_cases h2 : i = o.length
    · subst h2
      simp [List.getD_eq_getElem?_getD]
    · rw [if_neg h2, h i (by omega)]
      simp only [List.getD_eq_getElem?_getD]
      rw [List.getElem?_append_left (by omega)]

/-- What holds behind the loop. -/
structure Fin6 (x : Option (List Nat)) (w wr : World) (g : Option Nat) (o : List Nat) (l : List UInt8) : Prop where
  len : o.length ≤ 16
  gap : ∀ k, g = some k → k ≤ o.length
  bel : Below w.heap.size w wr
  row : ∃ G : Nat → Nat, Bytes wr w.heap.size 39 16 G ∧ ∀ i, i < o.length → G i = o.getD i 0
  run : fin (g, o, l) = x

theorem below_drew {B : Nat} {w w' : World} (h : Below B w w') : Below B w w'.drew := h.trans ⟨rfl, rfl, rfl, Nat.le_refl _, fun _ _ => rfl⟩

/-! ### the answers -/
theorem said_none {x : Option (List Nat)} {B : Nat} {w w' : World} {G : Nat → Nat} (h : x = none) (hb : Below B w w') : Said6 x B w (.returned (.tuple #[.agg (arr G), .bool false])) w' := by
  subst h; exact ⟨G, rfl, hb, fun q h => by cases h⟩
theorem said_some {x : Option (List Nat)} {B : Nat} {w w' : World} {G : Nat → Nat} {q : List Nat} (h : x = some q) (hb : Below B w w') (hG : ∀ i, i < 16 → G i = q.getD i 0) : Said6 x B w (.returned (.tuple #[.agg (arr G), .bool true])) w' := by
  subst h; exact ⟨G, rfl, hb, fun q' h => by cases h; exact hG⟩

theorem fin_more {x : Option (List Nat)} {g : Option Nat} {o : List Nat} {l : List UInt8} (h : fin (g, o, l) = x) (hl : l ≠ []) : x = none := by
  rw [← h]; simp [fin, hl]
theorem fin_full {x : Option (List Nat)} {o : List Nat} (h : fin (none, o, []) = x) (ho : o.length = 16) : x = some o := by
  rw [← h]; simp [fin, ho]
theorem fin_short {x : Option (List Nat)} {o : List Nat} (h : fin (none, o, []) = x) (ho : ¬ o.length = 16) : x = none := by
  rw [← h]; simp [fin, ho]
theorem fin_over {x : Option (List Nat)} {o : List Nat} {k : Nat} (h : fin (some k, o, []) = x) (ho : o.length = 16) : x = none := by
  rw [← h]; simp [fin, ho]
theorem fin_gap {x : Option (List Nat)} {o : List Nat} {k : Nat} (h : fin (some k, o, []) = x) (ho : ¬ o.length = 16) : x = some (o.take k ++ List.replicate (16 - o.length) 0 ++ o.drop k) := by
  rw [← h]; simp [fin, ho]
/-- The bytes behind the copy and the clearing. -/
theorem gap_get {o : List Nat} {k m : Nat} {G H : Nat → Nat} (hk : k ≤ o.length) (ho : o.length ≤ 16) (hm : m = k + (16 - o.length)) (hG : ∀ i, i < o.length → G i = o.getD i 0)
    (hH : ∀ i, i < 16 → H i = if k ≤ i ∧ i < m then 0 else if m ≤ i then G (i - (16 - o.length)) else G i) :
    ∀ i, i < 16 → H i = (o.take k ++ List.replicate (16 - o.length) 0 ++ o.drop k).getD i 0 := by
  intro i hi
  rw [hH i hi]
  have hT : (o.take k).length = k := by simp; omega
  have hR : (o.take k ++ List.replicate (16 - o.length) 0).length = m := by simp; omega
  simp only [List.getD_eq_getElem?_getD]
  by_cases h1 : i < k
  · rw [if_neg (by omega), if_neg (by omega), List.append_assoc, List.getElem?_append_left (by omega), List.getElem?_take_of_lt h1, hG i (by omega)]
    simp [List.getD_eq_getElem?_getD]
  · by_cases h2 : i < m
    · rw [if_pos ⟨by omega, h2⟩, List.getElem?_append_left (by omega), List.getElem?_append_right (by omega), hT, List.getElem?_replicate, if_pos (by omega)]
      rfl
    · rw [if_neg (by omega), if_pos (by omega), List.getElem?_append_right (by omega), hR, List.getElem?_drop, hG _ (by omega)]
      simp only [List.getD_eq_getElem?_getD]
      congr 2
      omega
theorem nonempty_L {s : ByteArray} (h : ¬ s.size = 0) : L s ≠ [] := by
  intro e
  have := L_length s
  rw [e] at this
  simp at this
  omega
theorem empty_L : L ByteArray.empty = [] := rfl
end Go.Proofs.Qxb6600526a
