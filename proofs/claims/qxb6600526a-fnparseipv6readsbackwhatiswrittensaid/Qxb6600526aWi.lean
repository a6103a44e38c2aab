import Derived.Test.Qxb6600526aWh
namespace Go.Proofs.Qxb6600526a
open Go.RowKit P6

theorem i64_or_nat (a b : Nat) (ha : a < 4294967296) (hb : b < 4294967296) : bits .or .i64 (a : Int) (b : Int) = ((a ||| b : Nat) : Int) := by
  have hx : a ||| b < 2 ^ 32 := Nat.or_lt_two_pow (by omega) (by omega)
  have h1 : (BitVec.ofInt 64 (a : Int)).toNat = a := by
    rw [BitVec.ofInt_natCast, BitVec.toNat_ofNat]; exact Nat.mod_eq_of_lt (by omega)
  have h2 : (BitVec.ofInt 64 (b : Int)).toNat = b := by
    rw [BitVec.ofInt_natCast, BitVec.toNat_ofNat]; exact Nat.mod_eq_of_lt (by omega)
  show IntKind.i64.wrap ((BitVec.ofInt 64 (a : Int) ||| BitVec.ofInt 64 (b : Int)).toNat : Int) = _
  rw [BitVec.toNat_or, h1, h2, IntWalk.i64_in _ ⟨by omega, by omega⟩]
theorem i64_and_nat (a b : Nat) (ha : a < 4294967296) (hb : b < 4294967296) : bits .and .i64 (a : Int) (b : Int) = ((a &&& b : Nat) : Int) := by
  have hx : a &&& b < 2 ^ 32 := Nat.and_lt_two_pow _ (by omega)
  have h1 : (BitVec.ofInt 64 (a : Int)).toNat = a := by
    rw [BitVec.ofInt_natCast, BitVec.toNat_ofNat]; exact Nat.mod_eq_of_lt (by omega)
  have h2 : (BitVec.ofInt 64 (b : Int)).toNat = b := by
    rw [BitVec.ofInt_natCast, BitVec.toNat_ofNat]; exact Nat.mod_eq_of_lt (by omega)
  show IntKind.i64.wrap ((BitVec.ofInt 64 (a : Int) &&& BitVec.ofInt 64 (b : Int)).toNat : Int) = _
  rw [BitVec.toNat_and, h1, h2, IntWalk.i64_in _ ⟨by omega, by omega⟩]
theorem or_sum {a b i m : Nat} (hm : m = 2 ^ i) (h : a < m) : b * m ||| a = b * m + a := by
  subst hm
  rw [← Nat.shiftLeft_eq, Nat.shiftLeft_add_eq_or_of_lt h]
theorem or16 (a y : Nat) (ha : a < 1048576) (hy : y < 16) : bits .or .i64 ((a : Int) * 16) (y : Int) = ((a * 16 + y : Nat) : Int) := by
  have e : ((a : Int) * 16) = ((a * 16 : Nat) : Int) := by omega
  rw [e, i64_or_nat _ _ (by omega) (by omega), or_sum (i := 4) (by decide) hy]
theorem or256 (a y : Nat) (ha : a < 256) (hy : y < 256) : bits .or .i64 ((a : Int) * 256) (y : Int) = ((a * 256 + y : Nat) : Int) := by
  have e : ((a : Int) * 256) = ((a * 256 : Nat) : Int) := by omega
  rw [e, i64_or_nat _ _ (by omega) (by omega), or_sum (i := 8) (by decide) hy]

/-- The digits as far as d. -/
def HR (l : List UInt8) (a d : Nat) : Prop := a < 16 ^ d ∧ ((hexRun (5 - d) a (l.drop d)).1, (hexRun (5 - d) a (l.drop d)).2 + d) = hexRun 5 0 l
theorem hr_start (l : List UInt8) : HR l 0 0 := ⟨by simp, by simp⟩
theorem hr_step {s : ByteArray} {a d y : Nat} (h : HR (L s) a d) (hd : d < 5) (hs : d < s.size) (hy : hexV s[d] = some y) : HR (L s) (a * 16 + y) (d + 1) := by
  obtain ⟨h1, h2⟩ := h
  have := hexV_lt hy
  refine ⟨by rw [Nat.pow_succ]; omega, ?_⟩
  rw [← h2, L_drop s d hs]
  obtain ⟨k, hk⟩ : ∃ k, 5 - d = k + 1 := ⟨4 - d, by omega⟩
  rw [hk, hexRun, hy, show 5 - (d + 1) = k by omega]
  simp only [Nat.add_assoc, Nat.add_comm 1 d]
theorem hr_stop {s : ByteArray} {a d : Nat} (h : HR (L s) a d) (hd : d < 5) (hs : d < s.size) (hy : hexV s[d] = none) : hexRun 5 0 (L s) = (a, d) := by
  obtain ⟨h1, h2⟩ := h
  rw [← h2, L_drop s d hs]
  obtain ⟨k, hk⟩ : ∃ k, 5 - d = k + 1 := ⟨4 - d, by omega⟩
  rw [hk, hexRun, hy]
  simp
theorem hr_end {s : ByteArray} {a d : Nat} (h : HR (L s) a d) (hs : d = s.size) : hexRun 5 0 (L s) = (a, d) := by
  obtain ⟨h1, h2⟩ := h
  rw [← h2, L_end s d (by omega)]
  cases hk : 5 - d with
  | zero => rw [hexRun]; simp
  | succ k => rw [hexRun]; simp
theorem hr_five {s : ByteArray} {a d : Nat} (h : HR (L s) a d) (hs : d = 5) : hexRun 5 0 (L s) = (a, d) := by
  subst hs
  obtain ⟨h1, h2⟩ := h
  rw [← h2]; simp [hexRun]
theorem rel_fin {x : Option (List Nat)} {w wr : World} {g : Option Nat} {o : List Nat} {l : List UInt8} (h : Rel6 x w wr g o l) (hl : o.length = 16 ∨ l = []) : Fin6 x w wr g o l := by
  refine ⟨h.len, h.gap, h.bel, h.row, ?_⟩
  obtain ⟨f, hf, he⟩ := h.run
  cases f with
  | zero => have := h.len; omega
  | succ f =>
    rw [lp, if_neg] at he
    · exact he
    · rintro ⟨h1, h2⟩
      rcases hl with e | e
      · omega
      · exact h2 e
/-- Two bytes are put; the text is at its end. -/
theorem fin_two {x : Option (List Nat)} {w wr : World} {g : Option Nat} {o : List Nat} {l : List UInt8} {a : Nat} (h : Rel6 x w wr g o l) (ho : o.length < 16) (hl : l ≠ []) (hr : rnd g o l = some (true, g, o ++ [a / 256, a % 256], []))
    {wr' : World} {G : Nat → Nat} (hb : Below w.heap.size w wr') (hB : Bytes wr' w.heap.size 39 16 (two G o.length a)) (hG : ∀ i, i < o.length → G i = o.getD i 0) : Fin6 x w wr' g (o ++ [a / 256, a % 256]) [] := by
  have he := h.even
  exact ⟨by simp; omega, fun k hk => by have := h.gap k hk; simp; omega, hb, ⟨_, hB, two_get hG⟩, way_true h ho hl hr⟩
theorem rel_two {x : Option (List Nat)} {w wr : World} {g g' : Option Nat} {o : List Nat} {l l' : List UInt8} {a : Nat} (h : Rel6 x w wr g o l) (ho : o.length < 16) (hl : l ≠ []) (hr : rnd g o l = some (false, g', o ++ [a / 256, a % 256], l')) (hg : g' = g ∨ g' = some (o.length + 2))
    {wr' : World} {G : Nat → Nat} (hb : Below w.heap.size w wr') (hB : Bytes wr' w.heap.size 39 16 (two G o.length a)) (hG : ∀ i, i < o.length → G i = o.getD i 0) : Rel6 x w wr' g' (o ++ [a / 256, a % 256]) l' := by
  have he := h.even
  refine ⟨by simp; omega, by simp; omega, fun k hk => ?_, hb, ⟨_, hB, two_get hG⟩, way_false h ho hl hr (by simp)⟩
  rcases hg with rfl | rfl
  · have := h.gap k hk; simp; omega
  · simp at hk; simp; omega
/-- The quad is put. -/
theorem fin_quad {x : Option (List Nat)} {w wr : World} {g : Option Nat} {o q : List Nat} {l : List UInt8} (h : Rel6 x w wr g o l) (ho : o.length < 16) (hl : l ≠ []) (h4 : o.length + 4 ≤ 16) (hr : rnd g o l = some (true, g, o ++ q, [])) (hq : q.length = 4)
    {wr' : World} {G F : Nat → Nat} (hb : Below w.heap.size w wr') (hB : Bytes wr' w.heap.size 39 16 F) (hF : ∀ i, F i = if o.length ≤ i ∧ i < o.length + 4 then q.getD (i - o.length) 0 else G i) (hG : ∀ i, i < o.length → G i = o.getD i 0) : Fin6 x w wr' g (o ++ q) [] := by
  refine ⟨by simp; omega, fun k hk => by have := h.gap k hk; simp; omega, hb, ⟨_, hB, fun i hi => ?_⟩, way_true h ho hl hr⟩
  simp only [List.length_append] at hi
  rw [hF]
  by_cases h1 : i < o.length
  · rw [if_neg (by omega), hG i h1]
    simp only [List.getD_eq_getElem?_getD]
    rw [List.getElem?_append_left h1]
  · rw [if_pos (by omega)]
    simp only [List.getD_eq_getElem?_getD]
    rw [List.getElem?_append_right (by omega)]
end Go.Proofs.Qxb6600526a
