namespace Go.Proofs.Qxb6605540a.PTrim
/-- The backslashes that stand right before place k. -/
def bsb (f : Nat → Nat) : Nat → Nat
  | 0 => 0
  | k + 1 => if f k = 92 then bsb f k + 1 else 0
/-- Where the first e bytes end, their trailing unescaped spaces cut off. -/
def cut (f : Nat → Nat) : Nat → Nat
  | 0 => 0
  | e + 1 => if f e = 32 ∧ bsb f e % 2 = 0 then cut f e else e + 1

theorem bsb_le (f : Nat → Nat) (k : Nat) : bsb f k ≤ k := by
  induction k with
  | zero => simp [bsb]
  | succ k ih => unfold bsb; split <;> omega

theorem cut_le (f : Nat → Nat) (e : Nat) : cut f e ≤ e := by
  induction e with
  | zero => simp [cut]
  | succ e ih => unfold cut; split <;> omega

theorem cut_cut (f : Nat → Nat) (e : Nat) : cut f (cut f e) = cut f e := by
  induction e with
  | zero => simp [cut]
  | succ e ih =>
    by_cases h : f e = 32 ∧ bsb f e % 2 = 0
    · have : cut f (e + 1) = cut f e := by rw [cut]; simp [h]
      rw [this]; exact ih
    · have : cut f (e + 1) = e + 1 := by rw [cut]; simp [h]
      rw [this]; exact this

theorem bsb_congr (f g : Nat → Nat) (k : Nat) (h : ∀ i, i < k → f i = g i) : bsb f k = bsb g k := by
  induction k with
  | zero => rfl
  | succ k ih => rw [bsb, bsb, h k (by omega), ih (fun i hi => h i (by omega))]

theorem cut_congr (f g : Nat → Nat) (k : Nat) (h : ∀ i, i < k → f i = g i) : cut f k = cut g k := by
  induction k with
  | zero => rfl
  | succ k ih => rw [cut, cut, h k (by omega), ih (fun i hi => h i (by omega)), bsb_congr f g k (fun i hi => h i (by omega))]

/-- What the left-to-right loop's 'end' holds at place i: all of it, or the cut. -/
def endAt (f : Nat → Nat) (n i : Nat) : Nat := if cut f i = i then n else cut f i

theorem cut_space (f : Nat → Nat) (e : Nat) (h : f e = 32) (h2 : bsb f e % 2 = 0) : cut f (e + 1) = cut f e := by
  rw [cut]; simp [h, h2]
theorem cut_keep (f : Nat → Nat) (e : Nat) (h : ¬ (f e = 32 ∧ bsb f e % 2 = 0)) : cut f (e + 1) = e + 1 := by
  rw [cut]; simp [h]
theorem bsb_not (f : Nat → Nat) (e : Nat) (h : f e ≠ 92) : bsb f (e + 1) = 0 := by rw [bsb]; simp [h]
theorem bsb_yes (f : Nat → Nat) (e : Nat) (h : f e = 92) : bsb f (e + 1) = bsb f e + 1 := by rw [bsb]; simp [h]

theorem end_zero (f : Nat → Nat) (n : Nat) : endAt f n 0 = n := by simp [endAt, cut]
theorem end_last (f : Nat → Nat) (n : Nat) : endAt f n n = cut f n := by
  unfold endAt; split <;> omega
/-- a space at an even place, the end not yet set -/
theorem end_space_new (f : Nat → Nat) (n i : Nat) (hi : i < n) (h : f i = 32) (hb : bsb f i % 2 = 0) (he : endAt f n i = n) : endAt f n (i + 1) = i := by
  unfold endAt at *
  have := cut_le f i
  rw [cut_space f i h hb]
  split at he <;> split <;> omega
theorem end_space_old (f : Nat → Nat) (n i : Nat) (hi : i < n) (h : f i = 32) (hb : bsb f i % 2 = 0) (he : endAt f n i ≠ n) : endAt f n (i + 1) = endAt f n i := by
  unfold endAt at *
  have := cut_le f i
  rw [cut_space f i h hb]
  split at he <;> split <;> first | omega | (split <;> omega)
theorem even_space (f : Nat → Nat) (i : Nat) (h : f i = 32) : bsb f (i + 1) % 2 = 0 := by rw [bsb_not f i (by omega)]
theorem end_other (f : Nat → Nat) (n i : Nat) (h : f i ≠ 32) : endAt f n (i + 1) = n := by
  unfold endAt; rw [cut_keep f i (by omega)]; simp
theorem even_other (f : Nat → Nat) (i : Nat) (h : f i ≠ 92) : bsb f (i + 1) % 2 = 0 := by rw [bsb_not f i h]
/-- a backslash at an even place takes the next byte with it -/
theorem end_esc (f : Nat → Nat) (n i : Nat) (h : f i = 92) (hb : bsb f i % 2 = 0) : endAt f n (i + 2) = n := by
  unfold endAt
  have h1 := bsb_yes f i h
  rw [cut_keep f (i + 1) (by omega)]; simp
theorem even_esc (f : Nat → Nat) (i : Nat) (h : f i = 92) (hb : bsb f i % 2 = 0) : bsb f (i + 2) % 2 = 0 := by
  have h1 := bsb_yes f i h
  by_cases h2 : f (i + 1) = 92
  · rw [bsb_yes f (i + 1) h2]; omega
  · rw [bsb_not f (i + 1) h2]
/-- a backslash in the last place escapes nothing -/
theorem end_esc_last (f : Nat → Nat) (i : Nat) (h : f i = 92) : cut f (i + 1) = i + 1 := cut_keep f i (by omega)
end Go.Proofs.Qxb6605540a.PTrim
