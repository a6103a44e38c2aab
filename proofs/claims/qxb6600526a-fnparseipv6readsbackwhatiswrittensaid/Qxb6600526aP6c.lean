/-
  The parser agrees with the split model: plain lists.
-/
import Derived.Test.Qxb6600526aP6b
namespace Go.Proofs.Qxb6600526a.P6

/-! ### a list is a field and what follows it -/
theorem parts (x : Nat) : ∀ l : List UInt8, ∃ f T, l = f ++ T ∧ No x f ∧ (T = [] ∨ ∃ c t, T = c :: t ∧ c.toNat = x)
  | [] => ⟨[], [], rfl, fun c hc => by simp at hc, Or.inl rfl⟩
  | c :: l => by
    by_cases hc : c.toNat = x
    · exact ⟨[], c :: l, rfl, fun c hc => by simp at hc, Or.inr ⟨c, l, rfl, hc⟩⟩
    · obtain ⟨f, T, h1, h2, h3⟩ := parts x l
      refine ⟨c :: f, T, by simp [h1], ?_, h3⟩
      intro d hd
      simp at hd
      rcases hd with rfl | hd
      · exact hc
      · exact h2 d hd
theorem spl_one {x : Nat} : ∀ {f : List UInt8}, No x f → spl x f = [f]
  | [], _ => rfl
  | c :: f, h => by rw [spl, if_neg h.head, spl_one h.tail]
theorem spl_more {x : Nat} {c : UInt8} {t : List UInt8} (hc : c.toNat = x) : ∀ {f : List UInt8}, No x f → spl x (f ++ c :: t) = f :: spl x t
  | [], _ => by rw [List.nil_append, spl, if_pos hc]
  | d :: f, h => by rw [List.cons_append, spl, if_neg h.head, spl_more hc h.tail]
theorem spl_ne {x : Nat} : ∀ l : List UInt8, spl x l ≠ []
  | [] => by simp [spl]
  | c :: l => by
    rw [spl]
    split
    · simp
    · split <;> simp

/-! ### the quad -/
def Stop (T : List UInt8) : Prop := T = [] ∨ ∃ c t, T = c :: t ∧ isD c = false
theorem dot_isD {c : UInt8} (h : c.toNat = 46) : isD c = false := by unfold isD; simp [h]
theorem colon_isD {c : UInt8} (h : c.toNat = 58) : isD c = false := by unfold isD; simp [h]
theorem rd_stop {T : List UInt8} (hT : Stop T) (v n : Nat) (hn : 0 < n) : rd v n T = some (v, n) := by
  rcases hT with rfl | ⟨c, t, rfl, hc⟩
  · simp [rd, hn]
  · simp [rd, hc, hn]
theorem isD_val {c : UInt8} (h : isD c = true) : 48 ≤ c.toNat ∧ c.toNat ≤ 57 := by unfold isD at h; simpa using h

theorem decB_rd {d T : List UInt8} {v : Nat} (hT : Stop T) (h : decB d = some v) : rd 0 0 (d ++ T) = some (v, d.length) := by
  unfold decB at h
  split at h
  · cases h
  rename_i hl
  split at h
  · cases h
  rename_i hz
  match d with
  | [] => simp at hl
  | [a] =>
    simp only [decAll] at h
    by_cases ha : isD a = true
    · rw [if_pos ha] at h
      simp only at h
      split at h
      · cases h
      · rename_i hv
        simp at h
        show rd 0 0 (a :: T) = _
        rw [rd, if_pos ha, if_neg (by simp), if_neg hv, rd_stop hT _ _ (by omega), h]; simp
    · rw [if_neg ha] at h; cases h
  | [a, b] =>
    simp only [decAll] at h
    by_cases ha : isD a = true
    · rw [if_pos ha] at h
      by_cases hb : isD b = true
      · rw [if_pos hb] at h
        simp only at h
        split at h
        · cases h
        · rename_i hv
          simp at h
          have h1 := isD_val ha
          have h2 := isD_val hb
          have hz' : a.toNat ≠ 48 := by simpa using hz
          show rd 0 0 (a :: b :: T) = _
          rw [rd, if_pos ha, if_neg (by simp), if_neg (by omega), rd, if_pos hb, if_neg (by omega), if_neg hv, rd_stop hT _ _ (by omega)]
          simp [← h]
      · rw [if_neg hb] at h; cases h
    · rw [if_neg ha] at h; cases h
  | [a, b, c] =>
    simp only [decAll] at h
    by_cases ha : isD a = true
    · rw [if_pos ha] at h
      by_cases hb : isD b = true
      · rw [if_pos hb] at h
        by_cases hc : isD c = true
        · rw [if_pos hc] at h
          simp only at h
          split at h
          · cases h
          · rename_i hv
            simp at h
            have h1 := isD_val ha
            have h2 := isD_val hb
            have h3 := isD_val hc
            have hz' : a.toNat ≠ 48 := by simpa using hz
            show rd 0 0 (a :: b :: c :: T) = _
            rw [rd, if_pos ha, if_neg (by simp), if_neg (by omega), rd, if_pos hb, if_neg (by omega), if_neg (by omega), rd, if_pos hc, if_neg (by omega), if_neg hv, rd_stop hT _ _ (by omega)]
            simp [← h]
        · rw [if_neg hc] at h; cases h
      · rw [if_neg hb] at h; cases h
    · rw [if_neg ha] at h; cases h
  | a :: b :: c :: e :: r => simp at hl

theorem rd_decB {d T : List UInt8} {v : Nat} (hT : Stop T) (h : rd 0 0 (d ++ T) = some (v, d.length)) : decB d = some v := by
  have h3 := rd_three _ _ _ h
  have hp := rd_pos _ _ _ _ _ h
  obtain ⟨-, -, hD, -⟩ := rd_digits _ _ _ _ _ h
  rw [Nat.sub_zero, List.take_left' rfl] at hD
  match d with
  | [] => simp at hp
  | [a] =>
    have ha := hD a (by simp)
    have h1 := isD_val ha
    have h : rd 0 0 (a :: T) = some (v, 1) := h
    rw [rd, if_pos ha, if_neg (by simp), if_neg (by omega), rd_stop hT _ _ (by omega)] at h
    simp at h
    simp [decB, decAll, ha, h]; omega
  | [a, b] =>
    have ha := hD a (by simp)
    have hb := hD b (by simp)
    have h1 := isD_val ha
    have h2 := isD_val hb
    have h : rd 0 0 (a :: b :: T) = some (v, 2) := h
    rw [rd, if_pos ha, if_neg (by simp), if_neg (by omega), rd, if_pos hb] at h
    split at h
    · cases h
    rename_i hz
    rw [if_neg (by omega), rd_stop hT _ _ (by omega)] at h
    simp at h hz
    have hz' : a.toNat ≠ 48 := by omega
    simp [decB, decAll, ha, hb, hz']; omega
  | [a, b, c] =>
    have ha := hD a (by simp)
    have hb := hD b (by simp)
    have hc := hD c (by simp)
    have h1 := isD_val ha
    have h2 := isD_val hb
    have h3 := isD_val hc
    have h : rd 0 0 (a :: b :: c :: T) = some (v, 3) := h
    rw [rd, if_pos ha, if_neg (by simp), if_neg (by omega), rd, if_pos hb] at h
    split at h
    · cases h
    rename_i hz
    rw [if_neg (by omega), rd, if_pos hc, if_neg (by omega)] at h
    split at h
    · cases h
    rename_i hv
    rw [rd_stop hT _ _ (by omega)] at h
    simp at h hz
    have hz' : a.toNat ≠ 48 := by omega
    simp [decB, decAll, ha, hb, hc, hz']; omega
  | a :: b :: c :: e :: r => simp at h3

/-- A field that is no byte: the number is bad, or it ends inside the field. -/
theorem decB_none {d T : List UInt8} (hT : Stop T) (h : decB d = none) : rd 0 0 (d ++ T) = none ∨ ∃ v n, rd 0 0 (d ++ T) = some (v, n) ∧ n < d.length := by
  cases hr : rd 0 0 (d ++ T) with
  | none => exact Or.inl rfl
  | some p =>
    obtain ⟨v, n⟩ := p
    right
    refine ⟨v, n, rfl, ?_⟩
    obtain ⟨-, hl, hD, -⟩ := rd_digits _ _ _ _ _ hr
    rw [Nat.sub_zero] at hl hD
    have h1 : n ≤ d.length := by
      rcases hT with rfl | ⟨c, t, rfl, hc⟩
      · simpa using hl
      · apply Nat.le_of_not_lt
        intro hlt
        have : c ∈ (d ++ c :: t).take n := by
          rw [List.take_append]
          obtain ⟨m, hm⟩ : ∃ m, n - d.length = m + 1 := ⟨n - d.length - 1, by omega⟩
          simp [hm]
        rw [hD c this] at hc; cases hc
    have h2 : n ≠ d.length := by
      intro e
      subst e
      rw [rd_decB hT hr] at h; cases h
    omega

theorem p4_true (k : Nat) (l : List UInt8) : p4 (k + 1) true l = match rd 0 0 l with
      | some (v, n) => (p4 k false (l.drop n)).map (v :: ·)
      | none => none := by rw [p4.eq_def]; rfl
theorem p4_in {k : Nat} {l : List UInt8} (h : ∃ c t, l = c :: t ∧ c.toNat ≠ 46) : p4 k false l = none := by
  obtain ⟨c, t, rfl, hc⟩ := h
  cases k with
  | zero => simp [p4]
  | succ k => simp [p4, hc]

theorem p4_dq : ∀ (j : Nat) (f : List UInt8), j ≤ 3 → p4 (j + 1) true f = dq (3 - j) (spl 46 f) := by
  intro j
  induction j with
  | zero =>
    intro f _
    obtain ⟨d, T, rfl, hN, hT⟩ := parts 46 f
    have hS : Stop T := by rcases hT with rfl | ⟨c, t, rfl, hc⟩; exact Or.inl rfl; exact Or.inr ⟨c, t, rfl, dot_isD hc⟩
    have hsp : ∃ r, spl 46 (d ++ T) = d :: r ∧ (r = [] ↔ T = []) := by
      rcases hT with rfl | ⟨c, t, rfl, hc⟩
      · exact ⟨[], by rw [List.append_nil]; exact spl_one hN, by simp⟩
      · exact ⟨_, spl_more hc hN, by simp [spl_ne]⟩
    obtain ⟨r, hr, hrT⟩ := hsp
    rw [hr, p4_true, dq, if_neg (by decide)]
    cases hB : decB d with
    | none =>
      rcases decB_none hS hB with h | ⟨v, n, h, hn⟩
      · rw [h]
      · rw [h]
        simp only
        rw [p4_in]
        · rfl
        · rw [List.drop_append_of_le_length (by omega)]
          cases hdr : d.drop n with
          | nil => have := congrArg List.length hdr; simp at this; omega
          | cons c t => exact ⟨c, t ++ T, rfl, hN c (List.mem_of_mem_drop (i := n) (by rw [hdr]; simp))⟩
    | some v =>
      rw [decB_rd hS hB]
      simp only
      rw [List.drop_left' rfl, p4]
      cases r with
      | nil => rw [if_pos (hrT.1 rfl)]; rfl
      | cons a r' => rw [if_neg (fun e => by simpa using hrT.2 e)]; rfl
  | succ j ih =>
    intro f hj
    obtain ⟨d, T, rfl, hN, hT⟩ := parts 46 f
    have hS : Stop T := by rcases hT with rfl | ⟨c, t, rfl, hc⟩; exact Or.inl rfl; exact Or.inr ⟨c, t, rfl, dot_isD hc⟩
    have hsp : ∃ r, spl 46 (d ++ T) = d :: r := by
      rcases hT with rfl | ⟨c, t, rfl, hc⟩
      · exact ⟨[], by rw [List.append_nil]; exact spl_one hN⟩
      · exact ⟨_, spl_more hc hN⟩
    obtain ⟨r, hr⟩ := hsp
    rw [hr, p4_true, dq, if_neg (by omega)]
    cases hB : decB d with
    | none =>
      rcases decB_none hS hB with h | ⟨v, n, h, hn⟩
      · rw [h]
      · rw [h]
        simp only
        rw [p4_in]
        · rfl
        · rw [List.drop_append_of_le_length (by omega)]
          cases hdr : d.drop n with
          | nil => have := congrArg List.length hdr; simp at this; omega
          | cons c t => exact ⟨c, t ++ T, rfl, hN c (List.mem_of_mem_drop (i := n) (by rw [hdr]; simp))⟩
    | some v =>
      rw [decB_rd hS hB]
      simp only
      rw [List.drop_left' rfl]
      congr 1
      rcases hT with rfl | ⟨c, t, rfl, hc⟩
      · rw [List.append_nil, spl_one hN] at hr
        obtain rfl : r = [] := by simpa using hr.symm
        rw [p4, if_neg (by decide), dq, if_neg (by omega)]
      · rw [spl_more hc hN] at hr
        obtain rfl : r = spl 46 t := by simpa using hr.symm
        have e : 3 - (j + 1) + 1 = 3 - j := by omega
        rw [e, ← ih t (by omega), p4, if_neg (by decide), p4_true]
        simp only [hc, if_true]
        rfl
theorem p4_quad (f : List UInt8) : p4 4 true f = dq 0 (spl 46 f) := p4_dq 3 f (by omega)

theorem p4_chars : ∀ (k : Nat) (first : Bool) (l : List UInt8) (q : List Nat), p4 k first l = some q → ∀ c ∈ l, isD c = true ∨ c.toNat = 46 := by
  intro k
  induction k with
  | zero =>
    intro first l q h c hc
    unfold p4 at h
    split at h
    · rename_i e; subst e; simp at hc
    · cases h
  | succ k ih =>
    have main : ∀ (l : List UInt8) (v n : Nat) (q : List Nat), rd 0 0 l = some (v, n) → p4 k false (l.drop n) = some q → ∀ c ∈ l, isD c = true ∨ c.toNat = 46 := by
      intro l v n q hr hp c hc
      obtain ⟨-, -, hD, -⟩ := rd_digits _ _ _ _ _ hr
      rw [Nat.sub_zero] at hD
      rw [← List.take_append_drop n l] at hc
      simp only [List.mem_append] at hc
      rcases hc with hc | hc
      · exact Or.inl (hD c hc)
      · exact ih _ _ _ hp c hc
    intro first l q h
    unfold p4 at h
    split at h
    · split at h
      · rename_i v n hr
        cases hp : p4 k false (l.drop n) with
        | none => rw [hp] at h; cases h
        | some q' => exact main l v n q' hr hp
      · cases h
    · split at h
      · cases h
      · split at h
        · rename_i c t hc
          split at h
          · rename_i v n hr
            cases hp : p4 k false (t.drop n) with
            | none => rw [hp] at h; cases h
            | some q' =>
              intro d hd
              simp at hd
              rcases hd with rfl | hd
              · exact Or.inr hc
              · exact main t v n q' hr hp d hd
          · cases h
        · cases h
theorem p4_colon {k : Nat} {first : Bool} {c : UInt8} {f t : List UInt8} (hc : c.toNat = 58) : p4 k first (f ++ c :: t) = none := by
  cases h : p4 k first (f ++ c :: t) with
  | none => rfl
  | some q =>
    exfalso
    rcases p4_chars _ _ _ _ h c (by simp) with e | e
    · rw [colon_isD hc] at e; cases e
    · omega
theorem hexRun_pre {c : UInt8} {t : List UInt8} (hc : hexV c = none) : ∀ (d : List UInt8) (k g : Nat), d.length ≤ k → (∀ a ∈ d, isD a = true) → (hexRun k g (d ++ c :: t)).2 = d.length
  | [], 0, g, _, _ => by simp [hexRun]
  | [], k + 1, g, _, _ => by rw [List.nil_append, hexRun, hc]; rfl
  | a :: d, 0, g, h, _ => by simp at h
  | a :: d, k + 1, g, h, hD => by
    rw [List.cons_append, hexRun, isD_hex (hD a (by simp))]
    simp only
    rw [hexRun_pre hc d k _ (by simp at h; omega) (fun b hb => hD b (by simp [hb]))]
    simp
/-- A quad opens with one to three digits and a dot. -/
theorem p4_head {k : Nat} {f : List UInt8} {q : List Nat} (h : p4 (k + 2) true f = some q) : 0 < (hexRun 5 0 f).2 ∧ (hexRun 5 0 f).2 ≤ 3 ∧ (f.drop (hexRun 5 0 f).2).head?.map (·.toNat) = some 46 := by
  rw [p4_true] at h
  split at h
  · rename_i v n hr
    have h3 := rd_three _ _ _ hr
    have h0 := rd_pos _ _ _ _ _ hr
    obtain ⟨-, hl, hD, -⟩ := rd_digits _ _ _ _ _ hr
    rw [Nat.sub_zero] at hl hD
    cases hdr : f.drop n with
    | nil => rw [hdr] at h; simp [p4] at h
    | cons c t =>
      rw [hdr] at h
      have hc : c.toNat = 46 := by
        apply Classical.byContradiction
        intro hc
        rw [p4_in ⟨c, t, rfl, hc⟩] at h; cases h
      have e : f = f.take n ++ c :: t := by rw [← hdr, List.take_append_drop]
      have hlen : (f.take n).length = n := by simp; omega
      have hd : (hexRun 5 0 f).2 = n := by
        rw [e, hexRun_pre (hexV_dot hc) (f.take n) 5 0 (by omega) hD, hlen]
      rw [hd, hdr]
      exact ⟨h0, h3, by simp [hc]⟩
  · cases h
theorem p4_len : ∀ (k : Nat) (first : Bool) (l : List UInt8) (q : List Nat), p4 k first l = some q → q.length = k
  | 0, first, l, q, h => by unfold p4 at h; split at h <;> simp at h; simp [← h]
  | k + 1, first, l, q, h => by
    unfold p4 at h
    split at h
    · split at h
      · cases hp : p4 k false (l.drop _) with
        | none => rw [hp] at h; cases h
        | some q' => rw [hp] at h; simp at h; rw [← h]; simp [p4_len k false _ q' hp]
      · cases h
    · split at h
      · cases h
      · split at h
        · split at h
          · rename_i t _ _ _ n _
            cases hp : p4 k false (t.drop n) with
            | none => rw [hp] at h; cases h
            | some q' => rw [hp] at h; simp at h; rw [← h]; simp [p4_len k false _ q' hp]
          · cases h
        · cases h
end Go.Proofs.Qxb6600526a.P6
