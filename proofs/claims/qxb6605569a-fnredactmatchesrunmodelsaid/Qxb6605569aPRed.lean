/-
  The plain law of Redact: bytes, runs, no Go in sight.
-/
namespace Go.Proofs.Qxb6605569a.PRed

/-- A byte of the base64url alphabet, by its number. -/
def isN (c : Nat) : Bool := (decide (65 ≤ c) && decide (c ≤ 90)) || (decide (97 ≤ c) && decide (c ≤ 122)) || (decide (48 ≤ c) && decide (c ≤ 57)) || decide (c = 45) || decide (c = 95)
def isB (c : UInt8) : Bool := isN c.toNat
def mark : List UInt8 := [91, 114, 101, 100, 97, 99, 116, 101, 100, 93]
/-- What becomes of a whole run. -/
def flush (acc : List UInt8) : List UInt8 := if 43 ≤ acc.length then mark else acc
/-- acc: the run at hand. -/
def red : List UInt8 → List UInt8 → List UInt8
  | acc, [] => flush acc
  | acc, c :: l => if isB c then red (acc ++ [c]) l else flush acc ++ c :: red [] l
def R (s : List UInt8) : List UInt8 := red [] s

theorem flush_le (acc : List UInt8) : (flush acc).length ≤ acc.length := by
  unfold flush; split
  · simp [mark]; omega
  · exact Nat.le_refl _
theorem flush_long (acc : List UInt8) (h : 43 ≤ acc.length) : (flush acc).length + 33 ≤ acc.length := by
  unfold flush; rw [if_pos h]; simp [mark]; omega
theorem red_yes (acc l : List UInt8) (c : UInt8) (h : isB c = true) : red acc (c :: l) = red (acc ++ [c]) l := by rw [red, if_pos h]
theorem red_no (acc l : List UInt8) (c : UInt8) (h : isB c = false) : red acc (c :: l) = flush acc ++ c :: red [] l := by rw [red, if_neg (by simp [h])]
theorem red_le : ∀ (l acc : List UInt8), (red acc l).length ≤ acc.length + l.length
  | [], acc => by simpa [red] using flush_le acc
  | c :: l, acc => by
    cases h : isB c
    · rw [red_no _ _ _ h]
      have h1 := flush_le acc
      have h2 := red_le l []
      simp at h2 ⊢; omega
    · rw [red_yes _ _ _ h]
      have := red_le l (acc ++ [c])
      simp at this ⊢; omega
theorem R_le (s : List UInt8) : (R s).length ≤ s.length := by simpa [R] using red_le s []

/-- A byte outside the alphabet cuts the text. -/
theorem red_sep (sep : UInt8) (hs : isB sep = false) (b : List UInt8) : ∀ (a acc : List UInt8), red acc (a ++ sep :: b) = red acc a ++ sep :: red [] b
  | [], acc => by simp [red_no _ _ _ hs, red]
  | c :: a, acc => by
    rw [List.cons_append]
    cases h : isB c
    · rw [red_no _ _ _ h, red_no _ _ _ h, red_sep sep hs b a []]; simp
    · rw [red_yes _ _ _ h, red_yes _ _ _ h, red_sep sep hs b a _]
theorem R_sep (sep : UInt8) (hs : isB sep = false) (a b : List UInt8) : R (a ++ sep :: b) = R a ++ sep :: R b := red_sep sep hs b a []
/-- A run joins the run at hand. -/
theorem red_run (rest : List UInt8) : ∀ (run acc : List UInt8), (∀ c ∈ run, isB c = true) → red acc (run ++ rest) = red (acc ++ run) rest
  | [], acc, _ => by simp
  | c :: run, acc, h => by
    rw [List.cons_append, red_yes _ _ _ (h c (by simp)), red_run rest run _ (fun d hd => h d (by simp [hd]))]
    simp
theorem R_run (run : List UInt8) (h : ∀ c ∈ run, isB c = true) : R run = flush run := by
  have := red_run [] run [] h
  simpa [R, red] using this
/-- A whole run at the head, then what no run goes on into. -/
theorem R_head (run rest : List UInt8) (h : ∀ c ∈ run, isB c = true) (hr : ∀ c, rest.head? = some c → isB c = false) : R (run ++ rest) = flush run ++ R rest := by
  unfold R
  rw [red_run rest run [] h, List.nil_append]
  match rest, hr with
  | [], _ => simp [red, flush]
  | c :: rest, hr =>
    have hc := hr c rfl
    rw [red_no _ _ _ hc, red_no _ _ _ hc]
    simp [flush]
theorem R_skip (c : UInt8) (rest : List UInt8) (h : isB c = false) : R (c :: rest) = c :: R rest := by
  unfold R; rw [red_no _ _ _ h]; simp [flush]

/-! ### runs -/
/-- With a run of k at hand, no run of l comes to 43. -/
def okR : Nat → List UInt8 → Bool
  | _, [] => true
  | k, c :: l => if isB c then decide (k + 1 < 43) && okR (k + 1) l else okR 0 l
theorem ok_yes (k : Nat) (c : UInt8) (l : List UInt8) (h : isB c = true) : okR k (c :: l) = (decide (k + 1 < 43) && okR (k + 1) l) := by rw [okR, if_pos h]
theorem ok_no (k : Nat) (c : UInt8) (l : List UInt8) (h : isB c = false) : okR k (c :: l) = okR 0 l := by rw [okR, if_neg (by simp [h])]
theorem ok_sep (x : UInt8) (hx : isB x = false) (t : List UInt8) : ∀ (u : List UInt8) (k : Nat), okR k (u ++ x :: t) = (okR k u && okR 0 t)
  | [], k => by simp [ok_no _ _ _ hx, okR]
  | c :: u, k => by
    rw [List.cons_append]
    cases h : isB c
    · rw [ok_no _ _ _ h, ok_no _ _ _ h, ok_sep x hx t u 0]
    · rw [ok_yes _ _ _ h, ok_yes _ _ _ h, ok_sep x hx t u (k + 1), Bool.and_assoc]
theorem ok_short : ∀ (run : List UInt8) (k : Nat), k + run.length < 43 → okR k run = true
  | [], _, _ => rfl
  | c :: run, k, h => by
    simp at h
    cases hc : isB c
    · rw [ok_no _ _ _ hc]; exact ok_short run 0 (by omega)
    · rw [ok_yes _ _ _ hc, ok_short run (k + 1) (by omega), decide_eq_true (by omega)]; rfl
theorem ok_flush (acc : List UInt8) : okR 0 (flush acc) = true := by
  unfold flush; split
  · decide
  · exact ok_short acc 0 (by omega)
theorem ok_red : ∀ (l acc : List UInt8), okR 0 (red acc l) = true
  | [], acc => ok_flush acc
  | c :: l, acc => by
    cases h : isB c
    · rw [red_no _ _ _ h, ok_sep c h, ok_flush, ok_red l []]; rfl
    · rw [red_yes _ _ _ h]; exact ok_red l _
theorem red_ok : ∀ (l acc : List UInt8), acc.length < 43 → okR acc.length l = true → red acc l = acc ++ l
  | [], acc, h, _ => by simp [red, flush]; omega
  | c :: l, acc, h, ho => by
    cases hc : isB c
    · rw [ok_no _ _ _ hc] at ho
      rw [red_no _ _ _ hc, red_ok l [] (by simp) ho]
      unfold flush; rw [if_neg (by omega)]; simp
    · rw [ok_yes _ _ _ hc, Bool.and_eq_true, decide_eq_true_iff] at ho
      rw [red_yes _ _ _ hc, red_ok l (acc ++ [c]) (by simp; omega) (by simpa using ho.2)]
      simp
theorem R_ok (s : List UInt8) (h : okR 0 s = true) : R s = s := by
  have := red_ok s [] (by simp) (by simpa using h)
  simpa [R] using this
theorem R_twice (s : List UInt8) : R (R s) = R s := R_ok _ (ok_red s [])
theorem red_long : ∀ (l acc : List UInt8), (43 ≤ acc.length ∨ okR acc.length l = false) → (red acc l).length + 33 ≤ acc.length + l.length
  | [], acc, h => by
    rcases h with h | h
    · simpa [red] using flush_long acc h
    · simp [okR] at h
  | c :: l, acc, h => by
    cases hc : isB c
    · rw [red_no _ _ _ hc]
      rcases h with h | h
      · have h1 := flush_long acc h
        have h2 := red_le l []
        simp at h2 ⊢; omega
      · rw [ok_no _ _ _ hc] at h
        have h1 := flush_le acc
        have h2 := red_long l [] (.inr (by simpa using h))
        simp at h2 ⊢; omega
    · rw [red_yes _ _ _ hc]
      have := red_long l (acc ++ [c]) (by
        rcases h with h | h
        · left; simp; omega
        · rw [ok_yes _ _ _ hc, Bool.and_eq_false_iff] at h
          rcases h with h | h
          · left; simp at h ⊢; omega
          · right; simpa using h)
      simp at this ⊢; omega
theorem R_long (s : List UInt8) (h : okR 0 s = false) : (R s).length + 33 ≤ s.length := by
  have := red_long s [] (.inr (by simpa using h))
  simpa [R] using this

/-- The longest run, as the law counts it. -/
def lr : Nat → Nat → List UInt8 → Nat
  | b, _, [] => b
  | b, k, c :: l => if isB c then lr (if b < k + 1 then k + 1 else b) (k + 1) l else lr b 0 l
theorem lr_ok : ∀ (l : List UInt8) (b k : Nat), b < 43 → (lr b k l < 43 ↔ okR k l = true)
  | [], b, k, h => by simp [lr, okR, h]
  | c :: l, b, k, h => by
    cases hc : isB c
    · rw [ok_no _ _ _ hc, lr, if_neg (by simp [hc])]
      exact lr_ok l b 0 h
    · rw [ok_yes _ _ _ hc, lr, if_pos hc]
      by_cases hk : k + 1 < 43
      · rw [decide_eq_true hk, Bool.true_and]
        exact lr_ok l _ (k + 1) (by split <;> omega)
      · rw [decide_eq_false hk, Bool.false_and]
        simp only [Bool.false_eq_true, iff_false]
        have mono : ∀ (l : List UInt8) (b k : Nat), b ≤ lr b k l := by
          intro l
          induction l with
          | nil => intro b k; exact Nat.le_refl _
          | cons c l ih =>
            intro b k
            rw [lr]
            split
            · have := ih (if b < k + 1 then k + 1 else b) (k + 1)
              refine Nat.le_trans ?_ this
              split <;> omega
            · exact ih b 0
        have := mono l (if b < k + 1 then k + 1 else b) (k + 1)
        have h2 : 43 ≤ (if b < k + 1 then k + 1 else b) := by split <;> omega
        omega
theorem lr_le : ∀ (l : List UInt8) (b k : Nat), k ≤ b → lr b k l ≤ b + l.length
  | [], b, k, _ => by simp [lr]
  | c :: l, b, k, h => by
    rw [lr]
    split
    · rw [List.length_cons]
      by_cases hb : b < k + 1
      · rw [if_pos hb]
        have := lr_le l (k + 1) (k + 1) (Nat.le_refl _)
        omega
      · rw [if_neg hb]
        have := lr_le l b (k + 1) (by omega)
        omega
    · have := lr_le l b 0 (by omega)
      simp; omega
end Go.Proofs.Qxb6605569a.PRed
