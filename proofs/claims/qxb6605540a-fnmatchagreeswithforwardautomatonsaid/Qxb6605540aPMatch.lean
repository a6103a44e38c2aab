namespace Go.Proofs.Qxb6605540a.PMatch
structure Tok where
  kind : Nat
  b : Nat
  has : Nat → Bool

/-- A one-byte token takes c. -/
def takes (t : Tok) (c : Nat) : Bool :=
  if t.kind = 0 then decide (c = t.b) else if c = 47 then false else if t.kind = 2 then t.has c else true

/-- A run (any = true: across slashes), then R. -/
def starM (any : Bool) (R : List Nat → Bool) : List Nat → Bool
  | [] => R []
  | c :: l => R (c :: l) || (starM any R l && (any || decide (c ≠ 47)))

/-- R behind some slash of l. -/
def dirsAfter (R : List Nat → Bool) : List Nat → Bool
  | [] => false
  | c :: l => dirsAfter R l || (decide (c = 47) && R l)

def oneM (t : Tok) (R : List Nat → Bool) : List Nat → Bool
  | [] => false
  | c :: l => takes t c && R l

def stepM (t : Tok) (R : List Nat → Bool) (l : List Nat) : Bool :=
  if t.kind = 3 then starM false R l
  else if t.kind = 4 then starM true R l
  else if t.kind = 5 then (R l || dirsAfter R l)
  else oneM t R l

def M : List Tok → List Nat → Bool
  | [], l => l.isEmpty
  | t :: ts, l => stepM t (M ts) l

theorem M3 (t : Tok) (ts : List Tok) (l : List Nat) (h : t.kind = 3) : M (t :: ts) l = starM false (M ts) l := by rw [M, stepM, if_pos h]
theorem M4 (t : Tok) (ts : List Tok) (l : List Nat) (h : t.kind = 4) : M (t :: ts) l = starM true (M ts) l := by rw [M, stepM, if_neg (by omega), if_pos h]
theorem M5 (t : Tok) (ts : List Tok) (l : List Nat) (h : t.kind = 5) : M (t :: ts) l = (M ts l || dirsAfter (M ts) l) := by rw [M, stepM, if_neg (by omega), if_neg (by omega), if_pos h]
theorem M1 (t : Tok) (ts : List Tok) (l : List Nat) (h3 : t.kind ≠ 3) (h4 : t.kind ≠ 4) (h5 : t.kind ≠ 5) : M (t :: ts) l = oneM t (M ts) l := by rw [M, stepM, if_neg h3, if_neg h4, if_neg h5]

/-! ### the closed forms -/
def litTok (b : Nat) : Tok := ⟨0, b, fun _ => false⟩

theorem M_lits (h : Nat → Bool) : ∀ (bs l : List Nat), M (bs.map fun b => ⟨0, b, h⟩) l = decide (l = bs)
  | [], l => by cases l <;> simp [M]
  | b :: bs, [] => by simp [M, stepM, oneM]
  | b :: bs, c :: l => by
    have ih := M_lits h bs l
    simp only [List.map_cons, M, stepM, oneM, takes]
    rw [ih]
    by_cases e : c = b <;> simp [e]

theorem M_anyPath (b : Nat) (h : Nat → Bool) : ∀ l : List Nat, M [⟨4, b, h⟩] l = true
  | [] => by simp [M, stepM, starM]
  | c :: l => by
    have ih := M_anyPath b h l
    simp [M, stepM] at ih
    simp [M, stepM, starM, ih]

theorem M_star (b : Nat) (h : Nat → Bool) : ∀ l : List Nat, M [⟨3, b, h⟩] l = l.all fun c => decide (c ≠ 47)
  | [] => by simp [M, stepM, starM]
  | c :: l => by
    have ih := M_star b h l
    simp [M, stepM] at ih
    simp [M, stepM, starM, ih, Bool.and_comm]

theorem dirsAfter_end : ∀ l : List Nat, dirsAfter (M []) l = decide (l.getLast? = some 47)
  | [] => by simp [dirsAfter]
  | [c] => by simp [dirsAfter, M]
  | c :: d :: l => by
    have ih := dirsAfter_end (d :: l)
    rw [dirsAfter, ih]
    simp [M]

theorem M_anyDirs (b : Nat) (h : Nat → Bool) (l : List Nat) : M [⟨5, b, h⟩] l = (l.isEmpty || decide (l.getLast? = some 47)) := by
  simp only [M, stepM]
  have := dirsAfter_end l
  simp [M] at *
  rw [← this]

theorem M_anyByte (b : Nat) (h : Nat → Bool) : ∀ l : List Nat, M [⟨1, b, h⟩] l = (decide (l.length = 1) && decide (l.head? ≠ some 47))
  | [] => by simp [M, stepM, oneM]
  | [c] => by by_cases e : c = 47 <;> simp [M, stepM, oneM, takes, e]
  | c :: d :: l => by simp [M, stepM, oneM]

theorem starM_lits (bs : List Nat) : ∀ l : List Nat, starM false (fun l => decide (l = bs)) l = (decide (bs.length ≤ l.length) && decide (l.drop (l.length - bs.length) = bs) && (l.take (l.length - bs.length)).all fun c => decide (c ≠ 47))
  | [] => by cases bs <;> simp [starM]
  | c :: l => by
    have ih := starM_lits bs l
    rw [starM, ih]
    by_cases h1 : bs.length ≤ l.length
    · have e : (c :: l).length - bs.length = (l.length - bs.length) + 1 := by simp; omega
      have ne : (c :: l) ≠ bs := by intro h; have := congrArg List.length h; simp at this; omega
      rw [e]
      simp [ne, h1, show bs.length ≤ l.length + 1 by omega]
      by_cases hc : c = 47 <;> simp [hc]
    · by_cases h2 : bs.length = l.length + 1
      · simp only [h2]; simp; intro h; omega
      · have ne : (c :: l) ≠ bs := by intro h; have := congrArg List.length h; simp at this; omega
        simp [h1, ne, show ¬ bs.length ≤ l.length + 1 by omega]

theorem M_starLits (b : Nat) (h h' : Nat → Bool) (bs l : List Nat) : M (⟨3, b, h⟩ :: bs.map fun b => ⟨0, b, h'⟩) l = (decide (bs.length ≤ l.length) && decide (l.drop (l.length - bs.length) = bs) && (l.take (l.length - bs.length)).all fun c => decide (c ≠ 47)) := by
  rw [← starM_lits]
  have e : (M (bs.map fun b => (⟨0, b, h'⟩ : Tok))) = fun l => decide (l = bs) := funext fun l => M_lits h' bs l
  rw [← e]
  rfl

/-! ### the forward automaton -/
def runK (k : Nat) : Bool := decide (k = 3) || decide (k = 4) || decide (k = 5)

theorem starM_self (any : Bool) (R : List Nat → Bool) (l : List Nat) (h : R l = true) : starM any R l = true := by
  cases l <;> simp [starM, h]
theorem M_run (t : Tok) (ts : List Tok) (l : List Nat) (hk : runK t.kind = true) (h : M ts l = true) : M (t :: ts) l = true := by
  simp [runK] at hk
  simp only [M, stepM]
  rcases hk with (e | e) | e
  · simp [e, starM_self _ _ _ h]
  · simp [e, starM_self _ _ _ h]
  · simp [e, h]
theorem M_nil_run (t : Tok) (ts : List Tok) (h : M (t :: ts) [] = true) : runK t.kind = true ∧ M ts [] = true := by
  simp only [M, stepM] at h
  split at h
  · rename_i e; exact ⟨by simp [runK, e], by simpa [starM] using h⟩
  · split at h
    · rename_i e; exact ⟨by simp [runK, e], by simpa [starM] using h⟩
    · split at h
      · rename_i e; exact ⟨by simp [runK, e], by simpa [dirsAfter] using h⟩
      · simp [oneM] at h

/-- One round of the closing: places below i are closed. -/
def closeTo (ts : List Tok) (at' : Nat → Bool) : Nat → Nat → Bool
  | 0, p => at' p
  | i + 1, p => if p = i + 1 then (closeTo ts at' i (i + 1) || (closeTo ts at' i i && runK (ts.getD i ⟨0, 0, fun _ => false⟩).kind)) else closeTo ts at' i p

/-- What the sets of states accept. -/
def Acc (ts : List Tok) (a m : Nat → Bool) (l : List Nat) : Prop :=
  ∃ i, i ≤ ts.length ∧ ((a i = true ∧ M (ts.drop i) l = true) ∨ (m i = true ∧ i < ts.length ∧ dirsAfter (M (ts.drop (i + 1))) l = true))

theorem drop_cons (ts : List Tok) (i : Nat) (h : i < ts.length) : ts.drop i = ts.getD i ⟨0, 0, fun _ => false⟩ :: ts.drop (i + 1) := by
  rw [List.drop_eq_getElem_cons h]
  simp [List.getD, List.getElem?_eq_getElem h]

/-- The closing changes no place's verdict. -/
theorem acc_close (ts : List Tok) (a m : Nat → Bool) (l : List Nat) : ∀ k, k ≤ ts.length → (Acc ts (closeTo ts a k) m l ↔ Acc ts a m l)
  | 0, _ => Iff.rfl
  | k + 1, hk => by
    rw [← acc_close ts a m l k (by omega)]
    constructor
    · rintro ⟨i, hi, h | h⟩
      · obtain ⟨ha, hM⟩ := h
        by_cases e : i = k + 1
        · subst e
          simp only [closeTo, if_true, Bool.or_eq_true, Bool.and_eq_true] at ha
          rcases ha with ha | ⟨ha, hr⟩
          · exact ⟨k + 1, hi, .inl ⟨ha, hM⟩⟩
          · refine ⟨k, by omega, .inl ⟨ha, ?_⟩⟩
            rw [drop_cons ts k (by omega)]
            exact M_run _ _ _ hr hM
        · simp only [closeTo, if_neg e] at ha
          exact ⟨i, hi, .inl ⟨ha, hM⟩⟩
      · exact ⟨i, hi, .inr h⟩
    · rintro ⟨i, hi, h | h⟩
      · obtain ⟨ha, hM⟩ := h
        refine ⟨i, hi, .inl ⟨?_, hM⟩⟩
        unfold closeTo
        by_cases e : i = k + 1
        · subst e; simp [ha]
        · simp [e, ha]
      · exact ⟨i, hi, .inr h⟩

/-- A set that is closed. -/
def Closed (ts : List Tok) (a : Nat → Bool) : Prop := ∀ i, i < ts.length → a i = true → runK (ts.getD i ⟨0, 0, fun _ => false⟩).kind = true → a (i + 1) = true

theorem closeTo_above (ts : List Tok) (a : Nat → Bool) : ∀ k p, k < p → closeTo ts a k p = a p
  | 0, _, _ => rfl
  | k + 1, p, h => by rw [closeTo, if_neg (by omega)]; exact closeTo_above ts a k p (by omega)

theorem closed_to (ts : List Tok) (a : Nat → Bool) : ∀ k i, i < k → closeTo ts a k i = true → runK (ts.getD i ⟨0, 0, fun _ => false⟩).kind = true → closeTo ts a k (i + 1) = true
  | 0, _, h, _, _ => by omega
  | k + 1, i, h, ha, hr => by
    rw [closeTo, if_neg (by omega)] at ha
    by_cases e : i = k
    · subst e
      rw [closeTo, if_pos rfl, ha, hr]; simp
    · rw [closeTo, if_neg (by omega)]
      exact closed_to ts a k i (by omega) ha hr

theorem closed_close (ts : List Tok) (a : Nat → Bool) : Closed ts (closeTo ts a ts.length) :=
  fun i hi ha hr => closed_to ts a ts.length i hi ha hr

/-- At the text's end a closed set accepts just where its last place is in it. -/
theorem acc_end (ts : List Tok) (a m : Nat → Bool) (hc : Closed ts a) : Acc ts a m [] ↔ a ts.length = true := by
  constructor
  · rintro ⟨i, hi, h | h⟩
    · obtain ⟨ha, hM⟩ := h
      have key : ∀ d i, ts.length - i = d → i ≤ ts.length → a i = true → M (ts.drop i) [] = true → a ts.length = true := by
        intro d
        induction d with
        | zero => intro i hd hi ha _; have : i = ts.length := by omega
                  subst this; exact ha
        | succ d ih =>
          intro i hd hi ha hM
          rw [drop_cons ts i (by omega)] at hM
          obtain ⟨hr, hM'⟩ := M_nil_run _ _ hM
          exact ih (i + 1) (by omega) (by omega) (hc i (by omega) ha hr) hM'
      exact key _ i rfl hi ha hM
    · simp [dirsAfter] at h
  · intro h
    exact ⟨ts.length, Nat.le_refl _, .inl ⟨h, by simp [M]⟩⟩

def at0 (p : Nat) : Bool := decide (p = 0)
def none0 (_ : Nat) : Bool := false

theorem acc_start (ts : List Tok) (l : List Nat) : Acc ts at0 none0 l ↔ M ts l = true := by
  constructor
  · rintro ⟨i, hi, h | h⟩
    · simp [at0] at h; obtain ⟨rfl, h⟩ := h; simpa using h
    · simp [none0] at h
  · intro h; exact ⟨0, Nat.zero_le _, .inl ⟨rfl, by simpa using h⟩⟩

/-- One byte: the sets behind it, after the tokens below i have been looked at. -/
def stepAt (ts : List Tok) (a m : Nat → Bool) (c : Nat) : Nat → Nat → Bool
  | 0, _ => false
  | i + 1, p =>
    let t := ts.getD i ⟨0, 0, fun _ => false⟩
    if t.kind = 3 then (stepAt ts a m c i p || (decide (p = i) && (a i && decide (c ≠ 47))))
    else if t.kind = 4 then (stepAt ts a m c i p || (decide (p = i) && a i))
    else if t.kind = 5 then (stepAt ts a m c i p || (decide (p = i + 1) && ((a i || m i) && decide (c = 47))))
    else (stepAt ts a m c i p || (decide (p = i + 1) && (a i && takes t c)))
def stepMid (ts : List Tok) (a m : Nat → Bool) : Nat → Nat → Bool
  | 0, _ => false
  | i + 1, p =>
    let t := ts.getD i ⟨0, 0, fun _ => false⟩
    if t.kind = 5 then (stepMid ts a m i p || (decide (p = i) && (a i || m i))) else stepMid ts a m i p

def MidOk (ts : List Tok) (m : Nat → Bool) : Prop := ∀ i, m i = true → i < ts.length ∧ (ts.getD i ⟨0, 0, fun _ => false⟩).kind = 5

theorem stepMid_iff (ts : List Tok) (a m : Nat → Bool) : ∀ k p, stepMid ts a m k p = true ↔ p < k ∧ (ts.getD p ⟨0, 0, fun _ => false⟩).kind = 5 ∧ (a p = true ∨ m p = true)
  | 0, p => by simp [stepMid]
  | k + 1, p => by
    have ih := stepMid_iff ts a m k p
    unfold stepMid
    by_cases h5 : (ts.getD k ⟨0, 0, fun _ => false⟩).kind = 5
    · simp only [h5, if_true, Bool.or_eq_true, Bool.and_eq_true, decide_eq_true_eq, ih]
      constructor
      · rintro (⟨h1, h2⟩ | ⟨rfl, h2⟩)
        · exact ⟨by omega, h2⟩
        · exact ⟨by omega, h5, h2⟩
      · rintro ⟨h1, h2, h3⟩
        by_cases e : p = k
        · subst e; exact .inr ⟨rfl, h3⟩
        · exact .inl ⟨by omega, h2, h3⟩
    · simp only [h5, if_false, ih]
      constructor
      · rintro ⟨h1, h2⟩; exact ⟨by omega, h2⟩
      · rintro ⟨h1, h2, h3⟩
        have : p ≠ k := by intro e; subst e; exact h5 h2
        exact ⟨by omega, h2, h3⟩

/-- What token i, in the set before, brings into the set behind. -/
def brings (ts : List Tok) (a m : Nat → Bool) (c i p : Nat) : Prop :=
  let t := ts.getD i ⟨0, 0, fun _ => false⟩
  (t.kind = 3 ∧ p = i ∧ a i = true ∧ c ≠ 47) ∨ (t.kind = 4 ∧ p = i ∧ a i = true) ∨ (t.kind = 5 ∧ p = i + 1 ∧ (a i = true ∨ m i = true) ∧ c = 47)
    ∨ (t.kind ≠ 3 ∧ t.kind ≠ 4 ∧ t.kind ≠ 5 ∧ p = i + 1 ∧ a i = true ∧ takes t c = true)

theorem stepAt_iff (ts : List Tok) (a m : Nat → Bool) (c : Nat) : ∀ k p, stepAt ts a m c k p = true ↔ ∃ i, i < k ∧ brings ts a m c i p
  | 0, p => by simp [stepAt]
  | k + 1, p => by
    have ih := stepAt_iff ts a m c k p
    have split : (∃ i, i < k + 1 ∧ brings ts a m c i p) ↔ (∃ i, i < k ∧ brings ts a m c i p) ∨ brings ts a m c k p := by
      constructor
      · rintro ⟨i, h1, h2⟩
        by_cases e : i = k
        · subst e; exact .inr h2
        · exact .inl ⟨i, by omega, h2⟩
      · rintro (⟨i, h1, h2⟩ | h)
        · exact ⟨i, by omega, h2⟩
        · exact ⟨k, by omega, h⟩
    rw [split, ← ih]
    by_cases h3 : (ts.getD k ⟨0, 0, fun _ => false⟩).kind = 3
    · rw [stepAt, if_pos h3, brings, h3]; simp
    · by_cases h4 : (ts.getD k ⟨0, 0, fun _ => false⟩).kind = 4
      · rw [stepAt, if_neg h3, if_pos h4, brings, h4]; simp
      · by_cases h5 : (ts.getD k ⟨0, 0, fun _ => false⟩).kind = 5
        · rw [stepAt, if_neg h3, if_neg h4, if_pos h5, brings, h5]; simp
        · rw [stepAt, if_neg h3, if_neg h4, if_neg h5, brings]; simp at h3 h4 h5 ⊢; simp [h3, h4, h5]

/-- One byte: the sets before accept the text with it just where the sets behind accept the rest. -/
theorem acc_step (ts : List Tok) (a m : Nat → Bool) (c : Nat) (l : List Nat) (ha : Closed ts a) (hm : MidOk ts m) :
    Acc ts a m (c :: l) ↔ Acc ts (stepAt ts a m c ts.length) (stepMid ts a m ts.length) l := by
  -- what one place accepts of c :: l
  constructor
  · rintro ⟨i, hi, h | h⟩
    · obtain ⟨hai, hM⟩ := h
      -- walk on through tokens whose empty run is taken
      have key : ∀ d i, ts.length - i = d → i ≤ ts.length → a i = true → M (ts.drop i) (c :: l) = true → Acc ts (stepAt ts a m c ts.length) (stepMid ts a m ts.length) l := by
        intro d
        induction d with
        | zero =>
          intro i hd hi hai hM
          rw [List.drop_eq_nil_of_le (by omega)] at hM
          simp [M] at hM
        | succ d ih =>
          intro i hd hi hai hM
          have hlt : i < ts.length := by omega
          rw [drop_cons ts i hlt] at hM
          by_cases h3 : (ts.getD i ⟨0, 0, fun _ => false⟩).kind = 3
          · rw [M3 _ _ _ h3] at hM
            simp only [starM, Bool.or_eq_true, Bool.and_eq_true, decide_eq_true_eq] at hM
            rcases hM with hM | ⟨hM, hc⟩
            · exact ih (i + 1) (by omega) (by omega) (ha i hlt hai (by simp only [runK, h3]; rfl)) hM
            · refine ⟨i, hi, .inl ⟨(stepAt_iff ts a m c _ _).2 ⟨i, hlt, .inl ⟨h3, rfl, hai, by simpa using hc⟩⟩, ?_⟩⟩
              rw [drop_cons ts i hlt, M3 _ _ _ h3]; exact hM
          · by_cases h4 : (ts.getD i ⟨0, 0, fun _ => false⟩).kind = 4
            · rw [M4 _ _ _ h4] at hM
              simp only [starM, Bool.or_eq_true, Bool.and_eq_true] at hM
              rcases hM with hM | ⟨hM, hc⟩
              · exact ih (i + 1) (by omega) (by omega) (ha i hlt hai (by simp only [runK, h4]; rfl)) hM
              · refine ⟨i, hi, .inl ⟨(stepAt_iff ts a m c _ _).2 ⟨i, hlt, .inr (.inl ⟨h4, rfl, hai⟩)⟩, ?_⟩⟩
                rw [drop_cons ts i hlt, M4 _ _ _ h4]; exact hM
            · by_cases h5 : (ts.getD i ⟨0, 0, fun _ => false⟩).kind = 5
              · rw [M5 _ _ _ h5] at hM
                simp only [dirsAfter, Bool.or_eq_true, Bool.and_eq_true, decide_eq_true_eq] at hM
                rcases hM with hM | hM | ⟨hc, hM⟩
                · exact ih (i + 1) (by omega) (by omega) (ha i hlt hai (by simp only [runK, h5]; rfl)) hM
                · exact ⟨i, hi, .inr ⟨(stepMid_iff ts a m _ _).2 ⟨hlt, h5, .inl hai⟩, hlt, hM⟩⟩
                · exact ⟨i + 1, by omega, .inl ⟨(stepAt_iff ts a m c _ _).2 ⟨i, hlt, .inr (.inr (.inl ⟨h5, rfl, .inl hai, hc⟩))⟩, hM⟩⟩
              · rw [M1 _ _ _ h3 h4 h5] at hM
                simp only [oneM, Bool.and_eq_true] at hM
                exact ⟨i + 1, by omega, .inl ⟨(stepAt_iff ts a m c _ _).2 ⟨i, hlt, .inr (.inr (.inr ⟨h3, h4, h5, rfl, hai, hM.1⟩))⟩, hM.2⟩⟩
      exact key _ i rfl hi hai hM
    · obtain ⟨hmi, hlt, hM⟩ := h
      have h5 := (hm i hmi).2
      simp only [dirsAfter, Bool.or_eq_true, Bool.and_eq_true, decide_eq_true_eq] at hM
      rcases hM with hM | ⟨hc, hM⟩
      · exact ⟨i, hi, .inr ⟨(stepMid_iff ts a m _ _).2 ⟨hlt, h5, .inr hmi⟩, hlt, hM⟩⟩
      · exact ⟨i + 1, by omega, .inl ⟨(stepAt_iff ts a m c _ _).2 ⟨i, hlt, .inr (.inr (.inl ⟨h5, rfl, .inr hmi, hc⟩))⟩, hM⟩⟩
  · rintro ⟨p, hp, h | h⟩
    · obtain ⟨hap, hM⟩ := h
      obtain ⟨i, hlt, hb⟩ := (stepAt_iff ts a m c _ _).1 hap
      unfold brings at hb
      rcases hb with ⟨h3, rfl, hai, hc⟩ | ⟨h4, rfl, hai⟩ | ⟨h5, rfl, hai, hc⟩ | ⟨h3, h4, h5, rfl, hai, hc⟩
      · refine ⟨p, hp, .inl ⟨hai, ?_⟩⟩
        rw [drop_cons ts p hlt] at hM ⊢
        rw [M3 _ _ _ h3] at hM ⊢
        simp [starM, hM, hc]
      · refine ⟨p, hp, .inl ⟨hai, ?_⟩⟩
        rw [drop_cons ts p hlt] at hM ⊢
        rw [M4 _ _ _ h4] at hM ⊢
        simp [starM, hM]
      · rcases hai with hai | hmi
        · refine ⟨i, by omega, .inl ⟨hai, ?_⟩⟩
          rw [drop_cons ts i hlt, M5 _ _ _ h5]
          simp [dirsAfter, hc, hM]
        · exact ⟨i, by omega, .inr ⟨hmi, hlt, by simp [dirsAfter, hc, hM]⟩⟩
      · refine ⟨i, by omega, .inl ⟨hai, ?_⟩⟩
        rw [drop_cons ts i hlt, M1 _ _ _ h3 h4 h5]
        simp only [oneM, hc, hM]
        rfl
    · obtain ⟨hmp, hlt, hM⟩ := h
      obtain ⟨_, h5, hai⟩ := (stepMid_iff ts a m _ _).1 hmp
      rcases hai with hai | hmi
      · refine ⟨p, by omega, .inl ⟨hai, ?_⟩⟩
        rw [drop_cons ts p hlt, M5 _ _ _ h5]
        simp [dirsAfter, hM]
      · exact ⟨p, by omega, .inr ⟨hmi, hlt, by simp [dirsAfter, hM]⟩⟩

/-- The sets after the bytes l. -/
def fwd (ts : List Tok) : List Nat → (Nat → Bool) × (Nat → Bool) → (Nat → Bool) × (Nat → Bool)
  | [], s => s
  | c :: l, s => fwd ts l (closeTo ts (stepAt ts s.1 s.2 c ts.length) ts.length, stepMid ts s.1 s.2 ts.length)

theorem fwd_acc (ts : List Tok) : ∀ (l : List Nat) (a m : Nat → Bool), Closed ts a → MidOk ts m → (Acc ts a m l ↔ (fwd ts l (a, m)).1 ts.length = true)
  | [], a, m, ha, _ => acc_end ts a m ha
  | c :: l, a, m, ha, hm => by
    rw [acc_step ts a m c l ha hm, ← acc_close ts _ _ l ts.length (Nat.le_refl _)]
    exact fwd_acc ts l _ _ (closed_close ts _) (fun i hi => by
      obtain ⟨h1, h2, _⟩ := (stepMid_iff ts a m _ _).1 hi
      exact ⟨h1, h2⟩)

/-- THE PLAIN LAW: the table from the right answers what the sets from the left answer. -/
theorem fwd_eq (ts : List Tok) (l : List Nat) : (fwd ts l (closeTo ts at0 ts.length, none0)).1 ts.length = M ts l := by
  rw [Bool.eq_iff_iff, ← fwd_acc ts l _ _ (closed_close ts _) (fun i hi => by simp [none0] at hi), acc_close ts _ _ l _ (Nat.le_refl _), acc_start]
end Go.Proofs.Qxb6605540a.PMatch
