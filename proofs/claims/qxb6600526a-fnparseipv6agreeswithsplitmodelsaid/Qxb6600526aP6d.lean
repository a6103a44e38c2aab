/-
  The parser agrees with the split model: the two phases.
-/
import Derived.Test.Qxb6600526aP6c
namespace Go.Proofs.Qxb6600526a.P6

theorem fieldB_len {f : List UInt8} {b : Bool} {q : List Nat} (h : fieldB f b = some q) : q.length = 2 ∨ q.length = 4 := by
  unfold fieldB at h
  split at h
  · split at h
    · rw [← p4_quad] at h; right; exact p4_len _ _ _ _ h
    · cases h
  · cases hf : hexF f with
    | none => rw [hf] at h; cases h
    | some v => rw [hf] at h; simp at h; left; simp [← h]
theorem fieldB_two {f : List UInt8} {q : List Nat} (h : fieldB f false = some q) : hasX 46 f = false ∧ ∃ v, hexF f = some v ∧ q = [v / 256, v % 256] := by
  unfold fieldB at h
  split at h
  · simp at h
  · rename_i hd
    refine ⟨by simpa using hd, ?_⟩
    cases hf : hexF f with
    | none => rw [hf] at h; cases h
    | some v => rw [hf] at h; simp at h; exact ⟨v, rfl, h.symm⟩
theorem fieldB_nil (b : Bool) : fieldB [] b = none := by cases b <;> rfl

/-- The last field. -/
theorem rnd_last {g : Option Nat} {o : List Nat} {f : List UInt8} (hN : No 58 f) (ho : o.length ≤ 14) :
    rnd g o f = (fieldB f true).bind fun q => if 16 < (o ++ q).length then none else some (true, g, o ++ q, []) := by
  unfold rnd fieldB
  by_cases hd : hasX 46 f = true
  · rw [if_pos hd, if_pos rfl, ← p4_quad]
    cases hp : p4 4 true f with
    | none =>
      simp only [Option.bind_none]
      split
      · rfl
      split
      · split <;> rfl
      rename_i h1 h2
      have hx := hexF_none (hexF_dot hd)
      rcases hx with h | h | ⟨c, t, h, h'⟩
      · omega
      · omega
      · rw [h] at h2 ⊢
        have hc : c.toNat ≠ 58 := hN c (List.mem_of_mem_drop (by rw [h]; simp))
        simp only
        rw [if_pos (Or.inl hc)]
    | some q =>
      obtain ⟨h1, h2, h3⟩ := p4_head hp
      have hl := p4_len _ _ _ _ hp
      rw [if_neg (by omega), if_pos h3]
      simp [hl]
  · rw [if_neg hd]
    have hd' : hasX 46 f = false := by simpa using hd
    cases hf : hexF f with
    | none =>
      simp only [Option.map_none, Option.bind_none]
      rcases hexF_none hf with h | h | ⟨c, t, h, h'⟩
      · rw [if_pos (Or.inl h)]
      · rw [if_pos (Or.inr h)]
      · split
        · rfl
        · have hm : c ∈ f := List.mem_of_mem_drop (by rw [h]; simp)
          have hc : c.toNat ≠ 58 := hN c hm
          have hc2 : c.toNat ≠ 46 := no_has.2 hd' c hm
          rw [h]
          rw [if_neg (by simpa using hc2)]
          simp only
          rw [if_pos (Or.inl hc)]
    | some v =>
      obtain ⟨h1, h2, h3⟩ := hexF_some hf
      have h4 : 0 < f.length := List.length_pos_iff.2 h1
      rw [h3]
      simp only [List.drop_length]
      rw [if_neg (by omega), if_neg (by simp)]
      simp
      omega

/-- A field with a colon behind it. -/
theorem rnd_bad {g : Option Nat} {o : List Nat} {f t : List UInt8} (hN : No 58 f) (h : fieldB f false = none) : rnd g o (f ++ 58 :: t) = none := by
  have hS : Sep ((58 : UInt8) :: t) := Or.inr ⟨t, rfl⟩
  have hf : hexF f = none := by
    unfold fieldB at h
    split at h
    · rename_i hd; exact hexF_dot hd
    · simpa using h
  unfold rnd
  rw [hexRun_app hS]
  split
  · rfl
  rename_i h1
  split
  · rw [p4_colon (by decide)]
    split <;> rfl
  rename_i h2
  rcases hexF_none hf with h | h | ⟨c, r, h, h'⟩
  · omega
  · omega
  · have hm : c ∈ f := List.mem_of_mem_drop (by rw [h]; simp)
    have hc : c.toNat ≠ 58 := hN c hm
    have hle := (hexRun_le f 5 0).1
    rw [List.drop_append_of_le_length hle, h]
    simp only [List.cons_append]
    rw [if_pos (Or.inl hc)]
theorem rnd_more {g : Option Nat} {o : List Nat} {f t : List UInt8} {q : List Nat} (h : fieldB f false = some q) :
    rnd g o (f ++ 58 :: t) = match t with
      | [] => none
      | d :: t' => if d.toNat = 58 then if g.isSome then none else some (false, some (o.length + 2), o ++ q, t') else some (false, g, o ++ q, d :: t') := by
  have hS : Sep ((58 : UInt8) :: t) := Or.inr ⟨t, rfl⟩
  obtain ⟨hd, v, hf, rfl⟩ := fieldB_two h
  obtain ⟨h1, h2, h3⟩ := hexF_some hf
  have h4 : 0 < f.length := List.length_pos_iff.2 h1
  unfold rnd
  rw [hexRun_app hS, h3]
  simp only [List.drop_left' rfl]
  rw [if_neg (by omega), if_neg (by simp)]
  cases t with
  | nil => rw [if_pos (Or.inr rfl)]
  | cons d t' => rw [if_neg (by simp)]

/-! ### the model, without the running bound -/
def flds (last : Bool) : List (List UInt8) → Option (List Nat)
  | [] => some []
  | f :: fs => match fieldB f (last && fs.isEmpty) with
    | none => none
    | some q => (flds last fs).map (q ++ ·)
theorem sd_flds (last : Bool) : ∀ (fs : List (List UInt8)) (o : List Nat), o.length ≤ 16 → sd last o fs = (flds last fs).bind fun q => if 16 < (o ++ q).length then none else some (o ++ q)
  | [], o, ho => by simp [sd, flds]; omega
  | f :: fs, o, ho => by
    rw [sd, flds]
    cases fieldB f (last && fs.isEmpty) with
    | none => rfl
    | some q =>
      simp only
      by_cases hl : 16 < (o ++ q).length
      · rw [if_pos hl]
        cases flds last fs with
        | none => rfl
        | some r =>
          simp only [Option.map_some, Option.bind_some]
          rw [if_pos]
          simp at hl ⊢; omega
      · rw [if_neg hl, sd_flds last fs _ (by omega)]
        cases flds last fs with
        | none => rfl
        | some r => simp
def FF (last : Bool) (s : List UInt8) : Option (List Nat) := if s = [] then some [] else flds last (spl 58 s)
theorem side_FF (s : List UInt8) (last : Bool) : side s last = (FF last s).bind fun q => if 16 < q.length then none else some q := by
  unfold side FF
  split
  · rfl
  · rw [sd_flds _ _ _ (by simp)]; rfl
theorem FF_one {last : Bool} {f : List UInt8} (hf : f ≠ []) (hN : No 58 f) : FF last f = fieldB f last := by
  unfold FF
  rw [if_neg hf, spl_one hN, flds]
  simp
  cases fieldB f last with
  | none => rfl
  | some q => simp [flds]
theorem FF_more {last : Bool} {f t : List UInt8} (hN : No 58 f) (ht : t ≠ []) : FF last (f ++ 58 :: t) = (fieldB f false).bind fun q => (FF last t).map (q ++ ·) := by
  unfold FF
  rw [if_neg (by simp), if_neg ht, spl_more (by decide) hN, flds]
  have : (spl 58 t).isEmpty = false := by
    cases h : spl 58 t with
    | nil => exact absurd h (spl_ne t)
    | cons => rfl
  rw [this, Bool.and_false]
  cases fieldB f false <;> rfl
theorem FF_end {last : Bool} {f : List UInt8} (hN : No 58 f) : FF last (f ++ [58]) = none := by
  unfold FF
  rw [if_neg (by simp), spl_more (by decide) hN, flds]
  have : (spl 58 ([] : List UInt8)).isEmpty = false := rfl
  rw [this, Bool.and_false]
  cases fieldB f false with
  | none => rfl
  | some q =>
    show Option.map _ (flds last [[]]) = none
    rw [flds, fieldB_nil]; rfl
theorem FF_none {last : Bool} {f t : List UInt8} (hN : No 58 f) (h : fieldB f false = none) : FF last (f ++ 58 :: t) = none := by
  cases t with
  | nil => exact FF_end hN
  | cons d t' => rw [FF_more hN (by simp), h]; rfl
theorem FF_pos {last : Bool} : ∀ (n : Nat) {s : List UInt8} {b : List Nat}, s.length ≤ n → s ≠ [] → FF last s = some b → 2 ≤ b.length := by
  intro n
  intro s b _ hs h
  unfold FF at h
  rw [if_neg hs] at h
  cases hsp : spl 58 s with
  | nil => exact absurd hsp (spl_ne s)
  | cons f fs =>
    rw [hsp, flds] at h
    split at h
    · cases h
    · rename_i q hq
      have := fieldB_len hq
      cases hf : flds last fs with
      | none => rw [hf] at h; cases h
      | some r => rw [hf] at h; simp at h; rw [← h]; simp; omega
theorem FF_even {last : Bool} {s : List UInt8} {b : List Nat} (h : FF last s = some b) : b.length % 2 = 0 := by
  have key : ∀ (fs : List (List UInt8)) (b : List Nat), flds last fs = some b → b.length % 2 = 0 := by
    intro fs
    induction fs with
    | nil => intro b h; simp [flds] at h; simp [h]
    | cons f fs ih =>
      intro b h
      rw [flds] at h
      split at h
      · cases h
      · rename_i q hq
        have := fieldB_len hq
        cases hf : flds last fs with
        | none => rw [hf] at h; cases h
        | some r => rw [hf] at h; simp at h; rw [← h]; have := ih r hf; simp; omega
  unfold FF at h
  split at h
  · simp at h; simp [h]
  · exact key _ _ h

/-! ### the double colon -/
theorem cut2_no : ∀ {f : List UInt8}, No 58 f → cut2 f = none
  | [], _ => rfl
  | [c], _ => rfl
  | c :: d :: f, h => by rw [cut2, if_neg (fun e => h.head e.1), cut2_no h.tail]; rfl
theorem cut2_cc : ∀ {f : List UInt8} {t : List UInt8}, No 58 f → cut2 (f ++ 58 :: 58 :: t) = some (f, t)
  | [], t, _ => by rw [List.nil_append, cut2, if_pos (by decide)]
  | [c], t, h => by
    show cut2 (c :: 58 :: 58 :: t) = _
    rw [cut2, if_neg (fun e => h.head e.1), cut2, if_pos (by decide)]; rfl
  | c :: d :: f, t, h => by
    have := cut2_cc (f := d :: f) (t := t) h.tail
    show cut2 (c :: d :: (f ++ _)) = _
    rw [cut2, if_neg (fun e => h.head e.1)]
    rw [List.cons_append] at this
    rw [this]; rfl
theorem cut2_c1 {d : UInt8} {t : List UInt8} (hd : d.toNat ≠ 58) : cut2 (58 :: d :: t) = (cut2 (d :: t)).map fun p => (58 :: p.1, p.2) := by
  rw [cut2, if_neg (fun e => hd e.2)]
theorem cut2_c : ∀ {f : List UInt8} {d : UInt8} {t : List UInt8}, No 58 f → d.toNat ≠ 58 → cut2 (f ++ 58 :: d :: t) = (cut2 (d :: t)).map fun p => (f ++ 58 :: p.1, p.2)
  | [], d, t, _, hd => by rw [List.nil_append, cut2_c1 hd]; rfl
  | [c], d, t, h, hd => by
    show cut2 (c :: 58 :: d :: t) = _
    rw [cut2, if_neg (fun e => h.head e.1), cut2_c1 hd]
    cases cut2 (d :: t) <;> rfl
  | c :: e :: f, d, t, h, hd => by
    have := cut2_c (f := e :: f) (t := t) h.tail hd
    show cut2 (c :: e :: (f ++ _)) = _
    rw [cut2, if_neg (fun e => h.head e.1)]
    rw [List.cons_append] at this
    rw [this]
    cases cut2 (d :: t) <;> rfl
theorem cut2_end : ∀ {f : List UInt8}, No 58 f → cut2 (f ++ [58]) = none
  | [], _ => rfl
  | [c], h => by
    show cut2 [c, 58] = none
    rw [cut2, if_neg (fun e => h.head e.1)]; rfl
  | c :: d :: f, h => by
    have := cut2_end (f := d :: f) h.tail
    show cut2 (c :: d :: (f ++ _)) = _
    rw [cut2, if_neg (fun e => h.head e.1)]
    rw [List.cons_append] at this
    rw [this]; rfl
/-- What stands ahead of the first double colon does not begin anew. -/
theorem cut2_ne {d : UInt8} {t l r : List UInt8} (hd : d.toNat ≠ 58) (h : cut2 (d :: t) = some (l, r)) : l ≠ [] := by
  cases t with
  | nil => simp [cut2] at h
  | cons e t =>
    rw [cut2, if_neg (fun e => hd e.1)] at h
    cases hc : cut2 (e :: t) with
    | none => rw [hc] at h; cases h
    | some p => rw [hc] at h; simp at h; rw [← h.1]; simp

/-! ### the phase behind the gap -/
def tailOf (k : Nat) (o : List Nat) (s : List UInt8) : Option (List Nat) :=
  if (cut2 s).isSome then none else match FF true s with
    | none => none
    | some b => if 14 < o.length + b.length then none else some ((o ++ b).take k ++ List.replicate (16 - o.length - b.length) 0 ++ (o ++ b).drop k)
theorem colon_T {T : List UInt8} (h : T = [] ∨ ∃ c t, T = c :: t ∧ c.toNat = 58) : T = [] ∨ ∃ t, T = (58 : UInt8) :: t := by
  rcases h with h | ⟨c, t, rfl, hc⟩
  · exact Or.inl h
  · exact Or.inr ⟨t, by rw [colon_eq hc]⟩
theorem lp_tail : ∀ (F k : Nat) (o : List Nat) (s : List UInt8), o.length % 2 = 0 → o.length ≤ 16 → k ≤ o.length → 18 ≤ o.length + 2 * F → (lp F (some k) o s).bind fin = tailOf k o s := by
  intro F
  induction F with
  | zero => intro k o s _ _ _ h; omega
  | succ F ih =>
    intro k o s he hl hk hF
    rw [lp]
    by_cases h16 : o.length = 16
    · rw [if_neg (by omega)]
      simp only [Option.bind_some, fin]
      unfold tailOf
      by_cases hs : s = []
      · subst hs
        simp [h16, cut2, FF]
      · rw [if_pos hs]
        split
        · rfl
        · split
          · rfl
          · rw [if_pos (by omega)]
    by_cases hs : s = []
    · subst hs
      simp [tailOf, cut2, FF, fin, h16]
      omega
    rw [if_pos ⟨by omega, hs⟩]
    obtain ⟨f, T, rfl, hN, hT⟩ := parts 58 s
    rcases colon_T hT with rfl | ⟨t, rfl⟩
    · rw [List.append_nil] at hs ⊢
      rw [rnd_last hN (by omega)]
      unfold tailOf
      rw [cut2_no hN, FF_one hs hN]
      cases hq : fieldB f true with
      | none => rfl
      | some q =>
        have := fieldB_len hq
        simp only [Option.bind_some, Option.isSome_none]
        by_cases h1 : 16 < (o ++ q).length
        · simp only [List.length_append] at h1
          rw [if_pos (by simpa using h1)]
          simp
          omega
        · rw [if_neg h1]
          simp only [List.length_append] at h1
          simp only [Option.bind_some, fin]
          by_cases h2 : o.length + q.length = 16
          · simp [h2]
          · simp [h2]
            omega
    · cases hq : fieldB f false with
      | none =>
        rw [rnd_bad hN hq]
        unfold tailOf
        rw [FF_none hN hq]
        simp
      | some q =>
        obtain ⟨-, v, -, hq2⟩ := fieldB_two hq
        have hq3 : q.length = 2 := by rw [hq2]; rfl
        rw [rnd_more hq]
        cases t with
        | nil =>
          unfold tailOf
          rw [cut2_end hN, FF_end hN]
          rfl
        | cons d t' =>
          by_cases hd : d.toNat = 58
          · simp only [hd, if_true, Option.isSome_some]
            unfold tailOf
            rw [colon_eq hd, cut2_cc hN]
            rfl
          · simp only [hd, if_false]
            rw [ih k (o ++ q) (d :: t') (by simp; omega) (by simp; omega) (by simp; omega) (by simp; omega)]
            unfold tailOf
            rw [cut2_c hN hd, FF_more hN (by simp), hq]
            cases hc : cut2 (d :: t') with
            | some p => rfl
            | none =>
              simp only [Option.map_none, Option.isSome_none, Option.bind_some]
              cases FF true (d :: t') with
              | none => rfl
              | some b =>
                simp only [Option.map_some, List.length_append, List.append_assoc, Nat.add_assoc]
                have e : 16 - (o.length + q.length) - b.length = 16 - o.length - (q.length + b.length) := by omega
                rw [e]

/-! ### the phase ahead of the gap -/
def headOf (o : List Nat) (s : List UInt8) : Option (List Nat) := match cut2 s with
  | none => match FF true s with
    | none => none
    | some b => if o.length + b.length = 16 then some (o ++ b) else none
  | some (l, r) => if (cut2 r).isSome then none else match FF false l with
    | none => none
    | some a => match FF true r with
      | none => none
      | some b => if 14 < o.length + a.length + b.length then none else some (o ++ a ++ List.replicate (16 - o.length - a.length - b.length) 0 ++ b)
theorem lp_head : ∀ (F : Nat) (o : List Nat) (s : List UInt8), o.length % 2 = 0 → o.length ≤ 16 → 18 ≤ o.length + 2 * F → (∀ l r, cut2 s = some (l, r) → l ≠ []) → (lp F none o s).bind fin = headOf o s := by
  intro F
  induction F with
  | zero => intro o s _ _ h; omega
  | succ F ih =>
    intro o s he hl hF hne
    rw [lp]
    by_cases h16 : o.length = 16
    · rw [if_neg (by omega)]
      simp only [Option.bind_some, fin]
      unfold headOf
      by_cases hs : s = []
      · subst hs
        simp [h16, cut2, FF]
      · rw [if_pos hs]
        split
        · split
          · rfl
          · rename_i b hb
            have := FF_pos s.length (Nat.le_refl _) hs hb
            rw [if_neg (by omega)]
        · split
          · rfl
          · split
            · rfl
            · split
              · rfl
              · rw [if_pos (by omega)]
    by_cases hs : s = []
    · subst hs
      simp [headOf, cut2, FF, fin, h16]
    rw [if_pos ⟨by omega, hs⟩]
    obtain ⟨f, T, rfl, hN, hT⟩ := parts 58 s
    rcases colon_T hT with rfl | ⟨t, rfl⟩
    · rw [List.append_nil] at hs ⊢
      rw [rnd_last hN (by omega)]
      unfold headOf
      rw [cut2_no hN, FF_one hs hN]
      cases hq : fieldB f true with
      | none => rfl
      | some q =>
        have := fieldB_len hq
        simp only [Option.bind_some]
        by_cases h1 : 16 < (o ++ q).length
        · simp only [List.length_append] at h1
          rw [if_pos (by simpa using h1)]
          simp
          omega
        · rw [if_neg h1]
          simp [fin]
    · cases hq : fieldB f false with
      | none =>
        rw [rnd_bad hN hq]
        unfold headOf
        cases t with
        | nil => rw [cut2_end hN, FF_end hN]; rfl
        | cons d t' =>
          by_cases hd : d.toNat = 58
          · have hfn : f ≠ [] := by
              rw [colon_eq hd] at hne
              exact hne f t' (cut2_cc hN)
            rw [colon_eq hd, cut2_cc hN]
            simp only [FF_one hfn hN, hq]
            simp
          · rw [cut2_c hN hd]
            cases hc : cut2 (d :: t') with
            | none => simp [FF_none hN hq]
            | some p => simp [FF_none hN hq]
      | some q =>
        obtain ⟨-, v, -, hq2⟩ := fieldB_two hq
        have hq3 : q.length = 2 := by rw [hq2]; rfl
        have hfn : f ≠ [] := fun e => by rw [e, fieldB_nil] at hq; cases hq
        rw [rnd_more hq]
        cases t with
        | nil =>
          unfold headOf
          rw [cut2_end hN, FF_end hN]
          rfl
        | cons d t' =>
          by_cases hd : d.toNat = 58
          · simp only [hd, if_true, Option.isSome_none]
            have := lp_tail F (o.length + 2) (o ++ q) t' (by simp; omega) (by simp; omega) (by simp; omega) (by simp; omega)
            simp only [Bool.false_eq_true, if_false]
            rw [this]
            unfold headOf tailOf
            rw [colon_eq hd, cut2_cc hN]
            simp only
            split
            · rfl
            · rw [FF_one hfn hN, hq]
              simp only
              cases FF true t' with
              | none => rfl
              | some b =>
                simp only
                have hl2 : (o ++ q).length = o.length + 2 := by simp [hq3]
                rw [List.take_left' hl2, List.drop_left' hl2]
                simp only [List.length_append, Nat.sub_sub]
          · simp only [hd, if_false]
            rw [ih (o ++ q) (d :: t') (by simp; omega) (by simp; omega) (by simp; omega) (fun l r h => cut2_ne hd h)]
            unfold headOf
            rw [cut2_c hN hd]
            cases hc : cut2 (d :: t') with
            | none =>
              simp only [Option.map_none]
              rw [FF_more hN (by simp), hq]
              cases FF true (d :: t') with
              | none => rfl
              | some b => simp only [Option.map_some, Option.bind_some, List.length_append, List.append_assoc, Nat.add_assoc]
            | some p =>
              obtain ⟨l, r⟩ := p
              have hln := cut2_ne hd hc
              simp only [Option.map_some]
              split
              · rfl
              · rw [FF_more hN hln, hq]
                cases FF false l with
                | none => rfl
                | some a =>
                  simp only [Option.map_some, Option.bind_some]
                  cases FF true r with
                  | none => rfl
                  | some b =>
                    simp only [List.length_append, List.append_assoc, Nat.add_assoc]
                    have e : 16 - (o.length + q.length) - a.length - b.length = 16 - o.length - (q.length + a.length) - b.length := by omega
                    rw [e]

/-! ### the law -/
theorem model_FF (s : List UInt8) : model s = match cut2 s with
    | none => match FF true s with
      | none => none
      | some b => if b.length = 16 then some b else none
    | some (l, r) => if (cut2 r).isSome then none else match FF false l with
      | none => none
      | some a => match FF true r with
        | none => none
        | some b => if 14 < a.length + b.length then none else some (a ++ List.replicate (16 - a.length - b.length) 0 ++ b) := by
  unfold model
  cases cut2 s with
  | none =>
    simp only [side_FF]
    cases FF true s with
    | none => rfl
    | some b =>
      simp only [Option.bind_some]
      by_cases h : 16 < b.length
      · rw [if_pos h]; simp; omega
      · rw [if_neg h]
  | some p =>
    obtain ⟨l, r⟩ := p
    simp only [side_FF]
    split
    · rfl
    · cases FF false l with
      | none => rfl
      | some a =>
        simp only [Option.bind_some]
        by_cases h : 16 < a.length
        · rw [if_pos h]
          cases FF true r with
          | none => rfl
          | some b => simp; omega
        · rw [if_neg h]
          simp only
          cases FF true r with
          | none => rfl
          | some b =>
            simp only [Option.bind_some]
            by_cases h2 : 16 < b.length
            · rw [if_pos h2]; simp; omega
            · rw [if_neg h2]

theorem p6_model (s : List UInt8) : p6 s = model s := by
  rw [model_FF]
  unfold p6
  match s with
  | c :: d :: l =>
    rw [start]
    by_cases h : c.toNat = 58 ∧ d.toNat = 58
    · rw [if_pos h, cut2, if_pos h]
      simp only
      rw [lp_tail 9 0 [] l rfl (by simp) (by simp) (by simp)]
      simp [tailOf, FF]
    · rw [if_neg h]
      simp only
      rw [lp_head 9 [] (c :: d :: l) rfl (by simp) (by simp) ?_]
      · simp [headOf]
      · intro a b hab
        rw [cut2, if_neg h] at hab
        cases hc : cut2 (d :: l) with
        | none => rw [hc] at hab; cases hab
        | some p => rw [hc] at hab; simp at hab; rw [← hab.1]; simp
  | [] => rfl
  | [c] =>
    show (lp 9 none [] [c]).bind fin = _
    rw [lp_head 9 [] [c] rfl (by simp) (by simp) (fun a b h => by simp [cut2] at h)]
    simp [headOf]
end Go.Proofs.Qxb6600526a.P6
