/-
  Fields: what the parser's round does at one field.
-/
import Derived.Test.Qxb6600526aP6
namespace Go.Proofs.Qxb6600526a.P6

theorem u8_eq {c : UInt8} {n : Nat} (hn : n < 256) (h : c.toNat = n) : c = UInt8.ofNat n := by
  apply UInt8.toNat_inj.1
  rw [h, UInt8.toNat_ofNat_of_lt' (by simpa using hn)]
theorem colon_eq {c : UInt8} (h : c.toNat = 58) : c = 58 := UInt8.toNat_inj.1 (by rw [h]; rfl)

/-- No byte x in f. -/
def No (x : Nat) (f : List UInt8) : Prop := ∀ c ∈ f, c.toNat ≠ x
theorem no_has {x : Nat} {f : List UInt8} : No x f ↔ hasX x f = false := by
  unfold No hasX
  rw [List.any_eq_false]
  constructor
  · intro h c hc; simpa using h c hc
  · intro h c hc; simpa using h c hc
theorem No.tail {x : Nat} {c : UInt8} {f : List UInt8} (h : No x (c :: f)) : No x f := fun d hd => h d (by simp [hd])
theorem No.head {x : Nat} {c : UInt8} {f : List UInt8} (h : No x (c :: f)) : c.toNat ≠ x := h c (by simp)

/-- What stands behind a field: nothing, or a colon. -/
def Sep (T : List UInt8) : Prop := T = [] ∨ ∃ t, T = (58 : UInt8) :: t

/-! ### hex digits -/
theorem hexRun_app {T : List UInt8} (hT : Sep T) : ∀ (f : List UInt8) (k g : Nat), hexRun k g (f ++ T) = hexRun k g f
  | [], 0, g => by simp [hexRun]
  | [], k + 1, g => by
    rcases hT with rfl | ⟨t, rfl⟩
    · simp
    · rw [List.nil_append, hexRun, hexRun, hexV_colon (by decide)]
  | c :: f, 0, g => by simp [hexRun]
  | c :: f, k + 1, g => by
    rw [List.cons_append, hexRun, hexRun]
    cases hexV c with
    | none => rfl
    | some d => simp only; rw [hexRun_app hT f k]
theorem hexRun_le : ∀ (f : List UInt8) (k g : Nat), (hexRun k g f).2 ≤ f.length ∧ (hexRun k g f).2 ≤ k
  | f, 0, g => by simp [hexRun]
  | [], k + 1, g => by simp [hexRun]
  | c :: f, k + 1, g => by
    rw [hexRun]
    have := hexRun_le f k
    cases hexV c with
    | none => simp
    | some d =>
      have h := this (g * 16 + d)
      simp; omega
/-- A whole field of hex digits. -/
theorem hexRun_all : ∀ (f : List UInt8) (k g v : Nat), f.length ≤ k → hexAll g f = some v → hexRun k g f = (v, f.length)
  | [], 0, g, v, _, h => by simp [hexAll] at h; simp [hexRun, h]
  | [], k + 1, g, v, _, h => by simp [hexAll] at h; simp [hexRun, h]
  | c :: f, 0, g, v, hl, _ => by simp at hl
  | c :: f, k + 1, g, v, hl, h => by
    rw [hexAll] at h
    rw [hexRun]
    cases hc : hexV c with
    | none => rw [hc] at h; cases h
    | some d =>
      rw [hc] at h
      simp only at h ⊢
      rw [hexRun_all f k _ v (by simp at hl; omega) h]
      simp
/-- A field that is no hex group: the digits stop at its head, run over, or stop at another byte of it. -/
theorem hexRun_stop : ∀ (f : List UInt8) (k g : Nat), hexAll g f = none → (hexRun k g f).2 = k ∨ ∃ c t, f.drop (hexRun k g f).2 = c :: t ∧ hexV c = none
  | [], k, g, h => by simp [hexAll] at h
  | c :: f, 0, g, h => by left; simp [hexRun]
  | c :: f, k + 1, g, h => by
    rw [hexAll] at h
    rw [hexRun]
    cases hc : hexV c with
    | none => right; exact ⟨c, f, by simp, hc⟩
    | some d =>
      rw [hc] at h
      simp only at h ⊢
      rcases hexRun_stop f k _ h with h1 | ⟨c', t, h1, h2⟩
      · left; omega
      · right; exact ⟨c', t, by simpa using h1, h2⟩
theorem hexRun_long : ∀ (f : List UInt8) (k g v : Nat), k ≤ f.length → hexAll g f = some v → (hexRun k g f).2 = k
  | f, 0, g, v, _, _ => by simp [hexRun]
  | [], k + 1, g, v, hl, _ => by simp at hl
  | c :: f, k + 1, g, v, hl, h => by
    rw [hexAll] at h
    rw [hexRun]
    cases hc : hexV c with
    | none => rw [hc] at h; cases h
    | some d =>
      rw [hc] at h
      simp only at h ⊢
      rw [hexRun_long f k _ v (by simp at hl; omega) h]
theorem hexF_some {f : List UInt8} {v : Nat} (h : hexF f = some v) : f ≠ [] ∧ f.length ≤ 4 ∧ hexRun 5 0 f = (v, f.length) := by
  unfold hexF at h
  split at h
  · cases h
  · rename_i hl
    refine ⟨by intro e; subst e; simp at hl, by omega, hexRun_all f 5 0 v (by omega) h⟩
theorem hexF_none {f : List UInt8} (h : hexF f = none) : (hexRun 5 0 f).2 = 0 ∨ 4 < (hexRun 5 0 f).2 ∨ ∃ c t, f.drop (hexRun 5 0 f).2 = c :: t ∧ hexV c = none := by
  unfold hexF at h
  split at h
  · rename_i hl
    rcases hl with hl | hl
    · left
      have := (hexRun_le f 5 0).1
      omega
    · cases ha : hexAll 0 f with
      | none =>
        rcases hexRun_stop f 5 0 ha with h1 | h1
        · right; left; omega
        · right; right; exact h1
      | some v =>
        right; left
        rw [hexRun_long f 5 0 v (by omega) ha]
        omega
  · rcases hexRun_stop f 5 0 h with h1 | h1
    · right; left; omega
    · right; right; exact h1
theorem hexF_dot {f : List UInt8} (h : hasX 46 f = true) : hexF f = none := by
  cases hf : hexF f with
  | none => rfl
  | some v =>
    exfalso
    have all : ∀ (f : List UInt8) (g v : Nat), hexAll g f = some v → hasX 46 f = false := by
      intro f
      induction f with
      | nil => intro g v _; rfl
      | cons c f ih =>
        intro g v h
        rw [hexAll] at h
        cases hc : hexV c with
        | none => rw [hc] at h; cases h
        | some d =>
          rw [hc] at h
          have hne : c.toNat ≠ 46 := fun e => by rw [hexV_dot e] at hc; cases hc
          have := ih _ _ h
          unfold hasX at this ⊢
          rw [List.any_cons, this, decide_eq_false hne]; rfl
    unfold hexF at hf
    split at hf
    · cases hf
    · rw [all f 0 v hf] at h; cases h

/-! ### decimal numbers and the quad -/
theorem rd_pos : ∀ (l : List UInt8) (v n v' n' : Nat), rd v n l = some (v', n') → 0 < n'
  | [], v, n, v', n', h => by unfold rd at h; split at h <;> simp at h; omega
  | c :: l, v, n, v', n', h => by
    unfold rd at h
    split at h
    · split at h
      · cases h
      · split at h
        · cases h
        · exact rd_pos l _ _ _ _ h
    · split at h <;> simp at h; omega
/-- The digits that rd has read. -/
theorem rd_digits : ∀ (l : List UInt8) (v n v' n' : Nat), rd v n l = some (v', n') → n ≤ n' ∧ n' - n ≤ l.length ∧ (∀ c ∈ l.take (n' - n), isD c = true) ∧ (∀ c, (l.drop (n' - n)).head? = some c → isD c = false)
  | [], v, n, v', n', h => by
    unfold rd at h
    split at h <;> simp at h
    obtain ⟨rfl, rfl⟩ := h
    simp
  | c :: l, v, n, v', n', h => by
    unfold rd at h
    split at h
    · rename_i hd
      split at h
      · cases h
      · split at h
        · cases h
        · obtain ⟨h1, h2, h3, h4⟩ := rd_digits l _ _ _ _ h
          have e : n' - n = (n' - (n + 1)) + 1 := by omega
          rw [e]
          refine ⟨by omega, by simp; omega, ?_, by simpa using h4⟩
          intro c' hc'
          simp at hc'
          rcases hc' with rfl | hc'
          · exact hd
          · exact h3 c' hc'
    · rename_i hd
      split at h <;> simp at h
      obtain ⟨rfl, rfl⟩ := h
      simp
      simpa using hd
/-- At most three digits. -/
theorem rd_three (l : List UInt8) (v n : Nat) (h : rd 0 0 l = some (v, n)) : n ≤ 3 := by
  have key : ∀ (l : List UInt8) (v n v' n' : Nat), rd v n l = some (v', n') → 100 ≤ v → 1 < n → n' = n := by
    intro l v n v' n' h hv hn
    cases l with
    | nil => unfold rd at h; split at h <;> simp at h; omega
    | cons c l =>
      unfold rd at h
      split at h
      · split at h
        · cases h
        · split at h
          · cases h
          · omega
      · split at h <;> simp at h; omega
  match l, h with
  | [], h => simp [rd] at h
  | a :: l, h =>
    unfold rd at h
    split at h
    · split at h
      · cases h
      · split at h
        · cases h
        · match l, h with
          | [], h => simp [rd] at h; omega
          | b :: l, h =>
            unfold rd at h
            split at h
            · split at h
              · cases h
              · rename_i h0
                split at h
                · cases h
                · match l, h with
                  | [], h => simp [rd] at h; omega
                  | c :: l, h =>
                    unfold rd at h
                    split at h
                    · split at h
                      · cases h
                      · split at h
                        · cases h
                        · have := key l _ _ _ _ h (by omega) (by omega)
                          omega
                    · split at h <;> simp at h; omega
            · split at h <;> simp at h; omega
    · simp at h
end Go.Proofs.Qxb6600526a.P6
