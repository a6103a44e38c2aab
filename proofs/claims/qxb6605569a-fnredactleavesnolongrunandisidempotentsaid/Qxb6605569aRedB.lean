/-
  What Redact's loop holds at place i, in plain words.
-/
import Derived.Test.Qxb6605569aPRed
namespace Go.Proofs.Qxb6605569a
open PRed (isN isB R red flush mark)

/-- The piece from a to b. -/
def seg (S : List UInt8) (a b : Nat) : List UInt8 := (S.take b).drop a
theorem seg_self (S : List UInt8) (a : Nat) : seg S a a = [] := by
  unfold seg; rw [List.drop_eq_nil_iff]; simp; omega
theorem seg_len (S : List UInt8) (a b : Nat) (hb : b ≤ S.length) : (seg S a b).length = b - a := by unfold seg; simp; omega
theorem seg_join (S : List UInt8) (a b c : Nat) (h1 : a ≤ b) (h2 : b ≤ c) : seg S a b ++ seg S b c = seg S a c := by
  unfold seg
  have e : S.take b = (S.take c).take b := by rw [List.take_take, Nat.min_eq_left h2]
  rw [e]
  generalize S.take c = T
  rw [List.drop_take, show T.drop b = (T.drop a).drop (b - a) by rw [List.drop_drop, show a + (b - a) = b by omega], List.take_append_drop]
theorem seg_end (S : List UInt8) (a : Nat) : seg S a S.length = S.drop a := by unfold seg; rw [List.take_length]
theorem seg_one (S : List UInt8) (i : Nat) (h : i < S.length) : seg S i (i + 1) = [S[i]] := by
  unfold seg
  rw [List.take_succ_eq_append_getElem h, List.drop_append, List.drop_eq_nil_of_le (by simp; omega)]
  simp [Nat.min_eq_left (Nat.le_of_lt h)]
theorem drop_one (S : List UInt8) (i : Nat) (h : i < S.length) : S.drop i = S[i] :: S.drop (i + 1) := List.drop_eq_getElem_cons h

/-- The loop's variables at the head of a round: written, start, i; bs: what the builder holds. -/
structure Inv (S : List UInt8) (wn st i : Nat) (bs : List UInt8) : Prop where
  h1 : wn ≤ st
  h2 : st ≤ i
  h3 : i ≤ S.length + 1
  h4 : wn ≤ S.length
  hz : wn = 0 → bs = []
  hm : i ≤ S.length → R S = bs ++ seg S wn st ++ red (seg S st i) (S.drop i)
  hl : i = S.length + 1 → R S = bs ++ S.drop wn

theorem inv_start (S : List UInt8) : Inv S 0 0 0 [] :=
  ⟨Nat.le_refl _, Nat.le_refl _, by omega, by omega, fun _ => rfl, fun _ => by simp [seg_self, R], by omega⟩
theorem inv_in {S : List UInt8} {wn st i : Nat} {bs : List UInt8} (h : Inv S wn st i bs) (hi : i < S.length) (hb : isB S[i] = true) : Inv S wn st (i + 1) bs := by
  refine ⟨h.h1, by have := h.h2; omega, by omega, h.h4, h.hz, fun _ => ?_, by omega⟩
  rw [h.hm (by omega), drop_one S i hi, PRed.red_yes _ _ _ hb, ← seg_join S st i (i + 1) h.h2 (by omega), seg_one S i hi]
theorem inv_short {S : List UInt8} {wn st i : Nat} {bs : List UInt8} (h : Inv S wn st i bs) (hi : i ≤ S.length) (hb : ∀ (hi : i < S.length), isB S[i] = false) (hs : i - st < 43) : Inv S wn (i + 1) (i + 1) bs := by
  have hf : flush (seg S st i) = seg S st i := by unfold flush; rw [if_neg (by rw [seg_len S st i hi]; omega)]
  refine ⟨by have := h.h1; have := h.h2; omega, Nat.le_refl _, by omega, h.h4, h.hz, fun hi' => ?_, fun hi' => ?_⟩
  · have hlt : i < S.length := by omega
    rw [h.hm hi, drop_one S i hlt, PRed.red_no _ _ _ (hb hlt), hf, seg_self, List.append_assoc, List.append_assoc]
    rw [show seg S wn (i + 1) = seg S wn st ++ (seg S st i ++ [S[i]]) by rw [← seg_one S i hlt, seg_join S st i (i + 1) h.h2 (by omega), seg_join S wn st (i + 1) h.h1 (by have := h.h2; omega)]]
    simp
  · have hn : i = S.length := by omega
    subst hn
    rw [h.hm hi, List.drop_length, show red (seg S st S.length) [] = flush (seg S st S.length) from rfl, hf, List.append_assoc, seg_join S wn st S.length h.h1 h.h2, seg_end]
theorem inv_long {S : List UInt8} {wn st i : Nat} {bs : List UInt8} (h : Inv S wn st i bs) (hi : i ≤ S.length) (hb : ∀ (hi : i < S.length), isB S[i] = false) (hs : 43 ≤ i - st) : Inv S i (i + 1) (i + 1) (bs ++ seg S wn st ++ mark) := by
  have hf : flush (seg S st i) = mark := by unfold flush; rw [if_pos (by rw [seg_len S st i hi]; omega)]
  refine ⟨by omega, Nat.le_refl _, by omega, hi, by omega, fun hi' => ?_, fun hi' => ?_⟩
  · have hlt : i < S.length := by omega
    rw [h.hm hi, drop_one S i hlt, PRed.red_no _ _ _ (hb hlt), hf, seg_self, seg_one S i hlt]
    simp
  · have hn : i = S.length := by omega
    subst hn
    rw [h.hm hi, List.drop_length, show red (seg S st S.length) [] = flush (seg S st S.length) from rfl, hf]
    simp
theorem inv_len {S : List UInt8} {wn st i : Nat} {bs : List UInt8} (h : Inv S wn st i bs) : bs.length ≤ S.length := by
  have hR := PRed.R_le S
  by_cases hi : i ≤ S.length
  · have := h.hm hi
    rw [this] at hR
    simp at hR; omega
  · have := h.hl (by have := h.h3; omega)
    rw [this] at hR
    simp at hR; omega
theorem inv_end {S : List UInt8} {wn st i : Nat} {bs : List UInt8} (h : Inv S wn st i bs) (hi : S.length < i) : R S = bs ++ S.drop wn := h.hl (by have := h.h3; omega)
theorem inv_zero {S : List UInt8} {st i : Nat} {bs : List UInt8} (h : Inv S 0 st i bs) (hi : S.length < i) : R S = S := by
  rw [inv_end h hi, h.hz rfl]; simp
end Go.Proofs.Qxb6605569a
