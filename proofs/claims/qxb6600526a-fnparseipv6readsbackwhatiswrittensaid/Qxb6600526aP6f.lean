/-
  What is written, and that it reads back: plain lists.
-/
import Derived.Test.Qxb6600526aP6e
namespace Go.Proofs.Qxb6600526a.P6

/-- A colon more, where the text is not empty and does not end in one. -/
def sepOf (T : List UInt8) : List UInt8 := match T.getLast? with
  | none => T
  | some c => if c.toNat = 58 then T else T ++ [58]
theorem sep_nil : sepOf [] = [] := rfl
theorem sep_colon {T : List UInt8} {c : UInt8} (h : c.toNat = 58) : sepOf (T ++ [c]) = T ++ [c] := by
  unfold sepOf; simp [h]
theorem sep_more {T : List UInt8} {c : UInt8} (h : c.toNat ≠ 58) : sepOf (T ++ [c]) = T ++ [c] ++ [58] := by
  unfold sepOf; simp [h]
theorem field_last {f : List UInt8} (h : Good f) : ∃ T c, f = T ++ [c] ∧ c.toNat ≠ 58 := by
  obtain ⟨h1, h2⟩ := h
  refine ⟨f.dropLast, f.getLast h1, (List.dropLast_concat_getLast h1).symm, h2 _ (List.getLast_mem h1)⟩
theorem jn_last : ∀ {fs : List (List UInt8)}, (∀ f ∈ fs, Good f) → fs ≠ [] → ∃ T c, jn fs = T ++ [c] ∧ c.toNat ≠ 58
  | [], _, h => absurd rfl h
  | [f], h, _ => field_last (h f (by simp))
  | f :: g :: fs, h, _ => by
    obtain ⟨T, c, h1, h2⟩ := jn_last (fs := g :: fs) (fun e he => h e (by simp at he ⊢; right; exact he)) (by simp)
    exact ⟨f ++ 58 :: T, c, by rw [jn_cons (by simp), h1]; simp, h2⟩
theorem sep_jn {fs : List (List UInt8)} {f : List UInt8} (h : ∀ f ∈ fs, Good f) : sepOf (jn fs) ++ f = jn (fs ++ [f]) := by
  by_cases hf : fs = []
  · subst hf; rfl
  · obtain ⟨T, c, h1, h2⟩ := jn_last h hf
    rw [jn_snoc f fs hf, h1, sep_more h2]; simp
theorem sep_gap {P : List UInt8} {fs : List (List UInt8)} {f : List UInt8} (h : ∀ f ∈ fs, Good f) : sepOf (P ++ 58 :: 58 :: jn fs) ++ f = P ++ 58 :: 58 :: jn (fs ++ [f]) := by
  by_cases hf : fs = []
  · subst hf
    have e : P ++ 58 :: 58 :: jn [] = (P ++ [58]) ++ [58] := by simp [jn]
    rw [e, sep_colon (by decide)]
    simp [jn]
  · obtain ⟨T, c, h1, h2⟩ := jn_last h hf
    rw [jn_snoc f fs hf, h1]
    have e : P ++ 58 :: 58 :: (T ++ [c]) = (P ++ 58 :: 58 :: T) ++ [c] := by simp
    rw [e, sep_more h2]; simp

/-- The text with g groups written. -/
def tx (up : Bool) (G : Nat → Nat) (fr ct g : Nat) : List UInt8 :=
  if ct = 0 ∨ g ≤ fr then jn (gfs up G 0 g) else jn (gfs up G 0 fr) ++ 58 :: 58 :: jn (gfs up G (fr + ct) (g - (fr + ct)))
theorem tx_zero {up : Bool} {G : Nat → Nat} {fr ct : Nat} : tx up G fr ct 0 = [] := by
  unfold tx; rw [if_pos (by omega)]; rfl
theorem tx_gap {up : Bool} {G : Nat → Nat} {fr ct : Nat} (h : 0 < ct) : tx up G fr ct fr ++ [58, 58] = tx up G fr ct (fr + ct) := by
  unfold tx
  rw [if_pos (by omega), if_neg (by omega), Nat.sub_self]; rfl
theorem tx_step {up : Bool} {G : Nat → Nat} {fr ct g : Nat} (h : ct = 0 ∨ g < fr ∨ fr + ct ≤ g) : sepOf (tx up G fr ct g) ++ gf up G g = tx up G fr ct (g + 1) := by
  unfold tx
  by_cases h1 : ct = 0 ∨ g < fr
  · rw [if_pos (by omega), if_pos (by omega), sep_jn gfs_good, gfs_snoc, Nat.zero_add]
  · rw [if_neg (by omega), if_neg (by omega), sep_gap gfs_good, show g + 1 - (fr + ct) = (g - (fr + ct)) + 1 by omega, gfs_snoc, show fr + ct + (g - (fr + ct)) = g by omega]
theorem hx_len (up : Bool) (v : Nat) : (hx up v).length ≤ 4 := (hxl_false up v 3).2.2
theorem sep_len (T : List UInt8) : (sepOf T).length ≤ T.length + 1 := by
  unfold sepOf
  split
  · omega
  · split
    · omega
    · simp

def wtext (up : Bool) (G : Nat → Nat) (fr ct : Nat) (tail : Bool) : List UInt8 :=
  if tail then sepOf (tx up G fr ct 6) ++ qd (G 12) (G 13) (G 14) (G 15) else tx up G fr ct 8

theorem bs_app (G : Nat → Nat) (a n m : Nat) : bs G a n ++ bs G (a + n) m = bs G a (n + m) := by
  unfold bs
  have h := List.range'_append (s := a) (m := n) (n := m) (step := 1)
  rw [Nat.one_mul] at h
  rw [← List.map_append, h]
theorem bs_len (G : Nat → Nat) (a n : Nat) : (bs G a n).length = n := by simp [bs]
theorem bs_zero {G : Nat → Nat} {a n : Nat} (h : ∀ i, a ≤ i → i < a + n → G i = 0) : bs G a n = List.replicate n 0 := by
  unfold bs
  apply List.ext_getElem
  · simp
  · intro i h1 h2
    simp at h1 ⊢
    exact h _ (by omega) (by omega)
theorem bs_get (G : Nat → Nat) (n i : Nat) (h : i < n) : (bs G 0 n).getD i 0 = G i := by
  unfold bs
  simp [List.getD_eq_getElem?_getD, h]
/-- The groups' fields, the quad behind them where it is asked for. -/
theorem flds_tail {up : Bool} {G : Nat → Nat} (hG : ∀ i, G i < 256) (tail : Bool) (lo n : Nat) : flds true (gfs up G lo n ++ if tail then [qd (G 12) (G 13) (G 14) (G 15)] else []) = some (bs G (2 * lo) (2 * n) ++ if tail then bs G 12 4 else []) := by
  apply flds_gfs hG
  cases tail with
  | false => rfl
  | true =>
    simp only [if_true]
    rw [flds, show (true && ([] : List (List UInt8)).isEmpty) = true from rfl, qd_field (hG _) (hG _) (hG _) (hG _)]
    rfl
theorem good_tail {up : Bool} {G : Nat → Nat} (hG : ∀ i, G i < 256) (tail : Bool) (lo n : Nat) : ∀ f ∈ (gfs up G lo n ++ if tail then [qd (G 12) (G 13) (G 14) (G 15)] else []), Good f := by
  intro f hf
  simp only [List.mem_append] at hf
  rcases hf with hf | hf
  · exact gfs_good f hf
  · cases tail with
    | false => simp at hf
    | true =>
      simp at hf
      subst hf
      exact qd_good (hG _) (hG _) (hG _) (hG _)
theorem p6_wtext {up tail : Bool} {G : Nat → Nat} {fr ct : Nat} (hG : ∀ i, G i < 256) (h8 : fr + ct ≤ 8) (ht : tail = true → ct = 0 ∨ fr + ct ≤ 6) (hz : ∀ i, 2 * fr ≤ i → i < 2 * (fr + ct) → G i = 0) :
    p6 (wtext up G fr ct tail) = some (bs G 0 16) := by
  obtain ⟨e, he⟩ : ∃ e, e = if tail then 6 else 8 := ⟨_, rfl⟩
  have he8 : e ≤ 8 := by rw [he]; split <;> omega
  have htail : bs G (2 * e) (16 - 2 * e) = if tail then bs G 12 4 else [] := by
    rw [he]; cases tail <;> rfl
  by_cases h0 : ct = 0
  · have e1 : wtext up G fr ct tail = jn (gfs up G 0 e ++ if tail then [qd (G 12) (G 13) (G 14) (G 15)] else []) := by
      unfold wtext tx
      rw [he]
      cases tail with
      | false => simp [h0]
      | true =>
        simp only [if_true]
        rw [if_pos (Or.inl h0), sep_jn gfs_good]
    have h1 := flds_tail (up := up) hG tail 0 e
    rw [← htail, Nat.mul_zero, show bs G (2 * e) (16 - 2 * e) = bs G (0 + 2 * e) (16 - 2 * e) by rw [Nat.zero_add], bs_app, show 2 * e + (16 - 2 * e) = 16 by omega] at h1
    rw [e1]
    exact p6_plain (good_tail hG tail 0 e) h1 (bs_len _ _ _)
  · have hle : fr + ct ≤ e := by
      rw [he]
      cases tail with
      | false => simpa using h8
      | true => have := ht rfl; simp only [if_true]; omega
    have e1 : wtext up G fr ct tail = jn (gfs up G 0 fr) ++ 58 :: 58 :: jn (gfs up G (fr + ct) (e - (fr + ct)) ++ if tail then [qd (G 12) (G 13) (G 14) (G 15)] else []) := by
      unfold wtext tx
      cases tail with
      | false =>
        simp only [Bool.false_eq_true, if_false] at he ⊢
        rw [if_neg (by omega), he]; simp
      | true =>
        simp only [if_true] at he ⊢
        rw [if_neg (by omega), sep_gap gfs_good, he]
    have h1 := flds_tail (up := up) hG tail (fr + ct) (e - (fr + ct))
    rw [← htail, show 2 * e = 2 * (fr + ct) + 2 * (e - (fr + ct)) by omega, bs_app] at h1
    have h2 := flds_gfs (up := up) (last := false) hG (r := []) (b := []) rfl fr 0
    rw [List.append_nil, List.append_nil, Nat.mul_zero] at h2
    rw [e1, p6_gap gfs_good (good_tail hG tail _ _) h2 h1 (by rw [bs_len, bs_len]; omega), bs_len, bs_len]
    congr 1
    have h3 : List.replicate (16 - 2 * fr - (2 * (e - (fr + ct)) + (16 - (2 * (fr + ct) + 2 * (e - (fr + ct)))))) 0 = bs G (0 + 2 * fr) (2 * ct) := by
      rw [bs_zero (fun i h1 h2 => hz i (by omega) (by omega))]
      congr 1
      omega
    rw [h3, bs_app]
    rw [show 2 * (fr + ct) = 0 + (2 * fr + 2 * ct) by omega, bs_app]
    congr 1
    omega
end Go.Proofs.Qxb6600526a.P6
