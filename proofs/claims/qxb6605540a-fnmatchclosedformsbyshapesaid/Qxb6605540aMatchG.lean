/-
  What the law's calls of 'match' come to, said of bytes.
-/
import Derived.Test.Qxb6605540aMatchD
namespace Go.Proofs.Qxb6605540a.Mt
open Go.RowKit
open PMatch (M)

theorem nth_cons_zero (x : Nat) (L : List Nat) : nth (x :: L) 0 = x := rfl
theorem nth_cons_succ (x : Nat) (L : List Nat) (i : Nat) : nth (x :: L) (i + 1) = nth L i := by simp [nth]
theorem nth_zeros (n i : Nat) : nth (List.replicate n 0) i = 0 := by
  unfold nth
  rw [List.getD_eq_getElem?_getD, List.getElem?_replicate]
  split <;> rfl
def Z0 : Nat → Nat → Int := fun _ _ => 0

theorem toks_lits (L : List Nat) : toks L.length (List.replicate L.length 0) L Z0 = L.map fun b => ⟨0, b, hasS (fun _ => 0)⟩ := by
  apply List.ext_getElem
  · simp [toks]
  · intro i h1 h2
    simp only [toks, List.getElem_map, List.getElem_range]
    rw [nth_zeros]
    have hi : i < L.length := by simpa using h2
    show (⟨0, nth L i, hasS (Z0 i)⟩ : PMatch.Tok) = _
    have : nth L i = L[i] := by simp [nth, List.getD, List.getElem?_eq_getElem hi]
    rw [this]; rfl
theorem toks_cons (x y m : Nat) (K L : List Nat) : toks (m + 1) (x :: K) (y :: L) Z0 = ⟨x, y, hasS (fun _ => 0)⟩ :: toks m K L Z0 := by
  unfold toks
  rw [List.range_succ_eq_map, List.map_cons, List.map_map]
  congr 1
theorem toks_one (k : Nat) : toks 1 [k] [0] Z0 = [⟨k, 0, hasS (fun _ => 0)⟩] := by
  rw [toks_cons]; rfl

theorem m_lits (L l : List Nat) : M (toks L.length (List.replicate L.length 0) L Z0) l = decide (l = L) := by
  rw [toks_lits]; exact PMatch.M_lits _ L l
theorem m_path (l : List Nat) : M (toks 1 [4] [0] Z0) l = true := by rw [toks_one]; exact PMatch.M_anyPath _ _ l
theorem m_star (l : List Nat) : M (toks 1 [3] [0] Z0) l = noSl l := by rw [toks_one]; exact PMatch.M_star _ _ l

theorem last_nth (l : List Nat) (h : l.length ≠ 0) : l.getLast? = some (nth l (l.length - 1)) := by
  rw [List.getLast?_eq_getElem?]
  have : l.length - 1 < l.length := by omega
  simp [nth, List.getD, List.getElem?_eq_getElem this]
theorem m_dirs_empty (s : ByteArray) (h : s.size = 0) : M (toks 1 [5] [0] Z0) (bts s) = true := by
  rw [toks_one, PMatch.M_anyDirs]
  have : bts s = [] := List.length_eq_zero_iff.1 (by rw [len_bts]; exact h)
  simp [this]
theorem m_dirs (s : ByteArray) (h : s.size - 1 < s.size) : M (toks 1 [5] [0] Z0) (bts s) = ((s[s.size - 1].toNat : Int) == 47) := by
  rw [toks_one, PMatch.M_anyDirs, last_nth _ (by rw [len_bts]; omega), len_bts, nth_bts s _ h]
  have : (bts s).isEmpty = false := by
    rw [List.isEmpty_eq_false_iff]; intro e; have := congrArg List.length e; rw [len_bts, List.length_nil] at this; omega
  rw [this, Bool.false_or, Bool.eq_iff_iff, decide_eq_true_iff, beq_iff_eq]
  simp only [Option.some.injEq]
  omega
theorem m_byte (s : ByteArray) (h : s.size = 1) : M (toks 1 [1] [0] Z0) (bts s) = ((s[0].toNat : Int) != 47) := by
  rw [toks_one, PMatch.M_anyByte]
  have hl := len_bts s
  have h0 := nth_bts s 0 (by omega)
  match hb : bts s, hl with
  | [c], _ =>
    rw [hb] at h0
    simp only [nth_cons_zero] at h0
    rw [← h0, Bool.eq_iff_iff, bne_iff_ne]
    simp
    omega
  | [], hl => simp at hl; omega
  | _ :: _ :: _, hl => simp at hl; omega
theorem m_byte_not (s : ByteArray) (h : s.size ≠ 1) : M (toks 1 [1] [0] Z0) (bts s) = false := by
  rw [toks_one, PMatch.M_anyByte, len_bts]
  simp [h]

theorem m_starLits (L l : List Nat) : M (toks (L.length + 1) (3 :: List.replicate L.length 0) (0 :: L) Z0) l = (decide (L.length ≤ l.length) && decide (l.drop (l.length - L.length) = L) && noSl (l.take (l.length - L.length))) := by
  rw [toks_cons, toks_lits]; exact PMatch.M_starLits _ _ _ L l

theorem bts_extract (s : ByteArray) (a b : Nat) : bts (s.extract a b) = ((bts s).drop a).take (b - a) := by
  unfold bts
  rw [ByteArray.data_extract]
  simp [List.map_take, List.map_drop]
theorem bts_tail (s : ByteArray) (a : Nat) : bts (s.extract a s.size) = (bts s).drop a := by
  rw [bts_extract, List.take_of_length_le]
  rw [List.length_drop, len_bts]; omega
theorem bts_head (s : ByteArray) (b : Nat) : bts (s.extract 0 b) = (bts s).take b := by
  rw [bts_extract]; simp

theorem m_sl_short (L : List Nat) (s : ByteArray) (h : s.size < L.length) : M (toks (L.length + 1) (3 :: List.replicate L.length 0) (0 :: L) Z0) (bts s) = false := by
  rw [m_starLits, len_bts]; simp; omega
theorem m_sl_no (L : List Nat) (s : ByteArray) (h : bts (s.extract (s.size - L.length) s.size) ≠ L) : M (toks (L.length + 1) (3 :: List.replicate L.length 0) (0 :: L) Z0) (bts s) = false := by
  rw [m_starLits, len_bts, ← bts_tail, decide_eq_false h]; simp
theorem m_sl_yes (L : List Nat) (s : ByteArray) (hl : L.length ≤ s.size) (h : bts (s.extract (s.size - L.length) s.size) = L) : M (toks (L.length + 1) (3 :: List.replicate L.length 0) (0 :: L) Z0) (bts s) = noSl (bts (s.extract 0 (s.size - L.length))) := by
  rw [m_starLits, len_bts, ← bts_tail, decide_eq_true h, decide_eq_true hl, bts_head]; simp
end Go.Proofs.Qxb6605540a.Mt
