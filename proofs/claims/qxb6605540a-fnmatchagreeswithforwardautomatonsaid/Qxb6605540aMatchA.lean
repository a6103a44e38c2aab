/-
  The contracts of the small functions on the road of the two laws over 'match'.
-/
import Derived.Test.Qxb6605540aProg
import Derived.Test.Qxb6605540aPMatch
import Derived.WalkKit
import Derived.WalkSpells
import Derived.WalkLawsBesides
import Derived.Deep.OwnRows
import Derived.Deep.QuietTactic
import Derived.BigQuiet
import Derived.Deep.RegionWith
namespace Go.Proofs.Qxb6605540a.Mt
open Go.RowKit

theorem hide {p : Prop} (h : p) : Hid p := h
theorem unhide {p : Prop} (h : Hid p) : p := h
theorem ret_bool {a b : Bool} (h : a = b) : Ending.returned (.bool a) = .returned (.bool b) := by rw [h]

/-- The bytes of a text. -/
def bts (s : ByteArray) : List Nat := s.data.toList.map (·.toNat)
/-- Place i of a list of bytes (a name that the walk does not open). -/
def nth (L : List Nat) (i : Nat) : Nat := L.getD i 0
theorem len_bts (s : ByteArray) : (bts s).length = s.size := by simp [bts]
theorem nth_bts (s : ByteArray) (k : Nat) (h : k < s.size) : nth (bts s) k = s[k].toNat := by
  have h' : k < s.data.toList.length := by simpa using h
  simp only [nth, bts, List.getD_eq_getElem?_getD, List.getElem?_map, List.getElem?_eq_getElem h']
  rfl
theorem drop_nth (L : List Nat) (k : Nat) (h : k < L.length) : L.drop k = nth L k :: L.drop (k + 1) := by
  rw [List.drop_eq_getElem_cons h]
  simp [nth, List.getD, List.getElem?_eq_getElem h]
theorem take_nth (L : List Nat) (k : Nat) (h : k < L.length) : L.take (k + 1) = L.take k ++ [nth L k] := by
  rw [List.take_succ_eq_append_getElem h]
  simp [nth, List.getD, List.getElem?_eq_getElem h]

/-- A row that is there stays there behind a call that turns nothing old. -/
theorem row_below {w w' : World} {b : Nat} {t : TypeId} {n : Nat} {f : Nat → Value} (h : w.rowIs b t n f) (hb : Below w.heap.size w w') : w'.rowIs b t n f :=
  h.of_block (hb.block b h.lt)

/-- A slice of bytes that can be read: empty, or its cells lie there. -/
def Rd (w : World) (ao : Option Addr) (L : List Nat) : Prop :=
  L = [] ∨ ∃ b off, ao = some ⟨b, off, none⟩ ∧ b < w.heap.size ∧ ∀ i, i < L.length → w.cell? ⟨b, off + i, none⟩ = some (.int .u8 (nth L i))

theorem Rd.below {w w' : World} {ao : Option Addr} {L : List Nat} (h : Rd w ao L) (hb : Below w.heap.size w w') : Rd w' ao L := by
  rcases h with h | ⟨b, off, rfl, hlt, hc⟩
  · exact .inl h
  · refine .inr ⟨b, off, rfl, Nat.lt_of_lt_of_le hlt hb.size, fun i hi => ?_⟩
    rw [hb.cell (p := ⟨b, off + i, none⟩) hlt]; exact hc i hi
theorem Rd.of_row {w : World} {b : Nat} {t : TypeId} {L : List Nat} (h : w.rowIs b t L.length (fun i => .int .u8 (nth L i))) : Rd w (some ⟨b, 0, none⟩) L := by
  refine .inr ⟨b, 0, rfl, h.lt, fun i hi => ?_⟩
  rw [Nat.zero_add]; exact h.cell hi

/-- No slash among the bytes. -/
def noSl (L : List Nat) : Bool := L.all fun c => decide (c ≠ 47)

theorem closedBytes_any (n cap : Nat) (ao : Option Addr) (s : ByteArray) (w : World) (hn : n ≤ maxLen) (hs : s.size ≤ maxLen) :
    Calls Try.prog 12 #[.slice ao n cap, .string s] w fun e w' => e = .returned (.bool (decide (n + s.size ≤ 1048576))) ∧ w' = w := by
  unfold maxLen at hs hn
  by_cases h : n + s.size ≤ 1048576
  · have e : decide (n + s.size ≤ 1048576) = true := by simpa using h
    rw [e]
    go_enter Try.func12, Try.ntmps12
    go_wp2
    go_ret
    exact ⟨rfl, rfl⟩
  · have e : decide (n + s.size ≤ 1048576) = false := by simpa using h
    rw [e]
    by_cases h1 : 1048576 < n
    · go_enter Try.func12, Try.ntmps12
      go_wp2
      go_ret
      exact ⟨rfl, rfl⟩
    · by_cases h2 : 1048576 < s.size
      · go_enter Try.func12, Try.ntmps12
        go_wp2
        go_ret
        exact ⟨rfl, rfl⟩
      · go_enter Try.func12, Try.ntmps12
        go_wp2
        go_ret
        exact ⟨rfl, rfl⟩

set_option maxHeartbeats 400000 in
theorem noSlash_any (s : ByteArray) (w : World) (hs : s.size ≤ maxLen) :
    Calls Try.prog 14 #[.string s] w fun e w' => e = .returned (.bool (noSl (bts s))) ∧ w' = w := by
  unfold maxLen at hs
  have hl := len_bts s
  go_enter Try.func14, Try.ntmps14
  go_wp2
  go_loop [3] (fun i => ∃ k : Nat, k ≤ s.size ∧ i = .int .i64 k ∧ Hid (noSl ((bts s).take k) = true)) (fun i => s.size - (intOf i).toNat)
  case atStart => exact ⟨0, Nat.zero_le _, rfl, hide (by simp [noSl])⟩
  case round =>
    obtain ⟨k, hk, rfl, hb⟩ := hrel
    by_cases hlt : k < s.size
    · have HB := hide (nth_bts s k hlt)
      have HT := hide (take_nth (bts s) k (by omega))
      by_cases h47 : ((s[k].toNat : Int) == 47) = true
      · go_wp2
        go_ret
        refine ⟨ret_bool ?_, rfl⟩
        have h1 : nth (bts s) k = 47 := by rw [unhide HB]; simp at h47; omega
        have h2 : noSl (bts s) = false := by
          unfold noSl
          rw [List.all_eq_false]
          refine ⟨47, ?_, by simp⟩
          have : (bts s).drop k = 47 :: (bts s).drop (k + 1) := by rw [drop_nth _ _ (by omega), h1]
          exact List.mem_of_mem_drop (i := k) (by rw [this]; simp)
        rw [h2]
      · have h47' : ((s[k].toNat : Int) == 47) = false := by simpa using h47
        go_wp2
        go_round
        case rel => exact ⟨k + 1, by omega, by go_num, hide (by have := unhide hb; unfold noSl at *; rw [unhide HT, List.all_append, this]; simp; rw [unhide HB]; simp at h47'; omega)⟩
        case measure => simp [intOf]; omega
    · go_wp2
      go_ret
      have hb' := unhide hb
      rw [List.take_of_length_le (by omega)] at hb'
      exact ⟨ret_bool hb'.symm, rfl⟩

theorem ne_of_nth {A B : List Nat} (k : Nat) (h : nth A k ≠ nth B k) : A ≠ B := fun e => h (by rw [e])
theorem eq_of_take {A B : List Nat} (k : Nat) (hA : A.length ≤ k) (hB : B.length ≤ k) (h : A.take k = B.take k) : A = B := by
  rwa [List.take_of_length_le hA, List.take_of_length_le hB] at h

set_option maxHeartbeats 400000 in
theorem sameText_any (s : ByteArray) (ao : Option Addr) (n cap : Nat) (L : List Nat) (w : World) (hs : s.size ≤ maxLen) (hn : n ≤ maxLen) (hL : L.length = n) (hr : Rd w ao L) :
    Calls Try.prog 13 #[.string s, .slice ao n cap] w fun e w' => e = .returned (.bool (decide (bts s = L))) ∧ Below w.heap.size w w' := by
  unfold maxLen at hs hn
  have hl := len_bts s
  by_cases hne : s.size = n
  · subst hne
    by_cases h0 : s.size = 0
    · have e1 : decide (bts s = L) = true := by
        have h1 : bts s = [] := List.length_eq_zero_iff.1 (by omega)
        have h2 : L = [] := List.length_eq_zero_iff.1 (by omega)
        simp [h1, h2]
      rw [e1]
      have H0 := hide h0
      have hz : ¬ (0 : Int) < (s.size : Int) := by omega
      clear h0 hl hL
      go_enter Try.func13, Try.ntmps13
      go_wp2
      refine wp_loop_rounds 1 ?_
      rw [rounds_succ]
      go_wp2
      go_ret
      exact ⟨rfl, Below.refl _ _⟩
    · obtain ⟨b, off, rfl, hblt, hc⟩ : ∃ b off, ao = some ⟨b, off, none⟩ ∧ b < w.heap.size ∧ ∀ i, i < L.length → w.cell? ⟨b, off + i, none⟩ = some (.int .u8 (nth L i)) := by
        rcases hr with h | h
        · simp [h] at hL; omega
        · exact h
      clear hr
      have HL := hide hL
      have Hc := hide hc
      have Hl := hide hl
      clear hL hc hl
      go_enter Try.func13, Try.ntmps13
      go_wp2
      go_loopw [5] (fun i wr => ∃ k : Nat, k ≤ s.size ∧ i = .int .i64 k ∧ Hid ((bts s).take k = L.take k) ∧ Hid (Below w.heap.size w wr)) (fun i _ => s.size - (intOf i).toNat)
      case atStart => exact ⟨0, Nat.zero_le _, rfl, hide (by simp), hide (Below.refl _ _)⟩
      case round =>
        obtain ⟨k, hk, rfl, hb, hbel⟩ := hrel
        by_cases hlt : k < s.size
        · have hcell : wr.cell? ⟨b, off + k, none⟩ = some (.int .u8 (nth L k)) := by
            rw [(unhide hbel).cell (p := ⟨b, off + k, none⟩) hblt]; exact unhide Hc k (by rw [unhide HL]; omega)
          have HB := hide (nth_bts s k hlt)
          have HT := hide (take_nth (bts s) k (by rw [unhide Hl]; omega))
          have HT2 := hide (take_nth L k (by rw [unhide HL]; omega))
          have hltI : (k : Int) < (s.size : Int) := by omega
          by_cases he : ((s[k].toNat : Int) != (nth L k : Int)) = true
          · go_wp2
            go_quiet (fail)
            go_wp2
            go_ret
            refine ⟨ret_bool ?_, below_drewN (unhide hbel) _⟩
            have : bts s ≠ L := ne_of_nth k (by rw [unhide HB]; simp at he; omega)
            simp [this]
          · have he' : ((s[k].toNat : Int) != (nth L k : Int)) = false := by simpa using he
            go_wp2
            go_quiet (fail)
            go_wp2
            go_roundw
            case rel => exact ⟨k + 1, by omega, by go_num, hide (by rw [unhide HT, unhide HT2, unhide hb, unhide HB]; simp at he'; congr 2; omega), hide (below_drewN (unhide hbel) _)⟩
            case measure => simp [intOf]; omega
        · go_wp2
          go_ret
          refine ⟨ret_bool ?_, unhide hbel⟩
          have : bts s = L := eq_of_take k (by rw [unhide Hl]; omega) (by rw [unhide HL]; omega) (unhide hb)
          simp [this]
  · have e1 : decide (bts s = L) = false := by
      simp; intro e; have := congrArg List.length e; omega
    rw [e1]
    have hne' : ((s.size : Int) != (n : Int)) = true := by simp; omega
    clear hl hL
    go_enter Try.func13, Try.ntmps13
    go_wp2
    go_ret
    exact ⟨rfl, Below.refl _ _⟩
end Go.Proofs.Qxb6605540a.Mt
