/-
  The contracts of cloneSets and of the bound on the lengths; cloneU8 at every slice.
-/
import Derived.Test.Qxb6605540aMatchC
namespace Go.Proofs.Qxb6605540a.Mt
open Go.RowKit

theorem cloneU8_any (ao : Option Addr) (n cap : Nat) (L : List Nat) (w : World) (hn : n ≤ 1048576) (hL : L.length = n) (h0 : ao = none → n = 0 ∧ cap = 0) (hr : Rd w ao L) :
    Calls Try.prog 8 #[.slice ao n cap] w fun e w' => ∃ a1, e = .returned (.slice a1 n n) ∧ Rd w' a1 L ∧ Below w.heap.size w w' := by
  match ao, h0, hr with
  | none, h0, _ =>
    obtain ⟨rfl, rfl⟩ := h0 rfl
    exact (cloneU8_nil w).mono fun e w' ⟨he, hw⟩ => ⟨none, he, .inl (List.length_eq_zero_iff.1 hL), by rw [hw]; exact Below.refl _ _⟩
  | some a, _, hr => exact cloneU8_some a n cap L w hn hL hr

theorem info29' : (Try.prog.info? 29).map (fun i => (i.zero, i.size, i.bytes)) = some (some (.agg #[.int .u64 0, .int .u64 0, .int .u64 0, .int .u64 0]), 4, 32) := by kernel_rfl
theorem run_make29' (n : Nat) (hn : n ≤ 1048576) (w : World) :
    (Instr.makeSlice 23 (.int .i64 (n : Int)) (.int .i64 (n : Int))).run Try.prog w = .ok (.slice (some ⟨w.heap.size, 0, none⟩) n n) (w.alloc (.cells (madeCells #[.int .u64 0, .int .u64 0, .int .u64 0, .int .u64 0] (n * 4)) 29)) := by
  obtain ⟨i, hi, hz, hs, hb⟩ := info_parts info29'
  have := run_make (P := Try.prog) w 23 29 i _ Try.underlying23 hi hz .i64 .i64 n n (by omega) (Int.le_refl _) (by rw [hb]; omega) (by omega)
  rw [hs] at this
  exact this

theorem made29' (w : World) (n : Nat) : (w.alloc (.cells (madeCells #[.int .u64 0, .int .u64 0, .int .u64 0, .int .u64 0] (n * 4)) 29)).rowIs w.heap.size 29 (n * 4) (fun _ => .int .u64 0) := by
  refine ⟨_, Deep.blk_alloc_new _ _, size_madeCells _ _, fun i hi => ?_⟩
  simp only [madeCells, Array.getElem?_map, Array.getElem?_range, if_pos hi, Option.map_some]
  have h3 : i % 4 = 0 ∨ i % 4 = 1 ∨ i % 4 = 2 ∨ i % 4 = 3 := by omega
  rcases h3 with e | e | e | e <;> simp [e]

/-- Cell j of a row of sets. -/
def setCellOf (S : Nat → Nat → Int) (j : Nat) : Value := .int .u64 (S (j / 4) (j % 4))
theorem setCellOf_at (S : Nat → Nat → Int) (k t : Nat) (ht : t < 4) : setCellOf S (k * 4 + t) = .int .u64 (S k t) := by
  unfold setCellOf; rw [show (k * 4 + t) / 4 = k by omega, show (k * 4 + t) % 4 = t by omega]

theorem sets_copied {w : World} {b n k : Nat} {S : Nat → Nat → Int} (h : w.rowIs b 29 n (fun j => if j < k * 4 then setCellOf S j else .int .u64 0)) :
    ((((w.setCell ⟨b, k * 4, none⟩ (.int .u64 (S k 0))).setCell ⟨b, k * 4 + 1, none⟩ (.int .u64 (S k 1))).setCell ⟨b, k * 4 + 2, none⟩ (.int .u64 (S k 2))).setCell ⟨b, k * 4 + 3, none⟩ (.int .u64 (S k 3))).rowIs b 29 n (fun j => if j < (k + 1) * 4 then setCellOf S j else .int .u64 0) := by
  refine ((((h.set _ _).set _ _).set _ _).set _ _).congr fun j hj => ?_
  by_cases e3 : j = k * 4 + 3
  · subst e3; rw [if_pos rfl, if_pos (by omega), setCellOf_at _ _ _ (by omega)]
  · by_cases e2 : j = k * 4 + 2
    · subst e2; rw [if_neg e3, if_pos rfl, if_pos (by omega), setCellOf_at _ _ _ (by omega)]
    · by_cases e1 : j = k * 4 + 1
      · subst e1; rw [if_neg e3, if_neg e2, if_pos rfl, if_pos (by omega), setCellOf_at _ _ _ (by omega)]
      · by_cases e0 : j = k * 4
        · subst e0; rw [if_neg e3, if_neg e2, if_neg e1, if_pos rfl, if_pos (by omega)]; exact (setCellOf_at S k 0 (by omega)).symm
        · rw [if_neg e3, if_neg e2, if_neg e1, if_neg e0]
          by_cases h : j < k * 4
          · rw [if_pos h, if_pos (by omega)]
          · rw [if_neg h, if_neg (by omega)]

set_option maxHeartbeats 400000 in
theorem cloneSets_nil (w : World) :
    Calls Try.prog 9 #[.slice none 0 0] w fun e w' => e = .returned (.slice none 0 0) ∧ w' = w := by
  have hnil := fun w' => Lib.run_eql_slice_nil (P := Try.prog) w' 23 29 none 0 0 0 0 Try.underlying23
  go_enter Try.func9, Try.ntmps9
  go_wp2
  go_ret
  exact ⟨rfl, rfl⟩

set_option maxHeartbeats 1000000 in
theorem cloneSets_some (a : Addr) (n cap : Nat) (S : Nat → Nat → Int) (w : World) (hn : n ≤ 1048576) (hr : RdS w (some a) n S) :
    Calls Try.prog 9 #[.slice (some a) n cap] w fun e w' => ∃ a1, e = .returned (.slice a1 n n) ∧ RdS w' a1 n S ∧ Below w.heap.size w w' := by
  have hnil := fun w' => Lib.run_eql_slice_nil (P := Try.prog) w' 23 29 (some a) n cap 0 0 Try.underlying23
  have hmk := run_make29' n hn
  have hs0 := made29' w n
  by_cases h0 : n = 0
  · subst h0
    clear hs0 hr
    rw [show ((0 : Nat) : Int) = 0 from rfl] at hmk
    go_enter Try.func9, Try.ntmps9
    go_wp2
    refine wp_loop_rounds 1 ?_
    rw [rounds_succ]
    go_wp2
    go_ret
    exact ⟨_, rfl, .inl rfl, (Below.refl _ _).alloc (Nat.le_refl _) _⟩
  · obtain ⟨b, off, ha, hblt, hc⟩ : ∃ b off, some a = some ⟨b, off, none⟩ ∧ b < w.heap.size ∧ ∀ i, i < n → ∀ k, k < 4 → w.cell? ⟨b, off + i * 4 + k, none⟩ = some (.int .u64 (S i k)) := by
      rcases hr with h | h
      · omega
      · exact h
    simp only [Option.some.injEq] at ha
    subst ha
    clear hr
    have Hc := hide hc
    have H0 := hide hs0
    clear hc hs0
    go_enter Try.func9, Try.ntmps9
    go_wp2
    go_loopw [4] (fun i wr => ∃ k : Nat, k ≤ n ∧ i = .int .i64 k ∧ Hid (wr.rowIs w.heap.size 29 (n * 4) (fun j => if j < k * 4 then setCellOf S j else .int .u64 0)) ∧ Hid (Below w.heap.size w wr)) (fun i _ => n - (intOf i).toNat)
    case atStart => exact ⟨0, Nat.zero_le _, rfl, hide ((unhide H0).congr fun i _ => by simp), hide ((Below.refl _ _).alloc (Nat.le_refl _) _)⟩
    case round =>
      obtain ⟨k, hk, rfl, hrow, hbel⟩ := hrel
      by_cases hlt : k < n
      · have e2 : ∀ j, j < 4 → wr.cell? ⟨b, off + k * 4 + j, none⟩ = some (.int .u64 (S k j)) := by
          intro j hj
          rw [(unhide hbel).cell (p := ⟨b, off + k * 4 + j, none⟩) hblt]; exact unhide Hc k hlt j hj
        have e20 : wr.cell? ⟨b, off + k * 4, none⟩ = some (.int .u64 (S k 0)) := e2 0 (by omega)
        have e21 := e2 1 (by omega)
        have e22 := e2 2 (by omega)
        have e23 := e2 3 (by omega)
        have z : ∀ j, j < 4 → ∃ v, wr.cell? ⟨w.heap.size, k * 4 + j, none⟩ = some v := fun j hj => ⟨_, (unhide hrow).cell (by omega)⟩
        obtain ⟨v0, z0⟩ : ∃ v, wr.cell? ⟨w.heap.size, k * 4, none⟩ = some v := z 0 (by omega)
        obtain ⟨v1, z1⟩ := z 1 (by omega)
        obtain ⟨v2, z2⟩ := z 2 (by omega)
        obtain ⟨v3, z3⟩ := z 3 (by omega)
        have f0 := (unhide hrow).frozen (k * 4)
        have f1 := (unhide hrow).frozen (k * 4 + 1)
        have f2 := (unhide hrow).frozen (k * 4 + 2)
        have f3 := (unhide hrow).frozen (k * 4 + 3)
        clear e2 z
        go_wp2
        go_roundw
        case rel => exact ⟨k + 1, by omega, by go_num, hide (sets_copied (unhide hrow)), hide (((((unhide hbel).setCell (Nat.le_refl _) _).setCell (Nat.le_refl _) _).setCell (Nat.le_refl _) _).setCell (Nat.le_refl _) _)⟩
        case measure => simp [intOf]; omega
      · go_wp2
        go_ret
        refine ⟨_, rfl, .inr ⟨w.heap.size, 0, rfl, (unhide hrow).lt, fun i hi t ht => ?_⟩, unhide hbel⟩
        rw [Nat.zero_add, (unhide hrow).cell (by omega), if_pos (by omega), setCellOf_at _ _ _ ht]

theorem cloneSets_any (ao : Option Addr) (n cap : Nat) (S : Nat → Nat → Int) (w : World) (hn : n ≤ 1048576) (h0 : ao = none → n = 0 ∧ cap = 0) (hr : RdS w ao n S) :
    Calls Try.prog 9 #[.slice ao n cap] w fun e w' => ∃ a1, e = .returned (.slice a1 n n) ∧ RdS w' a1 n S ∧ Below w.heap.size w w' := by
  match ao, h0, hr with
  | none, h0, _ =>
    obtain ⟨rfl, rfl⟩ := h0 rfl
    exact (cloneSets_nil w).mono fun e w' ⟨he, hw⟩ => ⟨none, he, .inl rfl, by rw [hw]; exact Below.refl _ _⟩
  | some a, _, hr => exact cloneSets_some a n cap S w hn hr

set_option maxHeartbeats 800000 in
theorem agreeBytes_any (n0 n1 n2 c0 c1 c2 : Nat) (a0 a1 a2 : Option Addr) (s : ByteArray) (w : World) (h0 : n0 ≤ maxLen) (h1 : n1 ≤ maxLen) (h2 : n2 ≤ maxLen) (hs : s.size ≤ maxLen) :
    Calls Try.prog 7 #[.slice a0 n0 c0, .slice a1 n1 c1, .slice a2 n2 c2, .string s] w fun e w' => e = .returned (.bool (decide (n0 + n1 + n2 + s.size ≤ 1048576))) ∧ w' = w := by
  unfold maxLen at h0 h1 h2 hs
  by_cases h : n0 + n1 + n2 + s.size ≤ 1048576
  · have e : decide (n0 + n1 + n2 + s.size ≤ 1048576) = true := by simpa using h
    rw [e]
    go_enter Try.func7, Try.ntmps7
    go_wp2
    go_ret
    exact ⟨rfl, rfl⟩
  · have e : decide (n0 + n1 + n2 + s.size ≤ 1048576) = false := by simpa using h
    rw [e]
    by_cases g0 : 1048576 < n0
    · go_enter Try.func7, Try.ntmps7
      go_wp2
      go_ret
      exact ⟨rfl, rfl⟩
    by_cases g1 : 1048576 < n1
    · go_enter Try.func7, Try.ntmps7
      go_wp2
      go_ret
      exact ⟨rfl, rfl⟩
    by_cases g2 : 1048576 < n0 + n1
    · go_enter Try.func7, Try.ntmps7
      go_wp2
      go_ret
      exact ⟨rfl, rfl⟩
    by_cases g3 : 1048576 < n2
    · go_enter Try.func7, Try.ntmps7
      go_wp2
      go_ret
      exact ⟨rfl, rfl⟩
    by_cases g4 : 1048576 < n0 + n1 + n2
    · go_enter Try.func7, Try.ntmps7
      go_wp2
      go_ret
      exact ⟨rfl, rfl⟩
    by_cases g5 : 1048576 < s.size
    · go_enter Try.func7, Try.ntmps7
      go_wp2
      go_ret
      exact ⟨rfl, rfl⟩
    · go_enter Try.func7, Try.ntmps7
      go_wp2
      go_ret
      exact ⟨rfl, rfl⟩
end Go.Proofs.Qxb6605540a.Mt
