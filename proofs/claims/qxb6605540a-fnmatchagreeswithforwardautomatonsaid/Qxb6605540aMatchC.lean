/-
  The contract of zzTokens: a row of tokens in new memory, each with a set of its own.
-/
import Derived.Test.Qxb6605540aMatchB
import Derived.RegionTactic
namespace Go.Proofs.Qxb6605540a.Mt
open Go.RowKit
theorem info64 : (Try.prog.info? 64).map (fun i => (i.zero, i.size, i.bytes)) = some (some (.agg #[.int .u8 0, .int .u8 0, .pointer none]), 3, 16) := by kernel_rfl

/-- A slice of sets that can be read. -/
def RdS (w : World) (ao : Option Addr) (n : Nat) (S : Nat → Nat → Int) : Prop :=
  n = 0 ∨ ∃ b off, ao = some ⟨b, off, none⟩ ∧ b < w.heap.size ∧ ∀ i, i < n → ∀ k, k < 4 → w.cell? ⟨b, off + i * 4 + k, none⟩ = some (.int .u64 (S i k))

theorem RdS.below {w w' : World} {ao : Option Addr} {n : Nat} {S : Nat → Nat → Int} (h : RdS w ao n S) (hb : Below w.heap.size w w') : RdS w' ao n S := by
  rcases h with h | ⟨b, off, rfl, hlt, hc⟩
  · exact .inl h
  · refine .inr ⟨b, off, rfl, Nat.lt_of_lt_of_le hlt hb.size, fun i hi k hk => ?_⟩
    rw [hb.cell (p := ⟨b, off + i * 4 + k, none⟩) hlt]; exact hc i hi k hk

set_option maxHeartbeats 400000 in
theorem run_make64 (n : Nat) (hn : n ≤ 1048576) (w : World) :
    (Instr.makeSlice 49 (.int .i64 (n : Int)) (.int .i64 (n : Int))).run Try.prog w = .ok (.slice (some ⟨w.heap.size, 0, none⟩) n n) (w.alloc (.cells (madeCells #[.int .u8 0, .int .u8 0, .pointer none] (n * 3)) 64)) := by
  obtain ⟨i, hi, hz, hs, hb⟩ := info_parts info64
  have := run_make (P := Try.prog) w 49 64 i _ Try.underlying49 hi hz .i64 .i64 n n (by omega) (Int.le_refl _) (by rw [hb]; omega) (by omega)
  rw [hs] at this
  exact this

/-- Cell j of a row of tokens whose sets lie from block B on. -/
def tokCell (K L : List Nat) (B : Nat) (j : Nat) : Value :=
  if j % 3 = 0 then .int .u8 (nth K (j / 3)) else if j % 3 = 1 then .int .u8 (nth L (j / 3)) else .pointer (some ⟨B + j / 3, 0, none⟩)
def zeroTok (j : Nat) : Value := if j % 3 = 2 then .pointer none else .int .u8 0

theorem tok0 (K L : List Nat) (B k : Nat) : tokCell K L B (k * 3) = .int .u8 (nth K k) := by
  unfold tokCell; rw [if_pos (by omega), show k * 3 / 3 = k by omega]
theorem tok1 (K L : List Nat) (B k : Nat) : tokCell K L B (k * 3 + 1) = .int .u8 (nth L k) := by
  unfold tokCell; rw [if_neg (by omega), if_pos (by omega), show (k * 3 + 1) / 3 = k by omega]
theorem tok2 (K L : List Nat) (B k : Nat) : tokCell K L B (k * 3 + 2) = .pointer (some ⟨B + k, 0, none⟩) := by
  unfold tokCell; rw [if_neg (by omega), if_neg (by omega), show (k * 3 + 2) / 3 = k by omega]

theorem made64 (w : World) (n : Nat) : (w.alloc (.cells (madeCells #[.int .u8 0, .int .u8 0, .pointer none] (n * 3)) 64)).rowIs w.heap.size 64 (n * 3) zeroTok := by
  refine ⟨_, Deep.blk_alloc_new _ _, size_madeCells _ _, fun i hi => ?_⟩
  simp only [madeCells, Array.getElem?_map, Array.getElem?_range, if_pos hi, Option.map_some]
  unfold zeroTok
  have h3 : i % 3 = 0 ∨ i % 3 = 1 ∨ i % 3 = 2 := by omega
  rcases h3 with e | e | e <;> simp [e]

/-- The row behind one token's store. -/
theorem tok_stored {w : World} {b n k B : Nat} {K L : List Nat} (h : w.rowIs b 64 n (fun j => if j < k * 3 then tokCell K L B j else zeroTok j)) {x y z : Value} (hx : x = .int .u8 (nth K k)) (hy : y = .int .u8 (nth L k)) (hz : z = .pointer (some ⟨B + k, 0, none⟩)) :
    (((w.setCell ⟨b, k * 3, none⟩ x).setCell ⟨b, k * 3 + 1, none⟩ y).setCell ⟨b, k * 3 + 2, none⟩ z).rowIs b 64 n (fun j => if j < (k + 1) * 3 then tokCell K L B j else zeroTok j) := by
  subst hx; subst hy; subst hz
  refine (((h.set _ _).set _ _).set _ _).congr fun j hj => ?_
  by_cases e2 : j = k * 3 + 2
  · subst e2; rw [if_pos rfl, if_pos (by omega), tok2]
  · by_cases e1 : j = k * 3 + 1
    · subst e1; rw [if_neg e2, if_pos rfl, if_pos (by omega), tok1]
    · by_cases e0 : j = k * 3
      · subst e0; rw [if_neg e2, if_neg e1, if_pos rfl, if_pos (by omega), tok0]
      · rw [if_neg e2, if_neg e1, if_neg e0]
        by_cases h : j < k * 3
        · rw [if_pos h, if_pos (by omega)]
        · rw [if_neg h, if_neg (by omega)]

/-- Tokens in memory: their row at the head of block b, the set of token i in block b + 1 + i. -/
def TokAt (w : World) (b n : Nat) (K L : List Nat) (S : Nat → Nat → Int) : Prop :=
  w.rowIs b 64 (n * 3) (tokCell K L (b + 1)) ∧ ∀ i, i < n → w.rowIs (b + 1 + i) 66 4 (fun j => .int .u64 (S i j))

theorem setRow {w : World} {x0 x1 x2 x3 : Int} {S : Nat → Int} (h0 : x0 = S 0) (h1 : x1 = S 1) (h2 : x2 = S 2) (h3 : x3 = S 3) :
    (w.alloc (.cells #[.int .u64 x0, .int .u64 x1, .int .u64 x2, .int .u64 x3] 66)).rowIs w.heap.size 66 4 (fun j => .int .u64 (S j)) := by
  subst h0; subst h1; subst h2; subst h3
  refine World.rowIs_alloc w _ _ _ fun i hi => ?_
  simp at hi
  match i, hi with
  | 0, _ => rfl
  | 1, _ => rfl
  | 2, _ => rfl
  | 3, _ => rfl

/-- What one round of zzTokens leaves. -/
theorem tok_round {w wr : World} {n k : Nat} {K L : List Nat} {S : Nat → Nat → Int}
    (h : wr.heap.size = w.heap.size + 1 + k ∧ wr.rowIs w.heap.size 64 (n * 3) (fun j => if j < k * 3 then tokCell K L (w.heap.size + 1) j else zeroTok j) ∧
      (∀ i, i < k → wr.rowIs (w.heap.size + 1 + i) 66 4 (fun j => .int .u64 (S i j))) ∧ Below w.heap.size w wr) (W : World)
    (hW : W = ((((wr.setCell ⟨w.heap.size, k * 3, none⟩ (.int .u8 (nth K k))).setCell ⟨w.heap.size, k * 3 + 1, none⟩ (.int .u8 (nth L k))).setCell ⟨w.heap.size, k * 3 + 2, none⟩ (.pointer (some ⟨wr.heap.size, 0, none⟩))).alloc (.cells #[.int .u64 (S k 0), .int .u64 (S k 1), .int .u64 (S k 2), .int .u64 (S k 3)] 66)).drew) :
    W.heap.size = w.heap.size + 1 + (k + 1) ∧ W.rowIs w.heap.size 64 (n * 3) (fun j => if j < (k + 1) * 3 then tokCell K L (w.heap.size + 1) j else zeroTok j) ∧
      (∀ i, i < k + 1 → W.rowIs (w.heap.size + 1 + i) 66 4 (fun j => .int .u64 (S i j))) ∧ Below w.heap.size w W := by
  obtain ⟨hs, hrow, hsets, hbel⟩ := h
  subst hW
  generalize hW3 : (((wr.setCell ⟨w.heap.size, k * 3, none⟩ (.int .u8 (nth K k))).setCell ⟨w.heap.size, k * 3 + 1, none⟩ (.int .u8 (nth L k))).setCell ⟨w.heap.size, k * 3 + 2, none⟩ (.pointer (some ⟨wr.heap.size, 0, none⟩))) = W3
  have hr3 : W3.rowIs w.heap.size 64 (n * 3) (fun j => if j < (k + 1) * 3 then tokCell K L (w.heap.size + 1) j else zeroTok j) := by
    rw [← hW3]; exact tok_stored hrow rfl rfl (by rw [hs])
  have hs3 : W3.heap.size = wr.heap.size := by rw [← hW3]; simp [World.setCell]
  have ho3 : ∀ i, i < k → W3.rowIs (w.heap.size + 1 + i) 66 4 (fun j => .int .u64 (S i j)) := by
    intro i hi
    rw [← hW3]
    exact (((hsets i hi).setOther (by show _ ≠ w.heap.size; omega) _).setOther (by show _ ≠ w.heap.size; omega) _).setOther (by show _ ≠ w.heap.size; omega) _
  have hb3 : Below w.heap.size w W3 := by
    rw [← hW3]; exact ((hbel.setCell (Nat.le_refl _) _).setCell (Nat.le_refl _) _).setCell (Nat.le_refl _) _
  clear hW3
  refine ⟨?_, (hr3.alloc _).drew, ?_, (hb3.alloc (by omega) _).drew⟩
  · show (W3.alloc _).heap.size = _
    rw [Deep.nblk_alloc]; omega
  · intro i hi
    by_cases e : i = k
    · subst e
      have := (setRow (w := W3) (S := S i) rfl rfl rfl rfl).drew
      rw [hs3, hs] at this
      exact this
    · exact ((ho3 i (by omega)).alloc _).drew

set_option maxHeartbeats 400000 in
theorem zzTokens_zero (a0 a1 a2 : Option Addr) (c0 c1 c2 : Nat) (K L : List Nat) (S : Nat → Nat → Int) (w : World) :
    Calls Try.prog 28 #[.slice a0 0 c0, .slice a1 0 c1, .slice a2 0 c2] w fun e w' =>
      e = .returned (.slice (some ⟨w.heap.size, 0, none⟩) 0 0) ∧ TokAt w' w.heap.size 0 K L S ∧ Below w.heap.size w w' := by
  have hmk := run_make64 0 (by omega)
  rw [show ((0 : Nat) : Int) = 0 from rfl] at hmk
  go_enter Try.func28, Try.ntmps28
  go_wp2
  refine wp_loop_rounds 1 ?_
  rw [rounds_succ]
  go_wp2
  go_ret
  exact ⟨rfl, ⟨(made64 w 0).congr fun i hi => by omega, fun i hi => by omega⟩, (Below.refl _ _).alloc (Nat.le_refl _) _⟩

set_option maxHeartbeats 800000 in
theorem zzTokens_some (b0 o0 c0 b1 o1 c1 b2 o2 c2 : Nat) (n : Nat) (K L : List Nat) (S : Nat → Nat → Int) (w : World) (hn : n ≤ 1048576)
    (h0 : b0 < w.heap.size) (h1 : b1 < w.heap.size) (h2 : b2 < w.heap.size)
    (r0 : ∀ i, i < n → w.cell? ⟨b0, o0 + i, none⟩ = some (.int .u8 (nth K i))) (r1 : ∀ i, i < n → w.cell? ⟨b1, o1 + i, none⟩ = some (.int .u8 (nth L i)))
    (r2 : ∀ i, i < n → ∀ k, k < 4 → w.cell? ⟨b2, o2 + i * 4 + k, none⟩ = some (.int .u64 (S i k))) :
    Calls Try.prog 28 #[.slice (some ⟨b0, o0, none⟩) n c0, .slice (some ⟨b1, o1, none⟩) n c1, .slice (some ⟨b2, o2, none⟩) n c2] w fun e w' =>
      e = .returned (.slice (some ⟨w.heap.size, 0, none⟩) n n) ∧ TokAt w' w.heap.size n K L S ∧ Below w.heap.size w w' := by
  have hmk := run_make64 n hn
  have M0 := hide (made64 w n)
  have R0 := hide r0
  have R1 := hide r1
  have R2 := hide r2
  clear r0 r1 r2
  go_enter Try.func28, Try.ntmps28
  go_wp2
  go_loopw [8] (fun i wr => ∃ k : Nat, k ≤ n ∧ i = .int .i64 k ∧ Hid (wr.heap.size = w.heap.size + 1 + k ∧ wr.rowIs w.heap.size 64 (n * 3) (fun j => if j < k * 3 then tokCell K L (w.heap.size + 1) j else zeroTok j) ∧
      (∀ i, i < k → wr.rowIs (w.heap.size + 1 + i) 66 4 (fun j => .int .u64 (S i j))) ∧ Below w.heap.size w wr)) (fun i _ => n - (intOf i).toNat)
  case atStart => exact ⟨0, Nat.zero_le _, rfl, hide ⟨by simp, (unhide M0).congr fun i _ => by simp, fun i hi => by omega, (Below.refl _ _).alloc (Nat.le_refl _) _⟩⟩
  case round =>
    obtain ⟨k, hk, rfl, HR⟩ := hrel
    by_cases hlt : k < n
    · have hbel := (unhide HR).2.2.2
      have hrow := (unhide HR).2.1
      have e0 : wr.cell? ⟨b0, o0 + k, none⟩ = some (.int .u8 (nth K k)) := by
        rw [hbel.cell (p := ⟨b0, o0 + k, none⟩) h0]; exact unhide R0 k hlt
      have e1 : wr.cell? ⟨b1, o1 + k, none⟩ = some (.int .u8 (nth L k)) := by
        rw [hbel.cell (p := ⟨b1, o1 + k, none⟩) h1]; exact unhide R1 k hlt
      have e2 : ∀ j, j < 4 → wr.cell? ⟨b2, o2 + k * 4 + j, none⟩ = some (.int .u64 (S k j)) := by
        intro j hj
        rw [hbel.cell (p := ⟨b2, o2 + k * 4 + j, none⟩) h2]; exact unhide R2 k hlt j hj
      have e20 : wr.cell? ⟨b2, o2 + k * 4, none⟩ = some (.int .u64 (S k 0)) := e2 0 (by omega)
      have e21 := e2 1 (by omega)
      have e22 := e2 2 (by omega)
      have e23 := e2 3 (by omega)
      have hbw : w.heap.size < wr.heap.size := hrow.lt
      have hb0 : b0 < wr.heap.size := Nat.lt_of_lt_of_le h0 hbel.size
      have hb1 : b1 < wr.heap.size := Nat.lt_of_lt_of_le h1 hbel.size
      have z0 : ∃ v, wr.cell? ⟨w.heap.size, k * 3, none⟩ = some v := ⟨_, hrow.cell (by omega)⟩
      have z1 : ∃ v, wr.cell? ⟨w.heap.size, k * 3 + 1, none⟩ = some v := ⟨_, hrow.cell (by omega)⟩
      have z2 : ∃ v, wr.cell? ⟨w.heap.size, k * 3 + 2, none⟩ = some v := ⟨_, hrow.cell (by omega)⟩
      obtain ⟨v0, z0⟩ := z0
      obtain ⟨v1, z1⟩ := z1
      obtain ⟨v2, z2⟩ := z2
      have f0 := hrow.frozen (k * 3)
      have f1 := hrow.frozen (k * 3 + 1)
      have f2 := hrow.frozen (k * 3 + 2)
      clear e2 hrow hbel
      go_wp2
      go_region
      all_goals go_wp2
      go_roundw
      case rel =>
        exact ⟨k + 1, by omega, by go_num, hide (tok_round (unhide HR) _ rfl)⟩
      case measure => simp [intOf]; omega
    · go_wp2
      go_ret
      have h := unhide HR
      have hkn : k = n := by omega
      subst hkn
      exact ⟨rfl, ⟨h.2.1.congr fun i hi => by rw [if_pos hi], h.2.2.1⟩, h.2.2.2⟩
end Go.Proofs.Qxb6605540a.Mt
