/-
  The contracts of isRunKind, takesByte, closeForward.
-/
import Derived.Test.Qxb6605540aMatchD
import Derived.Laws.BitsAllLaws
namespace Go.Proofs.Qxb6605540a.Mt
open Go.RowKit

set_option maxHeartbeats 400000 in
theorem isRun_any (k : Nat) (w : World) (_hk : k ≤ 255) :
    Calls Try.prog 36 #[.int .u8 k] w fun e w' => e = .returned (.bool (PMatch.runK k)) ∧ w' = w := by
  by_cases h3 : k = 3
  · subst h3
    go_enter Try.func36, Try.ntmps36
    go_wp2
    go_ret
    exact ⟨rfl, rfl⟩
  · by_cases h4 : k = 4
    · subst h4
      go_enter Try.func36, Try.ntmps36
      go_wp2
      go_ret
      exact ⟨rfl, rfl⟩
    · have e : PMatch.runK k = ((k : Int) == 5) := by
        unfold PMatch.runK
        rw [decide_eq_false h3, decide_eq_false h4, Bool.eq_iff_iff, beq_iff_eq]; simp; omega
      have h3' : ((k : Int) == 3) = false := beq_eq_false_iff_ne.2 (by omega)
      have h4' : ((k : Int) == 4) = false := beq_eq_false_iff_ne.2 (by omega)
      rw [e]
      go_enter Try.func36, Try.ntmps36
      go_wp2
      go_ret
      exact ⟨rfl, rfl⟩

/-- One bit, asked for in two ways. -/
theorem bit_two_ways (x : Int) (t : Nat) (h0 : 0 ≤ x) (h1 : x ≤ 18446744073709551615) (ht : t < 64) :
    (bits BinOp.and IntKind.u64 x (IntKind.u64.wrap (2 ^ t)) != 0) = (bits BinOp.and IntKind.u64 (x / 2 ^ t) 1 == 1) := by
  obtain ⟨n, rfl⟩ := Int.eq_ofNat_of_zero_le h0
  have hn : n < 18446744073709551616 := by omega
  have hp : 2 ^ t < 18446744073709551616 := by
    have := Nat.pow_lt_pow_right (a := 2) (by omega) ht
    exact this
  have hpos : 0 < 2 ^ t := Nat.two_pow_pos t
  have e1 : ((2 : Int) ^ t) = ((2 ^ t : Nat) : Int) := by simp
  rw [e1]
  generalize hP : 2 ^ t = P at *
  have e2 : IntKind.u64.wrap ((P : Nat) : Int) = ((P : Nat) : Int) := by rw [IntKind.wrap_u64]; omega
  have e3 : ((n : Int) / (P : Int)) = ((n / P : Nat) : Int) := by simp
  have hd : n / P < 18446744073709551616 := Nat.lt_of_le_of_lt (Nat.div_le_self _ _) hn
  rw [e2, e3, bits_and_u64_nat n P hn hp, show (1 : Int) = ((1 : Nat) : Int) from rfl, bits_and_u64_nat (n / P) 1 hd (by omega), Nat.and_one_is_mod, ← hP, nat_bit, hP, Bool.eq_iff_iff, bne_iff_ne, beq_iff_eq]
  have h2 : n / P % 2 = 0 ∨ n / P % 2 = 1 := by omega
  rcases h2 with h | h
  · rw [h]; simp
  · rw [h]; simp; omega

theorem set_cell (w : World) (S : Nat → Int) (j : Nat) (hj : j < 4) : (w.alloc (.cells #[.int .u64 (S 0), .int .u64 (S 1), .int .u64 (S 2), .int .u64 (S 3)] 29)).cell? ⟨w.heap.size, j, none⟩ = some (.int .u64 (S j)) := by
  have h : (w.alloc (.cells #[.int .u64 (S 0), .int .u64 (S 1), .int .u64 (S 2), .int .u64 (S 3)] 29)).rowIs w.heap.size 29 4 (fun j => .int .u64 (S j)) := by
    refine World.rowIs_alloc w #[.int .u64 (S 0), .int .u64 (S 1), .int .u64 (S 2), .int .u64 (S 3)] 29 _ fun i hi => ?_
    simp at hi
    match i, hi with
    | 0, _ => rfl
    | 1, _ => rfl
    | 2, _ => rfl
    | 3, _ => rfl
  exact h.cell hj

set_option maxHeartbeats 400000 in
theorem takes_any (k l c : Nat) (S : Nat → Int) (w : World) (_hk : k ≤ 255) (hc : c ≤ 255) (hS : ∀ j, j < 4 → 0 ≤ S j ∧ S j ≤ 18446744073709551615) :
    Calls Try.prog 30 #[.int .u8 k, .int .u8 l, .agg #[.int .u64 (S 0), .int .u64 (S 1), .int .u64 (S 2), .int .u64 (S 3)], .int .u8 c] w fun e w' => e = .returned (.bool (PMatch.takes (tokOf k l S) c)) ∧ w' = w.alloc (.cells #[.int .u64 (S 0), .int .u64 (S 1), .int .u64 (S 2), .int .u64 (S 3)] 29) := by
  by_cases h0 : k = 0
  · subst h0
    have e : PMatch.takes (tokOf 0 l S) c = ((c : Int) == (l : Int)) := by
      unfold PMatch.takes tokOf
      rw [if_pos rfl, Bool.eq_iff_iff, decide_eq_true_iff, beq_iff_eq]
      show c = l ↔ (c : Int) = (l : Int)
      omega
    rw [e]
    clear hS
    go_enter Try.func30, Try.ntmps30
    go_wp2
    go_ret
    exact ⟨rfl, rfl⟩
  · have k0 : ((k : Int) == 0) = false := beq_eq_false_iff_ne.2 (by omega)
    by_cases h47 : c = 47
    · subst h47
      have e : PMatch.takes (tokOf k l S) 47 = false := by simp [PMatch.takes, tokOf, h0]
      rw [e]
      clear hS
      go_enter Try.func30, Try.ntmps30
      go_wp2
      go_ret
      exact ⟨rfl, rfl⟩
    · have c47 : ((c : Int) == 47) = false := beq_eq_false_iff_ne.2 (by omega)
      by_cases h2 : k = 2
      · subst h2
        have e : PMatch.takes (tokOf 2 l S) c = (bits BinOp.and IntKind.u64 (S (c / 64) / 2 ^ (c % 64)) 1 == 1) := by
          have hb := hS (c / 64) (by omega)
          rw [← bit_two_ways _ _ hb.1 hb.2 (by omega)]
          simp [PMatch.takes, tokOf, h47, hasS]
        rw [e]
        clear hS
        have hcell := set_cell w S (c / 64) (by omega)
        have hq : c / 64 < 4 := by omega
        go_enter Try.func30, Try.ntmps30
        go_wp2
        go_ret
        exact ⟨rfl, rfl⟩
      · have k2 : ((k : Int) == 2) = false := beq_eq_false_iff_ne.2 (by omega)
        have e : PMatch.takes (tokOf k l S) c = true := by simp [PMatch.takes, tokOf, h0, h47, h2]
        rw [e]
        clear hS
        go_enter Try.func30, Try.ntmps30
        go_wp2
        go_ret
        exact ⟨rfl, rfl⟩

/-- Token i's kind, off the list of tokens. -/
def tkind (ts : List PMatch.Tok) (i : Nat) : Nat := (ts.getD i ⟨0, 0, fun _ => false⟩).kind

theorem close_yes (ts : List PMatch.Tok) (a : Nat → Bool) (k : Nat) (h1 : PMatch.closeTo ts a k k = true) (h2 : PMatch.runK (tkind ts k) = true) (p : Nat) :
    PMatch.closeTo ts a (k + 1) p = if p = k + 1 then true else PMatch.closeTo ts a k p := by
  rw [PMatch.closeTo]
  split
  · rw [h1]; unfold tkind at h2; rw [h2]; simp
  · rfl
theorem close_no (ts : List PMatch.Tok) (a : Nat → Bool) (k : Nat) (h : PMatch.closeTo ts a k k = false ∨ PMatch.runK (tkind ts k) = false) (p : Nat) :
    PMatch.closeTo ts a (k + 1) p = PMatch.closeTo ts a k p := by
  rw [PMatch.closeTo]
  split
  · rename_i e
    subst e
    rcases h with h | h
    · rw [h]; simp
    · unfold tkind at h; rw [h]; simp
  · rfl

/-- Block b alone has turned; no block is new but behind the old ones. -/
theorem grown_set {w wr : World} {b : Nat} (h : w.grownBy wr (some b)) (i : Nat) (v : Value) : w.grownBy (wr.setCell ⟨b, i, none⟩ v) (some b) :=
  ⟨h.os, h.tape, h.output, by simpa [World.setCell] using h.size, fun k hk hne => (Below.heap_setCell _ _ _ _ (fun e => hne (by rw [e]))).trans (h.block k hk hne)⟩
theorem grown_refl (w : World) (r : Option Nat) : w.grownBy w r := ⟨rfl, rfl, rfl, Nat.le_refl _, fun _ _ _ => rfl⟩
theorem grown_cell {w wr : World} {b : Nat} (h : w.grownBy wr (some b)) {a : Addr} (hlt : a.block < w.heap.size) (hne : a.block ≠ b) : wr.cell? a = w.cell? a :=
  World.cell?_of_block (h.block _ hlt (fun e => hne (by simpa using e)))

set_option maxHeartbeats 800000 in
theorem close_any (ao : Option Addr) (m c0 bA : Nat) (K : List Nat) (ts : List PMatch.Tok) (a : Nat → Bool) (w : World) (hm : m ≤ 1048576) (hKl : K.length = m) (hts : ∀ i, i < m → tkind ts i = nth K i) (hK : ∀ i, i < m → nth K i ≤ 255)
    (hne : m ≠ 0 → ∀ b off, ao = some ⟨b, off, none⟩ → b ≠ bA) (hc : Rd w ao K) (hr : w.rowIs bA 4 (m + 1) (fun p => .bool (a p))) :
    Calls Try.prog 29 #[.slice ao m c0, .slice (some ⟨bA, 0, none⟩) (m + 1) (m + 1)] w fun e w' =>
      e = .returned (.tuple #[]) ∧ w'.rowIs bA 4 (m + 1) (fun p => .bool (PMatch.closeTo ts a m p)) ∧ w.grownBy w' (some bA) := by
  have Hc := hide hc
  have Hr := hide hr
  have Ht := hide hts
  have HK := hide hK
  have HN := hide hne
  have HL := hide hKl
  clear hc hr hts hK hne hKl
  go_enter Try.func29, Try.ntmps29
  go_wp2
  go_loopw [4] (fun i wr => ∃ k : Nat, k ≤ m ∧ i = .int .i64 k ∧ wr.rowIs bA 4 (m + 1) (fun p => .bool (PMatch.closeTo ts a k p)) ∧ w.grownBy wr (some bA)) (fun i _ => m - (intOf i).toNat)
  case atStart => exact ⟨0, Nat.zero_le _, rfl, unhide Hr, grown_refl _ _⟩
  case round =>
    obtain ⟨k, hk, rfl, hrow, hgr⟩ := hrel
    by_cases hlt : k < m
    · obtain ⟨b0, o0, rfl, hb0, hc0⟩ : ∃ b off, ao = some ⟨b, off, none⟩ ∧ b < w.heap.size ∧ ∀ i, i < K.length → w.cell? ⟨b, off + i, none⟩ = some (.int .u8 (nth K i)) := by
        rcases unhide Hc with h | h
        · have := unhide HL; simp [h] at this; omega
        · exact h
      have c1 : wr.cell? ⟨b0, o0 + k, none⟩ = some (.int .u8 (nth K k)) := by
        rw [grown_cell hgr (a := ⟨b0, o0 + k, none⟩) hb0 (unhide HN (by omega) _ _ rfl)]; exact hc0 k (by rw [unhide HL]; exact hlt)
      clear hc0
      have c2 := hrow.cell (i := k) (by omega)
      obtain ⟨v3, c3⟩ : ∃ v, wr.cell? ⟨bA, k + 1, none⟩ = some v := ⟨_, hrow.cell (by omega)⟩
      have f3 := hrow.frozen (k + 1)
      have hkI : (k : Int) < (m : Int) + 1 := by omega
      have hkI1 : (k : Int) + 1 < (m : Int) + 1 := by omega
      have hk255 := unhide HK k hlt
      by_cases ha : PMatch.closeTo ts a k k = true
      · by_cases hrk : PMatch.runK (nth K k) = true
        · go_wp2_with (go_at_call 36; refine (isRun_any _ _ hk255).mono ?_; rintro e w' ⟨rfl, rfl⟩)
          go_roundw
          case rel =>
            refine ⟨k + 1, by omega, by go_num, (hrow.set _ _).congr fun p _ => ?_, grown_set hgr _ _⟩
            rw [close_yes ts a k ha (by rw [unhide Ht k hlt]; exact hrk) p]
            split <;> rfl
          case measure => simp [intOf]; omega
        · have hrk' : PMatch.runK (nth K k) = false := by simpa using hrk
          go_wp2_with (go_at_call 36; refine (isRun_any _ _ hk255).mono ?_; rintro e w' ⟨rfl, rfl⟩)
          go_roundw
          case rel => exact ⟨k + 1, by omega, by go_num, hrow.congr fun p _ => by rw [close_no ts a k (.inr (by rw [unhide Ht k hlt]; exact hrk')) p], hgr⟩
          case measure => simp [intOf]; omega
      · have ha' : PMatch.closeTo ts a k k = false := by simpa using ha
        go_wp2
        go_roundw
        case rel => exact ⟨k + 1, by omega, by go_num, hrow.congr fun p _ => by rw [close_no ts a k (.inl ha') p], hgr⟩
        case measure => simp [intOf]; omega
    · go_wp2
      go_end0
      obtain rfl : k = m := by omega
      exact ⟨rfl, hrow, hgr⟩
end Go.Proofs.Qxb6605540a.Mt
