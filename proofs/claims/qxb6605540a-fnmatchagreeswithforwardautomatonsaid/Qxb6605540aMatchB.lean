/-
  The contracts of cloneU8, byteSet.has, token.matches.
-/
import Derived.Test.Qxb6605540aMatchA
namespace Go.Proofs.Qxb6605540a.Mt
open Go.RowKit

theorem info5 : (Try.prog.info? 5).map (fun i => (i.zero, i.size, i.bytes)) = some (some (.int .u8 0), 1, 1) := by kernel_rfl
theorem info4 : (Try.prog.info? 4).map (fun i => (i.zero, i.size, i.bytes)) = some (some (.bool false), 1, 1) := by kernel_rfl

set_option maxHeartbeats 400000 in
theorem cloneU8_nil (w : World) :
    Calls Try.prog 8 #[.slice none 0 0] w fun e w' => e = .returned (.slice none 0 0) ∧ w' = w := by
  have hnil := fun w' => Lib.run_eql_slice_nil (P := Try.prog) w' 22 5 none 0 0 0 0 Try.underlying22
  go_enter Try.func8, Try.ntmps8
  go_wp2
  go_ret
  exact ⟨rfl, rfl⟩

theorem copied {w : World} {b t n k : Nat} {L : List Nat} {v : Value} (h : w.rowIs b t n (fun j => if j < k then .int .u8 (nth L j) else .int .u8 0)) (hv : v = .int .u8 (nth L k)) :
    (w.setCell ⟨b, k, none⟩ v).rowIs b t n (fun j => if j < k + 1 then .int .u8 (nth L j) else .int .u8 0) := by
  subst hv
  refine (h.set k _).congr fun i hi => ?_
  by_cases e : i = k
  · subst e; simp
  · by_cases h2 : i < k
    · rw [if_neg e, if_pos h2, if_pos (by omega)]
    · rw [if_neg e, if_neg h2, if_neg (by omega)]

set_option maxHeartbeats 400000 in
theorem cloneU8_some (a : Addr) (n cap : Nat) (L : List Nat) (w : World) (hn : n ≤ 1048576) (hL : L.length = n) (hr : Rd w (some a) L) :
    Calls Try.prog 8 #[.slice (some a) n cap] w fun e w' => ∃ ao', e = .returned (.slice ao' n n) ∧ Rd w' ao' L ∧ Below w.heap.size w w' := by
  have hnil := fun w' => Lib.run_eql_slice_nil (P := Try.prog) w' 22 5 (some a) n cap 0 0 Try.underlying22
  have hmk := run_make_row' (P := Try.prog) 22 5 (.int .u8 0) 1 Try.underlying22 info5 rfl .i64 .i64 n (by omega) (by omega)
  have hs0 : (w.alloc (.cells (madeCells #[.int .u8 0] n) 5)).rowIs w.heap.size 5 n (fun _ => .int .u8 0) := World.rowIs_made w _ _ _
  by_cases h0 : n = 0
  · subst h0
    have hL0 : L = [] := List.length_eq_zero_iff.1 hL
    subst hL0
    clear hs0 hr hL
    rw [show ((0 : Nat) : Int) = 0 from rfl] at hmk
    go_enter Try.func8, Try.ntmps8
    go_wp2
    refine wp_loop_rounds 1 ?_
    rw [rounds_succ]
    go_wp2
    go_ret
    exact ⟨_, rfl, .inl rfl, (Below.refl _ _).alloc (Nat.le_refl _) _⟩
  · obtain ⟨b, off, ha, hblt, hc⟩ : ∃ b off, some a = some ⟨b, off, none⟩ ∧ b < w.heap.size ∧ ∀ i, i < L.length → w.cell? ⟨b, off + i, none⟩ = some (.int .u8 (nth L i)) := by
      rcases hr with h | h
      · simp [h] at hL; omega
      · exact h
    simp only [Option.some.injEq] at ha
    subst ha
    clear hr
    have HL := hide hL
    have Hc := hide hc
    have H0 := hide hs0
    clear hL hc hs0
    go_enter Try.func8, Try.ntmps8
    go_wp2
    go_loopw [4] (fun i wr => ∃ k : Nat, k ≤ n ∧ i = .int .i64 k ∧ Hid (wr.rowIs w.heap.size 5 n (fun j => if j < k then .int .u8 (nth L j) else .int .u8 0)) ∧ Hid (Below w.heap.size w wr)) (fun i _ => n - (intOf i).toNat)
    case atStart => exact ⟨0, Nat.zero_le _, rfl, hide ((unhide H0).congr fun i _ => by simp), hide ((Below.refl _ _).alloc (Nat.le_refl _) _)⟩
    case round =>
      obtain ⟨k, hk, rfl, hrow, hbel⟩ := hrel
      by_cases hlt : k < n
      · have hcell : wr.cell? ⟨b, off + k, none⟩ = some (.int .u8 (nth L k)) := by
          rw [(unhide hbel).cell (p := ⟨b, off + k, none⟩) hblt]; exact unhide Hc k (by rw [unhide HL]; omega)
        have hcell2 : wr.cell? ⟨w.heap.size, k, none⟩ = some (.int .u8 0) := by
          rw [(unhide hrow).cell hlt]; simp
        have hfz := (unhide hrow).frozen k
        go_wp2
        go_roundw
        case rel => exact ⟨k + 1, by omega, by go_num, hide (copied (unhide hrow) rfl), hide ((unhide hbel).setCell (Nat.le_refl _) _)⟩
        case measure => simp [intOf]; omega
      · go_wp2
        go_ret
        refine ⟨_, rfl, Rd.of_row (t := 5) ?_, unhide hbel⟩
        rw [unhide HL]
        exact (unhide hrow).congr fun i hi => by rw [if_pos (by omega)]

def hasS (S : Nat → Int) (c : Nat) : Bool := bits BinOp.and IntKind.u64 (S (c / 64)) (IntKind.u64.wrap (2 ^ (c % 64))) != 0
def tokOf (k b : Nat) (S : Nat → Int) : PMatch.Tok := ⟨k, b, hasS S⟩

set_option maxHeartbeats 400000 in
theorem has_any (b : Nat) (c : Nat) (S : Nat → Int) (T : TypeId) (w : World) (hc : c ≤ 255) (hr : w.rowIs b T 4 (fun k => .int .u64 (S k))) :
    Calls Try.prog 39 #[.pointer (some ⟨b, 0, none⟩), .int .u8 c] w fun e w' => e = .returned (.bool (hasS S c)) ∧ w' = w := by
  have hq : c / 64 < 4 := by omega
  have hcell := hr.cell hq
  go_enter Try.func39, Try.ntmps39
  go_wp2
  go_ret
  exact ⟨rfl, rfl⟩

set_option maxHeartbeats 400000 in
theorem matches_any (k l : Nat) (c : Nat) (b : Nat) (S : Nat → Int) (T : TypeId) (w : World) (hc : c ≤ 255) (_hk : k ≤ 255) (hr : w.rowIs b T 4 (fun k => .int .u64 (S k))) :
    Calls Try.prog 35 #[.agg #[.int .u8 k, .int .u8 l, .pointer (some ⟨b, 0, none⟩)], .int .u8 c] w fun e w' => e = .returned (.bool (PMatch.takes (tokOf k l S) c)) ∧ w' = w.alloc (.cells #[.int .u8 k, .int .u8 l, .pointer (some ⟨b, 0, none⟩)] 64) := by
  by_cases h0 : k = 0
  · subst h0
    have e : PMatch.takes (tokOf 0 l S) c = ((c : Int) == (l : Int)) := by
      unfold PMatch.takes tokOf
      rw [if_pos rfl, Bool.eq_iff_iff, decide_eq_true_iff, beq_iff_eq]
      show c = l ↔ (c : Int) = (l : Int)
      omega
    rw [e]
    go_enter Try.func35, Try.ntmps35
    go_wp2
    go_ret
    exact ⟨rfl, rfl⟩
  · by_cases h2 : k = 2
    · subst h2
      by_cases h47 : c = 47
      · subst h47
        have e : PMatch.takes (tokOf 2 l S) 47 = false := by simp [PMatch.takes, tokOf]
        rw [e]
        go_enter Try.func35, Try.ntmps35
        go_wp2
        go_ret
        exact ⟨rfl, rfl⟩
      · have hne : ((c : Int) != 47) = true := by simp; omega
        have e : PMatch.takes (tokOf 2 l S) c = hasS S c := by simp [PMatch.takes, tokOf, h47]
        rw [e]
        go_enter Try.func35, Try.ntmps35
        go_wp2_with (go_at_call 39; refine (has_any b c S T _ hc (by exact hr.alloc _)).mono ?_; rintro e w' ⟨rfl, rfl⟩)
        go_ret
        exact ⟨rfl, rfl⟩
    · have h0' : ((k : Int) == 0) = false := by simp; omega
      have h2' : ((k : Int) == 2) = false := by simp; omega
      have e : PMatch.takes (tokOf k l S) c = ((c : Int) != 47) := by
        rw [Bool.eq_iff_iff]; simp [PMatch.takes, tokOf, h0, h2]; omega
      rw [e]
      go_enter Try.func35, Try.ntmps35
      go_wp2
      go_ret
      exact ⟨rfl, rfl⟩
end Go.Proofs.Qxb6605540a.Mt
