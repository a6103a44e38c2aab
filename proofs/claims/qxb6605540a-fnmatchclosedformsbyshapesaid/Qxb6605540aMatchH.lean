/-
  The walk of FnMatchClosedFormsByShape, its length tests passed.
-/
import Derived.Test.Qxb6605540aMatchF
import Derived.Test.Qxb6605540aMatchG
namespace Go.Proofs.Qxb6605540a.Mt
open Go.RowKit
open PMatch (M)
theorem info29 : (Try.prog.info? 29).map (fun i => (i.zero, i.size, i.bytes)) = some (some (.agg #[.int .u64 0, .int .u64 0, .int .u64 0, .int .u64 0]), 4, 32) := by kernel_rfl
theorem run_make29 (n : Nat) (hn : n ≤ 1048576) (w : World) :
    (Instr.makeSlice 23 (.int .i64 (n : Int)) (.int .i64 (n : Int))).run Try.prog w = .ok (.slice (some ⟨w.heap.size, 0, none⟩) n n) (w.alloc (.cells (madeCells #[.int .u64 0, .int .u64 0, .int .u64 0, .int .u64 0] (n * 4)) 29)) := by
  obtain ⟨i, hi, hz, hs, hb⟩ := info_parts info29
  have := run_make (P := Try.prog) w 23 29 i _ Try.underlying23 hi hz .i64 .i64 n n (by omega) (Int.le_refl _) (by rw [hb]; omega) (by omega)
  rw [hs] at this
  exact this

/-- The rows that the law lays for itself, after k rounds of its copying loop. -/
structure Laid (w wr : World) (B n : Nat) (L : List Nat) (a1 : Option Addr) (k : Nat) : Prop where
  r0 : wr.rowIs B 5 n (fun _ => .int .u8 0)
  r1 : wr.rowIs (B + 1) 29 (n * 4) (fun _ => .int .u64 0)
  r2 : wr.rowIs (B + 1 + 1) 5 (n + 1) (fun i => .int .u8 (nth (3 :: List.replicate n 0) i))
  r3 : wr.rowIs (B + 1 + 1 + 1) 5 (n + 1) (fun i => if i < k + 1 then .int .u8 (nth (0 :: L) i) else .int .u8 0)
  r4 : wr.rowIs (B + 1 + 1 + 1 + 1) 29 ((n + 1) * 4) (fun _ => .int .u64 0)
  rd : Rd wr a1 L
  ge : w.heap.size ≤ B
  bel : Below w.heap.size w wr

theorem made29 (w : World) (n : Nat) : (w.alloc (.cells (madeCells #[.int .u64 0, .int .u64 0, .int .u64 0, .int .u64 0] (n * 4)) 29)).rowIs w.heap.size 29 (n * 4) (fun _ => .int .u64 0) := by
  refine ⟨_, Deep.blk_alloc_new _ _, size_madeCells _ _, fun i hi => ?_⟩
  simp only [madeCells, Array.getElem?_map, Array.getElem?_range, if_pos hi, Option.map_some]
  have h3 : i % 4 = 0 ∨ i % 4 = 1 ∨ i % 4 = 2 ∨ i % 4 = 3 := by omega
  rcases h3 with e | e | e | e <;> simp [e]

theorem laid_start {w w1 : World} {n : Nat} {L : List Nat} {a1 : Option Addr} (hR : Rd w1 a1 L) (hB : Below w.heap.size w w1) :
    Laid w (((((w1.alloc (.cells (madeCells #[.int .u8 0] n) 5)).alloc (.cells (madeCells #[.int .u64 0, .int .u64 0, .int .u64 0, .int .u64 0] (n * 4)) 29)).alloc
      (.cells ((madeCells #[.int .u8 0] (n + 1)).setIfInBounds 0 (.int .u8 3)) 5)).alloc (.cells (madeCells #[.int .u8 0] (n + 1)) 5)).alloc (.cells (madeCells #[.int .u64 0, .int .u64 0, .int .u64 0, .int .u64 0] ((n + 1) * 4)) 29)) w1.heap.size n L a1 0 := by
  have s1 : ∀ (W : World) (o : Obj), (W.alloc o).heap.size = W.heap.size + 1 := fun W o => Deep.nblk_alloc W o
  have e0 := World.rowIs_made w1 (.int .u8 0) n 5
  generalize hW0 : w1.alloc (.cells (madeCells #[.int .u8 0] n) 5) = W0 at *
  have z0 : W0.heap.size = w1.heap.size + 1 := by rw [← hW0, s1]
  have b0 : Below w.heap.size w W0 := by rw [← hW0]; exact hB.alloc hB.size _
  have d0 : Rd W0 a1 L := hR.below (by rw [← hW0]; exact (Below.refl _ _).alloc (Nat.le_refl _) _)
  have e1 := made29 W0 n
  have e0' := e0.alloc (.cells (madeCells #[.int .u64 0, .int .u64 0, .int .u64 0, .int .u64 0] (n * 4)) 29)
  generalize hW1 : W0.alloc (.cells (madeCells #[.int .u64 0, .int .u64 0, .int .u64 0, .int .u64 0] (n * 4)) 29) = W1 at *
  have z1 : W1.heap.size = w1.heap.size + 1 + 1 := by rw [← hW1, s1, z0]
  have b1 : Below w.heap.size w W1 := by rw [← hW1]; exact b0.alloc b0.size _
  have d1 : Rd W1 a1 L := d0.below (by rw [← hW1]; exact (Below.refl _ _).alloc (Nat.le_refl _) _)
  have e2 : (W1.alloc (.cells ((madeCells #[.int .u8 0] (n + 1)).setIfInBounds 0 (.int .u8 3)) 5)).rowIs W1.heap.size 5 (n + 1) (fun i => .int .u8 (nth (3 :: List.replicate n 0) i)) := by
    refine ⟨_, Deep.blk_alloc_new _ _, by simp [size_madeCells], fun i hi => ?_⟩
    rw [Array.getElem?_setIfInBounds]
    by_cases e : 0 = i
    · subst e; simp [size_madeCells, nth_cons_zero]
    · obtain ⟨j, rfl⟩ : ∃ j, i = j + 1 := ⟨i - 1, by omega⟩
      rw [if_neg e]
      show _ = some (Value.int .u8 (nth (3 :: List.replicate n 0) (j + 1)))
      rw [nth_cons_succ, nth_zeros]
      simp [madeCells, hi, Nat.mod_one]
  have e0'' := e0'.alloc (.cells ((madeCells #[.int .u8 0] (n + 1)).setIfInBounds 0 (.int .u8 3)) 5)
  have e1' := e1.alloc (.cells ((madeCells #[.int .u8 0] (n + 1)).setIfInBounds 0 (.int .u8 3)) 5)
  generalize hW2 : W1.alloc (.cells ((madeCells #[.int .u8 0] (n + 1)).setIfInBounds 0 (.int .u8 3)) 5) = W2 at *
  have z2 : W2.heap.size = w1.heap.size + 1 + 1 + 1 := by rw [← hW2, s1, z1]
  have b2 : Below w.heap.size w W2 := by rw [← hW2]; exact b1.alloc b1.size _
  have d2 : Rd W2 a1 L := d1.below (by rw [← hW2]; exact (Below.refl _ _).alloc (Nat.le_refl _) _)
  have e3 := World.rowIs_made W2 (.int .u8 0) (n + 1) 5
  have e0'' := e0''.alloc (.cells (madeCells #[.int .u8 0] (n + 1)) 5)
  have e1' := e1'.alloc (.cells (madeCells #[.int .u8 0] (n + 1)) 5)
  have e2' := e2.alloc (.cells (madeCells #[.int .u8 0] (n + 1)) 5)
  generalize hW3 : W2.alloc (.cells (madeCells #[.int .u8 0] (n + 1)) 5) = W3 at *
  have z3 : W3.heap.size = w1.heap.size + 1 + 1 + 1 + 1 := by rw [← hW3, s1, z2]
  have b3 : Below w.heap.size w W3 := by rw [← hW3]; exact b2.alloc b2.size _
  have d3 : Rd W3 a1 L := d2.below (by rw [← hW3]; exact (Below.refl _ _).alloc (Nat.le_refl _) _)
  have e4 := made29 W3 (n + 1)
  rw [z3] at e4
  rw [z2] at e3
  rw [z1] at e2'
  rw [z0] at e1'
  refine ⟨e0''.alloc _, e1'.alloc _, e2'.alloc _, (e3.alloc _).congr fun i _ => ?_, e4, d3.below ((Below.refl _ _).alloc (Nat.le_refl _) _), hB.size, b3.alloc b3.size _⟩
  by_cases e : i < 0 + 1
  · have : i = 0 := by omega
    subst this; rfl
  · rw [if_neg e]

theorem Laid.step {w wr : World} {B n k : Nat} {L : List Nat} {a1 : Option Addr} (h : Laid w wr B n L a1 k) (hrd : ∀ b off, a1 = some ⟨b, off, none⟩ → b ≠ B + 1 + 1 + 1) {v : Value} (hv : v = .int .u8 (nth L k)) :
    Laid w (wr.setCell ⟨B + 1 + 1 + 1, k + 1, none⟩ v) B n L a1 (k + 1) := by
  subst hv
  refine ⟨h.r0.setOther (by show _ ≠ B + 1 + 1 + 1; omega) _, h.r1.setOther (by show _ ≠ B + 1 + 1 + 1; omega) _, h.r2.setOther (by show _ ≠ B + 1 + 1 + 1; omega) _, ?_, h.r4.setOther (by show _ ≠ B + 1 + 1 + 1; omega) _, ?_, h.ge, h.bel.setCell (by have := h.ge; show _ ≤ B + 1 + 1 + 1; omega) _⟩
  · refine (h.r3.set (k + 1) _).congr fun i hi => ?_
    by_cases e : i = k + 1
    · subst e; rw [if_pos rfl, if_pos (by omega), nth_cons_succ]
    · by_cases h2 : i < k + 1
      · rw [if_neg e, if_pos h2, if_pos (by omega)]
      · rw [if_neg e, if_neg h2, if_neg (by omega)]
  · rcases h.rd with h0 | ⟨b, off, rfl, hlt, hc⟩
    · exact .inl h0
    · refine .inr ⟨b, off, rfl, by simpa [World.setCell] using hlt, fun i hi => ?_⟩
      rw [World.cell?_of_block (w := wr) (Below.heap_setCell _ _ _ _ (hrd b off rfl))]
      exact hc i hi

/-- What the law's calls read, all of it in place. -/
structure Facts (w W : World) (B C D n : Nat) (L : List Nat) (a1 : Option Addr) : Prop where
  k0 : Rd W (some ⟨B, 0, none⟩) (List.replicate n 0)
  s0 : RdS W (some ⟨B + 1, 0, none⟩) n Z0
  k3 : Rd W (some ⟨B + 1 + 1, 0, none⟩) (3 :: List.replicate n 0)
  l3 : Rd W (some ⟨B + 1 + 1 + 1, 0, none⟩) (0 :: L)
  s3 : RdS W (some ⟨B + 1 + 1 + 1 + 1, 0, none⟩) (n + 1) Z0
  rd : Rd W a1 L
  one : RdS W (some ⟨C, 0, none⟩) 1 Z0
  zero : Rd W (some ⟨D, 0, none⟩) [0]
  bel : Below w.heap.size w W

theorem Facts.below {w W W' : World} {B C D n : Nat} {L : List Nat} {a1 : Option Addr} (h : Facts w W B C D n L a1) (hb : Below W.heap.size W W') : Facts w W' B C D n L a1 :=
  ⟨h.k0.below hb, h.s0.below hb, h.k3.below hb, h.l3.below hb, h.s3.below hb, h.rd.below hb, h.one.below hb, h.zero.below hb, h.bel.trans (hb.mono h.bel.size)⟩
theorem Facts.alloc {w W : World} {B C D n : Nat} {L : List Nat} {a1 : Option Addr} (h : Facts w W B C D n L a1) (o : Obj) : Facts w (W.alloc o) B C D n L a1 :=
  h.below ((Below.refl _ _).alloc (Nat.le_refl _) _)

theorem rdS_row {w : World} {b : Nat} {t : TypeId} {n : Nat} (h : w.rowIs b t (n * 4) (fun _ => .int .u64 0)) : RdS w (some ⟨b, 0, none⟩) n Z0 :=
  .inr ⟨b, 0, rfl, h.lt, fun i hi k hk => by rw [Nat.zero_add]; exact h.cell (by omega)⟩
theorem rd_new (W : World) (x : Nat) : Rd (W.alloc (.cells #[.int .u8 x] 5)) (some ⟨W.heap.size, 0, none⟩) [x] := by
  refine Rd.of_row (t := 5) ?_
  refine World.rowIs_alloc W #[.int .u8 x] 5 _ fun i hi => ?_
  simp at hi
  subst hi
  rfl

theorem facts_start {w wr : World} {B n : Nat} {L : List Nat} {a1 : Option Addr} (h : Laid w wr B n L a1 n) (hL : L.length = n) :
    Facts w ((wr.alloc (.cells #[.int .u64 0, .int .u64 0, .int .u64 0, .int .u64 0] 29)).alloc (.cells #[.int .u8 0] 5)) B wr.heap.size (wr.heap.size + 1) n L a1 := by
  have e1 : (wr.alloc (.cells #[.int .u64 0, .int .u64 0, .int .u64 0, .int .u64 0] 29)).rowIs wr.heap.size 29 (1 * 4) (fun _ => .int .u64 0) := by
    refine World.rowIs_alloc wr #[.int .u64 0, .int .u64 0, .int .u64 0, .int .u64 0] 29 _ fun i hi => ?_
    simp at hi
    match i, hi with
    | 0, _ => rfl
    | 1, _ => rfl
    | 2, _ => rfl
    | 3, _ => rfl
  have e2 := rd_new (wr.alloc (.cells #[.int .u64 0, .int .u64 0, .int .u64 0, .int .u64 0] 29)) 0
  rw [Deep.nblk_alloc] at e2
  have b1 : Below wr.heap.size wr (wr.alloc (.cells #[.int .u64 0, .int .u64 0, .int .u64 0, .int .u64 0] 29)) := (Below.refl _ _).alloc (Nat.le_refl _) _
  generalize wr.alloc (.cells #[.int .u64 0, .int .u64 0, .int .u64 0, .int .u64 0] 29) = W at *
  have b2 : Below W.heap.size W (W.alloc (.cells #[.int .u8 0] 5)) := (Below.refl _ _).alloc (Nat.le_refl _) _
  refine ⟨?_, ?_, ?_, ?_, ?_, (h.rd.below b1).below b2, (rdS_row e1).below b2, e2, (h.bel.trans (b1.mono h.bel.size)).trans (b2.mono (Nat.le_trans h.bel.size b1.size))⟩
  · refine ((Rd.of_row (t := 5) ?_).below b1).below b2
    rw [List.length_replicate]
    exact h.r0.congr fun i _ => by rw [nth_zeros]; rfl
  · exact ((rdS_row h.r1).below b1).below b2
  · refine ((Rd.of_row (t := 5) ?_).below b1).below b2
    rw [List.length_cons, List.length_replicate]
    exact h.r2
  · refine ((Rd.of_row (t := 5) ?_).below b1).below b2
    rw [List.length_cons, hL]
    exact h.r3.congr fun i hi => by rw [if_pos (by omega)]
  · exact ((rdS_row h.r4).below b1).below b2

theorem sameText_at (x : Bool) (s : ByteArray) (ao : Option Addr) (n cap : Nat) (L : List Nat) (w : World) (hs : s.size ≤ 1048576) (hn : n ≤ 1048576) (hL : L.length = n) (hr : Rd w ao L) (hx : decide (bts s = L) = x) :
    Calls Try.prog 13 #[.string s, .slice ao n cap] w fun e w' => e = .returned (.bool x) ∧ Below w.heap.size w w' := by
  subst hx; exact sameText_any s ao n cap L w (by unfold maxLen; omega) (by unfold maxLen; omega) hL hr
theorem noSlash_at (x : Bool) (s : ByteArray) (w : World) (hs : s.size ≤ 1048576) (hx : noSl (bts s) = x) :
    Calls Try.prog 14 #[.string s] w fun e w' => e = .returned (.bool x) ∧ w' = w := by
  subst hx; exact noSlash_any s w (by unfold maxLen; omega)

theorem le_zeros (n : Nat) : ∀ i, i < n → nth (List.replicate n 0) i ≤ 255 := fun i _ => by rw [nth_zeros]; omega
theorem le_one (k : Nat) (h : k ≤ 255) : ∀ i, i < 1 → nth [k] i ≤ 255 := fun i hi => by
  have : i = 0 := by omega
  subst this; exact h
theorem le_star (n : Nat) : ∀ i, i < n + 1 → nth (3 :: List.replicate n 0) i ≤ 255 := fun i _ => by
  match i with
  | 0 => rw [nth_cons_zero]; omega
  | i + 1 => rw [nth_cons_succ, nth_zeros]; omega

set_option maxRecDepth 100000 in
set_option maxHeartbeats 4000000 in
theorem shape_walk (ao : Option Addr) (n cap : Nat) (L : List Nat) (s : ByteArray) (w : World) (hn : n ≤ 4096) (hs : s.size ≤ 4096) (hL : L.length = n)
    (hcl : Calls Try.prog 8 #[.slice ao n cap] w fun e w' => ∃ a1, e = .returned (.slice a1 n n) ∧ Rd w' a1 L ∧ Below w.heap.size w w') :
    Calls Try.prog 4 #[.slice ao n cap, .string s] w fun e w' => e = .returned (.bool true) ∧ Below w.heap.size w w' := by
  have HC := hide hcl
  have HL := hide hL
  clear hcl hL
  have hd : decide (n + s.size ≤ 1048576) = true := by simp; omega
  have d1 : decide ((4096 : Int) < (n : Int)) = false := by simp; omega
  have d2 : decide ((4096 : Int) < (s.size : Int)) = false := by simp; omega
  have mk1 := run_make_row' (P := Try.prog) 22 5 (.int .u8 0) 1 Try.underlying22 info5 rfl .i64 .i64 n (by omega) (by omega)
  have mk2 := run_make_row' (P := Try.prog) 22 5 (.int .u8 0) 1 Try.underlying22 info5 rfl .i64 .i64 (n + 1) (by omega) (by omega)
  rw [show ((n + 1 : Nat) : Int) = (n : Int) + 1 from by omega] at mk2
  have mk3 := run_make29 n (by omega)
  have mk4 := run_make29 (n + 1) (by omega)
  rw [show ((n + 1 : Nat) : Int) = (n : Int) + 1 from by omega] at mk4
  have hc0 : (madeCells #[Value.int .u8 0] (n + 1))[0]? = some (.int .u8 0) := by simp [madeCells, Nat.mod_one]
  go_enter Try.func4, Try.ntmps4
  go_wp2_with fail
  refine (closedBytes_any n cap ao s _ (by unfold maxLen; omega) (by unfold maxLen; omega)).mono ?_
  rintro e w' ⟨rfl, rfl⟩
  go_wp2_with fail
  refine (unhide HC).mono ?_
  rintro e w1 ⟨a1, rfl, hR, hB⟩
  have HS := hide (laid_start (n := n) hR hB)
  have HR := hide hR
  have HB := hide hB
  clear hR hB HC
  go_wp2
  go_loopw [11] (fun i wr => ∃ k : Nat, k ≤ n ∧ i = .int .i64 k ∧ Laid w' wr w1.heap.size n L a1 k) (fun i _ => n - (intOf i).toNat)
  case atStart => exact ⟨0, Nat.zero_le _, rfl, unhide HS⟩
  case round =>
    obtain ⟨k, hk, rfl, hLd⟩ := hrel
    clear HS hc0 mk1 mk2 mk3 mk4
    by_cases hlt : k < n
    · obtain ⟨b, off, rfl, hblt, hc⟩ : ∃ b off, a1 = some ⟨b, off, none⟩ ∧ b < w1.heap.size ∧ ∀ i, i < L.length → wr.cell? ⟨b, off + i, none⟩ = some (.int .u8 (nth L i)) := by
        have hne : L ≠ [] := by intro h; have := unhide HL; simp [h] at this; omega
        rcases unhide HR with h | ⟨b, off, e, hb, _⟩
        · exact absurd h hne
        · rcases hLd.rd with h | ⟨b', off', e', _, hc'⟩
          · exact absurd h hne
          · rw [e] at e'
            simp only [Option.some.injEq, Addr.mk.injEq, and_true] at e'
            obtain ⟨rfl, rfl⟩ := e'
            exact ⟨b, off, e, hb, hc'⟩
      have c1 : wr.cell? ⟨b, off + k, none⟩ = some (.int .u8 (nth L k)) := hc k (by rw [unhide HL]; exact hlt)
      have c2 : wr.cell? ⟨w1.heap.size + 1 + 1 + 1, k + 1, none⟩ = some (.int .u8 0) := by
        rw [hLd.r3.cell (by omega), if_neg (by omega)]
      have f2 := hLd.r3.frozen (k + 1)
      clear hc
      go_wp2
      go_roundw
      case rel => exact ⟨k + 1, by omega, by go_num, hLd.step (fun b' off' e => by simp at e; omega) rfl⟩
      case measure => simp [intOf]; omega
    · obtain rfl : k = n := by omega
      clear hlt hk
      have F := facts_start hLd (unhide HL)
      have F0 := hide F
      clear F hLd HR HB
      obtain ⟨x1, hx1⟩ : ∃ x, decide (bts s = L) = x := ⟨_, rfl⟩
      have HX1 := hide hx1
      clear hx1
      go_wp2_with fail
      refine (zzMatch_at x1 _ _ _ _ _ _ k (List.replicate k 0) L Z0 s _ (by omega) (by omega) (by simp) (unhide HL) (by exact (unhide F0).k0) (by exact (unhide F0).rd) (by exact (unhide F0).s0) (le_zeros k) (by have := m_lits L (bts s); rw [unhide HL] at this; rw [this]; exact unhide HX1)).mono ?_
      rintro e w2 ⟨rfl, hb2⟩
      have F1 := hide ((unhide F0).below hb2)
      clear hb2 F0
      have F0 := F1
      clear F1
      go_wp2_with fail
      refine (sameText_at x1 s _ _ _ L _ (by omega) (by omega) (unhide HL) (by exact (unhide F0).rd) (unhide HX1)).mono ?_
      rintro e w2 ⟨rfl, hb2⟩
      have F1 := hide ((unhide F0).below hb2)
      clear hb2 F0
      have F0 := F1
      clear F1
      go_wp2_with fail
      refine (zzMatch_at true _ _ _ _ _ _ 1 [4] [0] Z0 s _ (by omega) (by omega) (by simp) (by simp) (by exact rd_new _ 4) (by exact ((unhide F0).alloc _).zero) (by exact ((unhide F0).alloc _).one) (le_one 4 (by omega)) (m_path _)).mono ?_
      rintro e w2 ⟨rfl, hb2⟩
      have F1 := hide (((unhide F0).alloc _).below hb2)
      clear hb2 F0
      have F0 := F1
      clear F1
      obtain ⟨x2, hx2⟩ : ∃ x, noSl (bts s) = x := ⟨_, rfl⟩
      have HX2 := hide hx2
      clear hx2
      go_wp2_with fail
      refine (zzMatch_at x2 _ _ _ _ _ _ 1 [3] [0] Z0 s _ (by omega) (by omega) (by simp) (by simp) (by exact rd_new _ 3) (by exact ((unhide F0).alloc _).zero) (by exact ((unhide F0).alloc _).one) (le_one 3 (by omega)) (by rw [m_star]; exact unhide HX2)).mono ?_
      rintro e w2 ⟨rfl, hb2⟩
      have F1 := hide (((unhide F0).alloc _).below hb2)
      clear hb2 F0
      have F0 := F1
      clear F1
      go_wp2_with fail
      refine (noSlash_at x2 s _ (by omega) (unhide HX2)).mono ?_
      rintro e w2 ⟨rfl, hw2⟩
      subst hw2
      rcases (show s.size = 0 ∨ s.size = 1 ∨ 2 ≤ s.size by omega) with hc | hc | hc
      · have HCc := hide hc
        rcases (show s.size < k ∨ k ≤ s.size by omega) with hd2 | hd2
        · have hle : s.size ≤ 0 := by omega
          clear hc
          have e0 : ((s.size : Int) == 0) = true := beq_iff_eq.2 (by omega)
          have e1 : ((s.size : Int) == 1) = false := beq_eq_false_iff_ne.2 (by omega)
          go_wp2_with fail
          refine (zzMatch_at true _ _ _ _ _ _ 1 [5] [0] Z0 s _ (by omega) (by omega) (by simp) (by simp) (by exact rd_new _ 5) (by exact ((unhide F0).alloc _).zero) (by exact ((unhide F0).alloc _).one) (le_one 5 (by omega)) (m_dirs_empty s (by omega))).mono ?_
          rintro e w2 ⟨rfl, hb2⟩
          have F1 := hide (((unhide F0).alloc _).below hb2)
          clear hb2 F0
          have F0 := F1
          clear F1
          go_wp2_with fail
          refine (zzMatch_at false _ _ _ _ _ _ 1 [1] [0] Z0 s _ (by omega) (by omega) (by simp) (by simp) (by exact rd_new _ 1) (by exact ((unhide F0).alloc _).zero) (by exact ((unhide F0).alloc _).one) (le_one 1 (by omega)) (m_byte_not s (by omega))).mono ?_
          rintro e w2 ⟨rfl, hb2⟩
          have F1 := hide (((unhide F0).alloc _).below hb2)
          clear hb2 F0
          have F0 := F1
          clear F1
          go_wp2_with fail
          refine (zzMatch_at false _ _ _ _ _ _ (k + 1) (3 :: List.replicate k 0) (0 :: L) Z0 s _ (by omega) (by omega) (by simp) (by simp; exact unhide HL) (by exact (unhide F0).k3) (by exact (unhide F0).l3) (by exact (unhide F0).s3) (le_star k) (by have := m_sl_short L s (by rw [unhide HL]; omega); rw [unhide HL] at this; exact this)).mono ?_
          rintro e w2 ⟨rfl, hb2⟩
          have F1 := hide ((unhide F0).below hb2)
          clear hb2 F0
          have F0 := F1
          clear F1
          go_wp2
          go_ret
          exact ⟨rfl, (unhide F0).bel⟩
        · by_cases hy0 : bts (s.extract (s.size - k) s.size) = L
          · have hle : s.size ≤ 0 := by omega
            clear hc
            have hy := hide hy0
            clear hy0
            have e0 : ((s.size : Int) == 0) = true := beq_iff_eq.2 (by omega)
            have e1 : ((s.size : Int) == 1) = false := beq_eq_false_iff_ne.2 (by omega)
            go_wp2_with fail
            refine (zzMatch_at true _ _ _ _ _ _ 1 [5] [0] Z0 s _ (by omega) (by omega) (by simp) (by simp) (by exact rd_new _ 5) (by exact ((unhide F0).alloc _).zero) (by exact ((unhide F0).alloc _).one) (le_one 5 (by omega)) (m_dirs_empty s (by omega))).mono ?_
            rintro e w2 ⟨rfl, hb2⟩
            have F1 := hide (((unhide F0).alloc _).below hb2)
            clear hb2 F0
            have F0 := F1
            clear F1
            go_wp2_with fail
            refine (zzMatch_at false _ _ _ _ _ _ 1 [1] [0] Z0 s _ (by omega) (by omega) (by simp) (by simp) (by exact rd_new _ 1) (by exact ((unhide F0).alloc _).zero) (by exact ((unhide F0).alloc _).one) (le_one 1 (by omega)) (m_byte_not s (by omega))).mono ?_
            rintro e w2 ⟨rfl, hb2⟩
            have F1 := hide (((unhide F0).alloc _).below hb2)
            clear hb2 F0
            have F0 := F1
            clear F1
            go_wp2_with fail
            refine (sameText_at true (s.extract (s.size - k) s.size) _ _ _ L _ (by rw [ByteArray.size_extract]; omega) (by omega) (unhide HL) (by exact (unhide F0).rd) (by simp [unhide hy])).mono ?_
            rintro e w2 ⟨rfl, hb2⟩
            have F1 := hide ((unhide F0).below hb2)
            clear hb2 F0
            have F0 := F1
            clear F1
            obtain ⟨x3, hx3⟩ : ∃ x, noSl (bts (s.extract 0 (s.size - k))) = x := ⟨_, rfl⟩
            have HX3 := hide hx3
            clear hx3
            go_wp2_with fail
            refine (noSlash_at x3 (s.extract 0 (s.size - k)) _ (by rw [ByteArray.size_extract]; omega) (unhide HX3)).mono ?_
            rintro e w2 ⟨rfl, hw2⟩
            subst hw2
            go_wp2_with fail
            refine (zzMatch_at x3 _ _ _ _ _ _ (k + 1) (3 :: List.replicate k 0) (0 :: L) Z0 s _ (by omega) (by omega) (by simp) (by simp; exact unhide HL) (by exact (unhide F0).k3) (by exact (unhide F0).l3) (by exact (unhide F0).s3) (le_star k) (by have := m_sl_yes L s (by rw [unhide HL]; omega) (by rw [unhide HL]; exact unhide hy); rw [unhide HL] at this; rw [this]; exact unhide HX3)).mono ?_
            rintro e w2 ⟨rfl, hb2⟩
            have F1 := hide ((unhide F0).below hb2)
            clear hb2 F0
            have F0 := F1
            clear F1
            go_wp2
            go_ret
            exact ⟨rfl, (unhide F0).bel⟩
          · have hle : s.size ≤ 0 := by omega
            clear hc
            have hy := hide hy0
            clear hy0
            have e0 : ((s.size : Int) == 0) = true := beq_iff_eq.2 (by omega)
            have e1 : ((s.size : Int) == 1) = false := beq_eq_false_iff_ne.2 (by omega)
            go_wp2_with fail
            refine (zzMatch_at true _ _ _ _ _ _ 1 [5] [0] Z0 s _ (by omega) (by omega) (by simp) (by simp) (by exact rd_new _ 5) (by exact ((unhide F0).alloc _).zero) (by exact ((unhide F0).alloc _).one) (le_one 5 (by omega)) (m_dirs_empty s (by omega))).mono ?_
            rintro e w2 ⟨rfl, hb2⟩
            have F1 := hide (((unhide F0).alloc _).below hb2)
            clear hb2 F0
            have F0 := F1
            clear F1
            go_wp2_with fail
            refine (zzMatch_at false _ _ _ _ _ _ 1 [1] [0] Z0 s _ (by omega) (by omega) (by simp) (by simp) (by exact rd_new _ 1) (by exact ((unhide F0).alloc _).zero) (by exact ((unhide F0).alloc _).one) (le_one 1 (by omega)) (m_byte_not s (by omega))).mono ?_
            rintro e w2 ⟨rfl, hb2⟩
            have F1 := hide (((unhide F0).alloc _).below hb2)
            clear hb2 F0
            have F0 := F1
            clear F1
            go_wp2_with fail
            refine (sameText_at false (s.extract (s.size - k) s.size) _ _ _ L _ (by rw [ByteArray.size_extract]; omega) (by omega) (unhide HL) (by exact (unhide F0).rd) (by simp [unhide hy])).mono ?_
            rintro e w2 ⟨rfl, hb2⟩
            have F1 := hide ((unhide F0).below hb2)
            clear hb2 F0
            have F0 := F1
            clear F1
            go_wp2_with fail
            refine (zzMatch_at false _ _ _ _ _ _ (k + 1) (3 :: List.replicate k 0) (0 :: L) Z0 s _ (by omega) (by omega) (by simp) (by simp; exact unhide HL) (by exact (unhide F0).k3) (by exact (unhide F0).l3) (by exact (unhide F0).s3) (le_star k) (by have := m_sl_no L s (by rw [unhide HL]; exact unhide hy); rw [unhide HL] at this; exact this)).mono ?_
            rintro e w2 ⟨rfl, hb2⟩
            have F1 := hide ((unhide F0).below hb2)
            clear hb2 F0
            have F0 := F1
            clear F1
            go_wp2
            go_ret
            exact ⟨rfl, (unhide F0).bel⟩
      · have HCc := hide hc
        rcases (show s.size < k ∨ k ≤ s.size by omega) with hd2 | hd2
        · have hle : s.size ≤ 1 := by omega
          have hge : 1 ≤ s.size := by omega
          clear hc
          have e0 : ((s.size : Int) == 0) = false := beq_eq_false_iff_ne.2 (by omega)
          have e1 : ((s.size : Int) == 1) = true := beq_iff_eq.2 (by omega)
          have hsz1 : s.size - 1 < s.size := by omega
          go_wp2_with fail
          refine (zzMatch_at ((s[s.size - 1].toNat : Int) == 47) _ _ _ _ _ _ 1 [5] [0] Z0 s _ (by omega) (by omega) (by simp) (by simp) (by exact rd_new _ 5) (by exact ((unhide F0).alloc _).zero) (by exact ((unhide F0).alloc _).one) (le_one 5 (by omega)) (m_dirs s (by omega))).mono ?_
          rintro e w2 ⟨rfl, hb2⟩
          have F1 := hide (((unhide F0).alloc _).below hb2)
          clear hb2 F0
          have F0 := F1
          clear F1
          go_wp2_with fail
          refine (zzMatch_at ((s[0].toNat : Int) != 47) _ _ _ _ _ _ 1 [1] [0] Z0 s _ (by omega) (by omega) (by simp) (by simp) (by exact rd_new _ 1) (by exact ((unhide F0).alloc _).zero) (by exact ((unhide F0).alloc _).one) (le_one 1 (by omega)) (m_byte s (by omega))).mono ?_
          rintro e w2 ⟨rfl, hb2⟩
          have F1 := hide (((unhide F0).alloc _).below hb2)
          clear hb2 F0
          have F0 := F1
          clear F1
          go_wp2_with fail
          refine (zzMatch_at false _ _ _ _ _ _ (k + 1) (3 :: List.replicate k 0) (0 :: L) Z0 s _ (by omega) (by omega) (by simp) (by simp; exact unhide HL) (by exact (unhide F0).k3) (by exact (unhide F0).l3) (by exact (unhide F0).s3) (le_star k) (by have := m_sl_short L s (by rw [unhide HL]; omega); rw [unhide HL] at this; exact this)).mono ?_
          rintro e w2 ⟨rfl, hb2⟩
          have F1 := hide ((unhide F0).below hb2)
          clear hb2 F0
          have F0 := F1
          clear F1
          go_wp2
          go_ret
          exact ⟨rfl, (unhide F0).bel⟩
        · by_cases hy0 : bts (s.extract (s.size - k) s.size) = L
          · have hle : s.size ≤ 1 := by omega
            have hge : 1 ≤ s.size := by omega
            clear hc
            have hy := hide hy0
            clear hy0
            have e0 : ((s.size : Int) == 0) = false := beq_eq_false_iff_ne.2 (by omega)
            have e1 : ((s.size : Int) == 1) = true := beq_iff_eq.2 (by omega)
            have hsz1 : s.size - 1 < s.size := by omega
            go_wp2_with fail
            refine (zzMatch_at ((s[s.size - 1].toNat : Int) == 47) _ _ _ _ _ _ 1 [5] [0] Z0 s _ (by omega) (by omega) (by simp) (by simp) (by exact rd_new _ 5) (by exact ((unhide F0).alloc _).zero) (by exact ((unhide F0).alloc _).one) (le_one 5 (by omega)) (m_dirs s (by omega))).mono ?_
            rintro e w2 ⟨rfl, hb2⟩
            have F1 := hide (((unhide F0).alloc _).below hb2)
            clear hb2 F0
            have F0 := F1
            clear F1
            go_wp2_with fail
            refine (zzMatch_at ((s[0].toNat : Int) != 47) _ _ _ _ _ _ 1 [1] [0] Z0 s _ (by omega) (by omega) (by simp) (by simp) (by exact rd_new _ 1) (by exact ((unhide F0).alloc _).zero) (by exact ((unhide F0).alloc _).one) (le_one 1 (by omega)) (m_byte s (by omega))).mono ?_
            rintro e w2 ⟨rfl, hb2⟩
            have F1 := hide (((unhide F0).alloc _).below hb2)
            clear hb2 F0
            have F0 := F1
            clear F1
            go_wp2_with fail
            refine (sameText_at true (s.extract (s.size - k) s.size) _ _ _ L _ (by rw [ByteArray.size_extract]; omega) (by omega) (unhide HL) (by exact (unhide F0).rd) (by simp [unhide hy])).mono ?_
            rintro e w2 ⟨rfl, hb2⟩
            have F1 := hide ((unhide F0).below hb2)
            clear hb2 F0
            have F0 := F1
            clear F1
            obtain ⟨x3, hx3⟩ : ∃ x, noSl (bts (s.extract 0 (s.size - k))) = x := ⟨_, rfl⟩
            have HX3 := hide hx3
            clear hx3
            go_wp2_with fail
            refine (noSlash_at x3 (s.extract 0 (s.size - k)) _ (by rw [ByteArray.size_extract]; omega) (unhide HX3)).mono ?_
            rintro e w2 ⟨rfl, hw2⟩
            subst hw2
            go_wp2_with fail
            refine (zzMatch_at x3 _ _ _ _ _ _ (k + 1) (3 :: List.replicate k 0) (0 :: L) Z0 s _ (by omega) (by omega) (by simp) (by simp; exact unhide HL) (by exact (unhide F0).k3) (by exact (unhide F0).l3) (by exact (unhide F0).s3) (le_star k) (by have := m_sl_yes L s (by rw [unhide HL]; omega) (by rw [unhide HL]; exact unhide hy); rw [unhide HL] at this; rw [this]; exact unhide HX3)).mono ?_
            rintro e w2 ⟨rfl, hb2⟩
            have F1 := hide ((unhide F0).below hb2)
            clear hb2 F0
            have F0 := F1
            clear F1
            go_wp2
            go_ret
            exact ⟨rfl, (unhide F0).bel⟩
          · have hle : s.size ≤ 1 := by omega
            have hge : 1 ≤ s.size := by omega
            clear hc
            have hy := hide hy0
            clear hy0
            have e0 : ((s.size : Int) == 0) = false := beq_eq_false_iff_ne.2 (by omega)
            have e1 : ((s.size : Int) == 1) = true := beq_iff_eq.2 (by omega)
            have hsz1 : s.size - 1 < s.size := by omega
            go_wp2_with fail
            refine (zzMatch_at ((s[s.size - 1].toNat : Int) == 47) _ _ _ _ _ _ 1 [5] [0] Z0 s _ (by omega) (by omega) (by simp) (by simp) (by exact rd_new _ 5) (by exact ((unhide F0).alloc _).zero) (by exact ((unhide F0).alloc _).one) (le_one 5 (by omega)) (m_dirs s (by omega))).mono ?_
            rintro e w2 ⟨rfl, hb2⟩
            have F1 := hide (((unhide F0).alloc _).below hb2)
            clear hb2 F0
            have F0 := F1
            clear F1
            go_wp2_with fail
            refine (zzMatch_at ((s[0].toNat : Int) != 47) _ _ _ _ _ _ 1 [1] [0] Z0 s _ (by omega) (by omega) (by simp) (by simp) (by exact rd_new _ 1) (by exact ((unhide F0).alloc _).zero) (by exact ((unhide F0).alloc _).one) (le_one 1 (by omega)) (m_byte s (by omega))).mono ?_
            rintro e w2 ⟨rfl, hb2⟩
            have F1 := hide (((unhide F0).alloc _).below hb2)
            clear hb2 F0
            have F0 := F1
            clear F1
            go_wp2_with fail
            refine (sameText_at false (s.extract (s.size - k) s.size) _ _ _ L _ (by rw [ByteArray.size_extract]; omega) (by omega) (unhide HL) (by exact (unhide F0).rd) (by simp [unhide hy])).mono ?_
            rintro e w2 ⟨rfl, hb2⟩
            have F1 := hide ((unhide F0).below hb2)
            clear hb2 F0
            have F0 := F1
            clear F1
            go_wp2_with fail
            refine (zzMatch_at false _ _ _ _ _ _ (k + 1) (3 :: List.replicate k 0) (0 :: L) Z0 s _ (by omega) (by omega) (by simp) (by simp; exact unhide HL) (by exact (unhide F0).k3) (by exact (unhide F0).l3) (by exact (unhide F0).s3) (le_star k) (by have := m_sl_no L s (by rw [unhide HL]; exact unhide hy); rw [unhide HL] at this; exact this)).mono ?_
            rintro e w2 ⟨rfl, hb2⟩
            have F1 := hide ((unhide F0).below hb2)
            clear hb2 F0
            have F0 := F1
            clear F1
            go_wp2
            go_ret
            exact ⟨rfl, (unhide F0).bel⟩
      · have HCc := hide hc
        rcases (show s.size < k ∨ k ≤ s.size by omega) with hd2 | hd2
        · have e0 : ((s.size : Int) == 0) = false := beq_eq_false_iff_ne.2 (by omega)
          have e1 : ((s.size : Int) == 1) = false := beq_eq_false_iff_ne.2 (by omega)
          have hsz1 : s.size - 1 < s.size := by omega
          go_wp2_with fail
          refine (zzMatch_at ((s[s.size - 1].toNat : Int) == 47) _ _ _ _ _ _ 1 [5] [0] Z0 s _ (by omega) (by omega) (by simp) (by simp) (by exact rd_new _ 5) (by exact ((unhide F0).alloc _).zero) (by exact ((unhide F0).alloc _).one) (le_one 5 (by omega)) (m_dirs s (by omega))).mono ?_
          rintro e w2 ⟨rfl, hb2⟩
          have F1 := hide (((unhide F0).alloc _).below hb2)
          clear hb2 F0
          have F0 := F1
          clear F1
          go_wp2_with fail
          refine (zzMatch_at false _ _ _ _ _ _ 1 [1] [0] Z0 s _ (by omega) (by omega) (by simp) (by simp) (by exact rd_new _ 1) (by exact ((unhide F0).alloc _).zero) (by exact ((unhide F0).alloc _).one) (le_one 1 (by omega)) (m_byte_not s (by omega))).mono ?_
          rintro e w2 ⟨rfl, hb2⟩
          have F1 := hide (((unhide F0).alloc _).below hb2)
          clear hb2 F0
          have F0 := F1
          clear F1
          go_wp2_with fail
          refine (zzMatch_at false _ _ _ _ _ _ (k + 1) (3 :: List.replicate k 0) (0 :: L) Z0 s _ (by omega) (by omega) (by simp) (by simp; exact unhide HL) (by exact (unhide F0).k3) (by exact (unhide F0).l3) (by exact (unhide F0).s3) (le_star k) (by have := m_sl_short L s (by rw [unhide HL]; omega); rw [unhide HL] at this; exact this)).mono ?_
          rintro e w2 ⟨rfl, hb2⟩
          have F1 := hide ((unhide F0).below hb2)
          clear hb2 F0
          have F0 := F1
          clear F1
          go_wp2
          go_ret
          exact ⟨rfl, (unhide F0).bel⟩
        · by_cases hy0 : bts (s.extract (s.size - k) s.size) = L
          · have hy := hide hy0
            clear hy0
            have e0 : ((s.size : Int) == 0) = false := beq_eq_false_iff_ne.2 (by omega)
            have e1 : ((s.size : Int) == 1) = false := beq_eq_false_iff_ne.2 (by omega)
            have hsz1 : s.size - 1 < s.size := by omega
            go_wp2_with fail
            refine (zzMatch_at ((s[s.size - 1].toNat : Int) == 47) _ _ _ _ _ _ 1 [5] [0] Z0 s _ (by omega) (by omega) (by simp) (by simp) (by exact rd_new _ 5) (by exact ((unhide F0).alloc _).zero) (by exact ((unhide F0).alloc _).one) (le_one 5 (by omega)) (m_dirs s (by omega))).mono ?_
            rintro e w2 ⟨rfl, hb2⟩
            have F1 := hide (((unhide F0).alloc _).below hb2)
            clear hb2 F0
            have F0 := F1
            clear F1
            go_wp2_with fail
            refine (zzMatch_at false _ _ _ _ _ _ 1 [1] [0] Z0 s _ (by omega) (by omega) (by simp) (by simp) (by exact rd_new _ 1) (by exact ((unhide F0).alloc _).zero) (by exact ((unhide F0).alloc _).one) (le_one 1 (by omega)) (m_byte_not s (by omega))).mono ?_
            rintro e w2 ⟨rfl, hb2⟩
            have F1 := hide (((unhide F0).alloc _).below hb2)
            clear hb2 F0
            have F0 := F1
            clear F1
            go_wp2_with fail
            refine (sameText_at true (s.extract (s.size - k) s.size) _ _ _ L _ (by rw [ByteArray.size_extract]; omega) (by omega) (unhide HL) (by exact (unhide F0).rd) (by simp [unhide hy])).mono ?_
            rintro e w2 ⟨rfl, hb2⟩
            have F1 := hide ((unhide F0).below hb2)
            clear hb2 F0
            have F0 := F1
            clear F1
            obtain ⟨x3, hx3⟩ : ∃ x, noSl (bts (s.extract 0 (s.size - k))) = x := ⟨_, rfl⟩
            have HX3 := hide hx3
            clear hx3
            go_wp2_with fail
            refine (noSlash_at x3 (s.extract 0 (s.size - k)) _ (by rw [ByteArray.size_extract]; omega) (unhide HX3)).mono ?_
            rintro e w2 ⟨rfl, hw2⟩
            subst hw2
            go_wp2_with fail
            refine (zzMatch_at x3 _ _ _ _ _ _ (k + 1) (3 :: List.replicate k 0) (0 :: L) Z0 s _ (by omega) (by omega) (by simp) (by simp; exact unhide HL) (by exact (unhide F0).k3) (by exact (unhide F0).l3) (by exact (unhide F0).s3) (le_star k) (by have := m_sl_yes L s (by rw [unhide HL]; omega) (by rw [unhide HL]; exact unhide hy); rw [unhide HL] at this; rw [this]; exact unhide HX3)).mono ?_
            rintro e w2 ⟨rfl, hb2⟩
            have F1 := hide ((unhide F0).below hb2)
            clear hb2 F0
            have F0 := F1
            clear F1
            go_wp2
            go_ret
            exact ⟨rfl, (unhide F0).bel⟩
          · have hy := hide hy0
            clear hy0
            have e0 : ((s.size : Int) == 0) = false := beq_eq_false_iff_ne.2 (by omega)
            have e1 : ((s.size : Int) == 1) = false := beq_eq_false_iff_ne.2 (by omega)
            have hsz1 : s.size - 1 < s.size := by omega
            go_wp2_with fail
            refine (zzMatch_at ((s[s.size - 1].toNat : Int) == 47) _ _ _ _ _ _ 1 [5] [0] Z0 s _ (by omega) (by omega) (by simp) (by simp) (by exact rd_new _ 5) (by exact ((unhide F0).alloc _).zero) (by exact ((unhide F0).alloc _).one) (le_one 5 (by omega)) (m_dirs s (by omega))).mono ?_
            rintro e w2 ⟨rfl, hb2⟩
            have F1 := hide (((unhide F0).alloc _).below hb2)
            clear hb2 F0
            have F0 := F1
            clear F1
            go_wp2_with fail
            refine (zzMatch_at false _ _ _ _ _ _ 1 [1] [0] Z0 s _ (by omega) (by omega) (by simp) (by simp) (by exact rd_new _ 1) (by exact ((unhide F0).alloc _).zero) (by exact ((unhide F0).alloc _).one) (le_one 1 (by omega)) (m_byte_not s (by omega))).mono ?_
            rintro e w2 ⟨rfl, hb2⟩
            have F1 := hide (((unhide F0).alloc _).below hb2)
            clear hb2 F0
            have F0 := F1
            clear F1
            go_wp2_with fail
            refine (sameText_at false (s.extract (s.size - k) s.size) _ _ _ L _ (by rw [ByteArray.size_extract]; omega) (by omega) (unhide HL) (by exact (unhide F0).rd) (by simp [unhide hy])).mono ?_
            rintro e w2 ⟨rfl, hb2⟩
            have F1 := hide ((unhide F0).below hb2)
            clear hb2 F0
            have F0 := F1
            clear F1
            go_wp2_with fail
            refine (zzMatch_at false _ _ _ _ _ _ (k + 1) (3 :: List.replicate k 0) (0 :: L) Z0 s _ (by omega) (by omega) (by simp) (by simp; exact unhide HL) (by exact (unhide F0).k3) (by exact (unhide F0).l3) (by exact (unhide F0).s3) (le_star k) (by have := m_sl_no L s (by rw [unhide HL]; exact unhide hy); rw [unhide HL] at this; exact this)).mono ?_
            rintro e w2 ⟨rfl, hb2⟩
            have F1 := hide ((unhide F0).below hb2)
            clear hb2 F0
            have F0 := F1
            clear F1
            go_wp2
            go_ret
            exact ⟨rfl, (unhide F0).bel⟩
end Go.Proofs.Qxb6605540a.Mt
