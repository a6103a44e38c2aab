import Derived.Test.Qxb6600526aWd
import Derived.Deep.MidRow
import Derived.Laws.ResultCell
import Derived.Laws.CopyOwn
import Derived.Lib.SliceRun
import Derived.BigFrame
namespace Go.Proofs.Qxb6600526a
open Go.RowKit P6

/-- Sixteen bytes as a value. -/
def arr (G : Nat → Nat) : Array Value := ((List.range 16).map fun i => Value.int .u8 (G i)).toArray
theorem arr_get (G : Nat → Nat) (i : Nat) (h : i < 16) : (arr G)[i]? = some (.int .u8 (G i)) := by
  unfold arr; simp [h]
theorem arr_size (G : Nat → Nat) : (arr G).size = 16 := by simp [arr]
theorem bytes_arr {w : World} {b : Nat} {t : TypeId} {G : Nat → Nat} (h : Bytes w b t 16 G) : w.heap[b]? = some (.cells (arr G) t (0, 0)) := by
  obtain ⟨c, hb, hn, hc⟩ := h
  rw [hb]
  congr 2
  apply Array.ext
  · rw [hn, arr_size]
  · intro i h1 h2
    have h3 := hc i (by omega)
    have h4 := arr_get G i (by omega)
    rw [Array.getElem?_eq_getElem h1] at h3
    rw [Array.getElem?_eq_getElem h2] at h4
    rw [Option.some.inj h3, Option.some.inj h4]
theorem bytes_range {w : World} {b : Nat} {t : TypeId} {G : Nat → Nat} (h : Bytes w b t 16 G) : w.rangeAt b 0 (arr G).toList := by
  intro j v hv
  have hj : j < 16 := by
    have := (List.getElem?_eq_some_iff.1 hv).1
    simpa [arr_size] using this
  have := arr_get G j hj
  rw [Array.getElem?_toList] at hv
  rw [hv] at this
  rw [Nat.zero_add, World.rowIs.cell h hj, this]
theorem bytes_load {w : World} {b : Nat} {t : TypeId} {G : Nat → Nat} (h : Bytes w b t 16 G) :
    (loadVar 39 ⟨b, 0, none⟩).run Try.prog w = .ok (.agg (arr G)) w := by
  have := run_loadVar_mid (P := Try.prog) w b 0 39 (arr G).toList _ (bytes_range h) Try.underlying39 rfl rfl
  simpa using this
theorem bytes_loadAt {w : World} {b : Nat} {t : TypeId} {G : Nat → Nat} (h : Bytes w b t 16 G) :
    (Instr.loadAt 39 (.pointer (some ⟨b, 0, none⟩))).run Try.prog w = .ok (.agg (arr G)) w := by
  have := run_loadAt_mid (P := Try.prog) w b 0 39 (arr G).toList _ (bytes_range h) Try.underlying39 rfl rfl
  simpa using this
theorem setCell_self {w : World} {b i : Nat} {v : Value} {c : Array Value} {t : TypeId} (hb : w.heap[b]? = some (.cells c t (0, 0))) (h : c[i]? = some v) : w.setCell ⟨b, i, none⟩ v = w := by
  have e : (w.setCell ⟨b, i, none⟩ v).heap = w.heap := by
    apply Array.ext_getElem?
    intro k
    by_cases hk : k = b
    · subst hk
      rw [heap_setCell_same w k i c t v hb, hb]
      congr 2
      apply Array.ext_getElem?
      intro j
      rw [Array.getElem?_setIfInBounds]
      split
      · rename_i hj
        subst hj
        split
        · exact h.symm
        · rename_i hn
          rw [Array.getElem?_eq_none (by omega)] at h
          cases h
      · rfl
    · exact Go.Deep.blk_setCell_other _ _ _ _ hk
  have e2 : w.setCell ⟨b, i, none⟩ v = { w with heap := (w.setCell ⟨b, i, none⟩ v).heap } := rfl
  rw [e2, e]
theorem setCells_self {w : World} {b : Nat} {c : Array Value} {t : TypeId} (hb : w.heap[b]? = some (.cells c t (0, 0))) : ∀ (vs : List Value) (o : Nat), (∀ j v, vs[j]? = some v → c[o + j]? = some v) → w.setCells b o vs = w
  | [], o, _ => rfl
  | v :: vs, o, h => by
    rw [World.setCells, setCell_self (i := o) hb (by simpa using h 0 v rfl)]
    exact setCells_self hb vs (o + 1) fun j u hu => by rw [Nat.add_assoc, Nat.add_comm 1 j]; exact h (j + 1) u (by simpa using hu)
theorem bytes_storeAt {w : World} {b : Nat} {t : TypeId} {G : Nat → Nat} (h : Bytes w b t 16 G) :
    (Instr.storeAt 39 (.pointer (some ⟨b, 0, none⟩)) (.agg (arr G))).run Try.prog w = .ok () w := by
  have := run_storeAt_mid (P := Try.prog) w b 0 39 (arr G) (by
    intro j hj
    rw [arr_size] at hj
    rw [Nat.zero_add]
    exact ⟨by rw [World.rowIs.cell h hj]; rfl, World.rowIs.frozen h _⟩) (by rw [arr_size]; rfl) (by simp [arr]; intro x _; rfl)
  rw [this, setCells_self (bytes_arr h)]
  intro j v hv
  rw [Nat.zero_add]
  simpa using hv
theorem bytes_results {w : World} {b : Nat} {t : TypeId} {G : Nat → Nat} (h : Bytes w b t 16 G) (tmps : Array Value) (hp : tmps.getD 2 undef = .pointer (some ⟨b, 0, none⟩)) :
    (results Try.f35 tmps).run Try.prog w = .ok (.tuple #[.agg (arr G), tmps.getD 3 undef]) w := by
  rw [results_cell_tmp rfl, hp]
  show (((loadVar 39 ⟨b, 0, none⟩).run Try.prog w).andThen _) = _
  rw [bytes_load h]; rfl

/-- What parseIPv6 answers: sixteen bytes and whether it has read the text; where it has, the bytes are those of the plain reading. -/
def Said6 (x : Option (List Nat)) (B : Nat) (w : World) (e : Ending) (w' : World) : Prop :=
  ∃ G : Nat → Nat, e = .returned (.tuple #[.agg (arr G), .bool x.isSome]) ∧ Below B w w' ∧ ∀ q, x = some q → ∀ i, i < 16 → G i = q.getD i 0

theorem bytes_zero (w : World) : Bytes (w.alloc (.cells #[.int .u8 0, .int .u8 0, .int .u8 0, .int .u8 0, .int .u8 0, .int .u8 0, .int .u8 0, .int .u8 0, .int .u8 0, .int .u8 0, .int .u8 0, .int .u8 0, .int .u8 0, .int .u8 0, .int .u8 0, .int .u8 0] 39)) w.heap.size 39 16 (fun _ => 0) := by
  refine World.rowIs_alloc w _ _ _ fun i hi => ?_
  have : i < 16 := hi
  rcases (by omega : i = 0 ∨ i = 1 ∨ i = 2 ∨ i = 3 ∨ i = 4 ∨ i = 5 ∨ i = 6 ∨ i = 7 ∨ i = 8 ∨ i = 9 ∨ i = 10 ∨ i = 11 ∨ i = 12 ∨ i = 13 ∨ i = 14 ∨ i = 15) with rfl | rfl | rfl | rfl | rfl | rfl | rfl | rfl | rfl | rfl | rfl | rfl | rfl | rfl | rfl | rfl <;> rfl

theorem ret_load {ops : Array Oper} {rest : List Oper} {op : Oper} {a : Act} {w : World} {Q : Exit → Act → World → Prop} {b : Nat} {t : TypeId} {G : Nat → Nat} (hgd : op.guard = none) (ho : op.op = .load 39 (.tmp 2))
    (hx : a.eval (.tmp 2) = .pointer (some ⟨b, 0, none⟩)) (hB : Bytes w b t 16 G) (h : wpList Try.prog ops Q rest (a.put op.dst (.agg (arr G))) w) : wpList Try.prog ops Q (op :: rest) a w :=
  wpList_load_mid hgd 39 (.tmp 2) ho b 0 hx (arr G).toList _ (bytes_range hB) Try.underlying39 rfl rfl (by simpa using h)
theorem ret_store {ops : Array Oper} {rest : List Oper} {op : Oper} {a : Act} {w : World} {Q : Exit → Act → World → Prop} {b : Nat} {t : TypeId} {G : Nat → Nat} {y : Operand} (hgd : op.guard = none) (ho : op.op = .store 39 (.tmp 2) y)
    (hx : a.eval (.tmp 2) = .pointer (some ⟨b, 0, none⟩)) (hy : a.eval y = .agg (arr G)) (hB : Bytes w b t 16 G) (h : wpList Try.prog ops Q rest (a.put op.dst undef) w) : wpList Try.prog ops Q (op :: rest) a w := by
  refine wpList_store_mid hgd 39 (.tmp 2) y ho b 0 (arr G) hx hy (by
    intro j hj
    rw [arr_size] at hj
    rw [Nat.zero_add]
    exact ⟨by rw [World.rowIs.cell hB hj]; rfl, World.rowIs.frozen hB _⟩) (by rw [arr_size]; rfl) (by simp [arr]; intro x _; rfl) ?_
  rw [setCells_self (bytes_arr hB)]
  · exact h
  · intro j v hv
    rw [Nat.zero_add]
    simpa using hv

theorem size5 (W : World) : (sizeOf (Try.prog.elem 39)).run Try.prog W = .ok 1 W := by kernel_rfl
theorem cut_lo (b m : Nat) (hm : m < 16) (W : World) : Sem.run Try.prog (Instr.sliceAt 39 (.pointer (some ⟨b, 0, none⟩)) (some (.int .i64 (m : Int))) none none) W = .ok (.slice (some ⟨b, m, none⟩) (16 - m) (16 - m)) W := by
  have hl : Try.prog.arrayLen 39 = 16 := by kernel_rfl
  rw [run_sliceAt_array_l W 39 ⟨b, 0, none⟩ Try.underlying39 .i64 m (by omega) (by rw [hl]; omega), size5, hl]
  show Result.ok (slicedAt ⟨b, 0, none⟩ (Int.toNat m) 16 16 1) W = _
  unfold slicedAt
  rw [Int.toNat_natCast, if_neg (by omega), Nat.mul_one, Addr.add_mid, Nat.zero_add]
theorem cut_lohi (b l h : Nat) (hl : l ≤ h) (hh : h ≤ 16) (h16 : l < 16) (W : World) : Sem.run Try.prog (Instr.sliceAt 39 (.pointer (some ⟨b, 0, none⟩)) (some (.int .i64 (l : Int))) (some (.int .i64 (h : Int))) none) W = .ok (.slice (some ⟨b, l, none⟩) (h - l) (16 - l)) W := by
  have hL : Try.prog.arrayLen 39 = 16 := by kernel_rfl
  rw [run_sliceAt_array_lh W 39 ⟨b, 0, none⟩ Try.underlying39 .i64 .i64 l h (by omega) (by omega) (by rw [hL]; omega), size5, hL]
  show Result.ok (slicedAt ⟨b, 0, none⟩ (Int.toNat l) (Int.toNat h) 16 1) W = _
  unfold slicedAt
  rw [Int.toNat_natCast, Int.toNat_natCast, if_neg (by omega), Nat.mul_one, Addr.add_mid, Nat.zero_add]
theorem cut_16 (b : Nat) (W : World) : Sem.run Try.prog (Instr.sliceAt 39 (.pointer (some ⟨b, 0, none⟩)) (some (.int .i64 16)) none none) W = .ok (.slice (some ⟨b, 0, none⟩) 0 0) W := by
  have hl : Try.prog.arrayLen 39 = 16 := by kernel_rfl
  rw [run_sliceAt_array_l W 39 ⟨b, 0, none⟩ Try.underlying39 .i64 16 (by omega) (by rw [hl]; omega), size5, hl]
  rfl

/-- The gap's number. -/
def gapV : Option Nat → Int
  | some k => k
  | none => -1

/-- What holds at the loop's head. -/
structure Rel6 (x : Option (List Nat)) (w wr : World) (g : Option Nat) (o : List Nat) (l : List UInt8) : Prop where
  len : o.length ≤ 16
  even : o.length % 2 = 0
  gap : ∀ k, g = some k → k ≤ o.length
  bel : Below w.heap.size w wr
  row : ∃ G : Nat → Nat, Bytes wr w.heap.size 39 16 G ∧ ∀ i, i < o.length → G i = o.getD i 0
  run : ∃ f, 18 ≤ o.length + 2 * f ∧ (lp f g o l).bind fin = x
end Go.Proofs.Qxb6600526a
