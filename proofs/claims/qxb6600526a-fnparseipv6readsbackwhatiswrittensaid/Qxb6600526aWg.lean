import Derived.Test.Qxb6600526aWe
namespace Go.Proofs.Qxb6600526a
open Go.RowKit P6

theorem zero5 (w : World) : (zeroValue 5).run Try.prog w = .ok (.int .u8 0) w := by kernel_rfl
theorem bytes_of_arr {w : World} {b : Nat} {c : Array Value} {F : Nat → Nat} (h : w.heap[b]? = some (.cells c 39 (0, 0))) (hn : c.size = 16) (hc : ∀ i, i < 16 → c[i]? = some (.int .u8 (F i))) : Bytes w b 39 16 F := ⟨c, h, hn, hc⟩
theorem bytes_splice {w : World} {b k n m : Nat} {G : Nat → Nat} {cs : List Value} (h : w.heap[b]? = some (.cells (splice (arr G).toList m cs).toArray 39 (0, 0))) (hcs : cs = ((arr G).toList.drop k).take (n - k)) (hm : m = k + (16 - n)) (hk : k ≤ n) (hn : n ≤ 16) :
    Bytes w b 39 16 (fun i => if m ≤ i then G (i - (16 - n)) else G i) := by
  have hl : cs.length = n - k := by rw [hcs]; simp [arr_size]; omega
  have hL : (arr G).toList.length = 16 := by simp [arr_size]
  have hget : ∀ j, j < 16 → (arr G).toList[j]? = some (.int .u8 (G j)) := fun j hj => by rw [Array.getElem?_toList]; exact arr_get G j hj
  refine bytes_of_arr h ?_ ?_
  · rw [List.size_toArray, length_splice]
    · exact hL
    · omega
  · intro i hi
    rw [List.getElem?_toArray]
    unfold splice
    have hT : ((arr G).toList.take m).length = m := by rw [List.length_take, hL]; omega
    by_cases hmi : m ≤ i
    · rw [if_pos hmi, List.getElem?_append_right (by omega), hT, List.getElem?_append_left (by omega)]
      rw [hcs, List.getElem?_take_of_lt (by omega), List.getElem?_drop, hget _ (by omega)]
      congr 4
      omega
    · rw [if_neg hmi, List.getElem?_append_left (by omega), List.getElem?_take_of_lt (by omega)]
      exact hget i hi
theorem bytes_clear {b : Nat} : ∀ (d k : Nat) (w : World) (F : Nat → Nat), Bytes w b 39 16 F → Bytes (w.setCells b k (List.replicate d (.int .u8 0))) b 39 16 (fun i => if k ≤ i ∧ i < k + d then 0 else F i)
  | 0, k, w, F, h => World.rowIs.congr h fun i _ => by simp only; rw [if_neg (by omega)]
  | d + 1, k, w, F, h => by
    have h1 := bytes_clear d (k + 1) (w.setCell ⟨b, k, none⟩ (.int .u8 0)) _ (h.set k 0 rfl rfl)
    refine World.rowIs.congr h1 fun i _ => ?_
    by_cases h2 : k + 1 ≤ i ∧ i < k + 1 + d
    · simp only [if_pos h2, if_pos (show k ≤ i ∧ i < k + (d + 1) by omega)]
    · by_cases h3 : i = k
      · subst h3; simp only [if_neg h2, if_true, if_pos (show i ≤ i ∧ i < i + (d + 1) by omega)]
      · simp only [if_neg h2, if_neg h3, if_neg (show ¬ (k ≤ i ∧ i < k + (d + 1)) by omega)]
theorem below_clear {b B : Nat} {w0 : World} (hb : B ≤ b) : ∀ (vs : List Value) (k : Nat) (w : World), Below B w0 w → Below B w0 (w.setCells b k vs)
  | [], _, _, h => h
  | _ :: vs, k, _, h => below_clear hb vs (k + 1) _ (below_set h hb)
theorem run_clear6 {w : World} {b k m : Nat} {F : Nat → Nat} (h : Bytes w b 39 16 F) (hk : k < m) (hm : m ≤ 16) (c : Nat) (ty : TypeId) :
    (Builtin.clear_ #[25] ty #[.slice (some ⟨b, k, none⟩) (m - k) c]).run Try.prog w = .ok (.tuple #[]) (w.setCells b k (List.replicate (m - k) (.int .u8 0))) :=
  Lib.run_clear_slice w 25 5 ty (.int .u8 0) Try.underlying25 zero5 rfl rfl b k (m - k) c (by omega)
    (fun j hj => by rw [World.rowIs.cell h (by omega)]; rfl) (fun j _ => World.rowIs.frozen h _)
end Go.Proofs.Qxb6600526a
