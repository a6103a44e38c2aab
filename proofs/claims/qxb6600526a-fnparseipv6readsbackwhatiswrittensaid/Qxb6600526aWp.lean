import Derived.Test.Qxb6600526aWo
import Derived.Test.Qxb6600526aWf
namespace Go.Proofs.Qxb6600526a
open Go.RowKit P6

/-- A store of sixteen bytes into a block that holds sixteen. -/
theorem store39 {ops : Array Oper} {rest : List Oper} {op : Oper} {a : Act} {w w0 : World} {Q : Exit → Act → World → Prop} {b B : Nat} {t : TypeId} {F G : Nat → Nat} (p y : Operand) (hgd : op.guard = none) (ho : op.op = .store 39 p y)
    (hx : a.eval p = .pointer (some ⟨b, 0, none⟩)) (hy : a.eval y = .agg (arr G)) (hB : Bytes w b t 16 F) (hb : Below B w0 w) (hbb : B ≤ b) (h : ∀ w', Hid (Bytes w' b t 16 G) → Hid (Below B w0 w') → wpList Try.prog ops Q rest (a.put op.dst undef) w') : wpList Try.prog ops Q (op :: rest) a w := by
  refine wpList_store_mid hgd 39 p y ho b 0 (arr G) hx hy (by
    intro j hj
    rw [arr_size] at hj
    rw [Nat.zero_add]
    exact ⟨by rw [World.rowIs.cell hB hj]; rfl, World.rowIs.frozen hB _⟩) (by rw [arr_size]; rfl) (by simp [arr]; intro x _; rfl) (h _ (bytes_put16 hB) (below_put16 hb hbb))
theorem results27 {w : World} {b : Nat} {t : TypeId} {G : Nat → Nat} (h : Bytes w b t 16 G) (tmps : Array Value) (hp : tmps.getD 2 undef = .pointer (some ⟨b, 0, none⟩)) :
    (results Try.f27 tmps).run Try.prog w = .ok (.tuple #[.agg (arr G), tmps.getD 3 undef]) w := by
  rw [results_cell_tmp rfl, hp]
  show (((loadVar 39 ⟨b, 0, none⟩).run Try.prog w).andThen _) = _
  rw [bytes_load h]; rfl

set_option maxRecDepth 100000 in
set_option maxHeartbeats 1000000 in
theorem zzParse_any (s : ByteArray) (w : World) (hs : s.size ≤ maxLen) (x : Option (List Nat)) (hx : p6 (L s) = x) :
    Calls Try.prog 27 #[.string s] w fun e w' => Said6 x w.heap.size w e w' := by
  have hB0 := hide (bytes_zero w)
  have hb0 := hide (Below.alloc (Below.refl w.heap.size w) (Nat.le_refl _) (.cells #[.int .u8 0, .int .u8 0, .int .u8 0, .int .u8 0, .int .u8 0, .int .u8 0, .int .u8 0, .int .u8 0, .int .u8 0, .int .u8 0, .int .u8 0, .int .u8 0, .int .u8 0, .int .u8 0, .int .u8 0, .int .u8 0] 39))
  have hsz : Hid (w.heap.size < (w.alloc (.cells #[.int .u8 0, .int .u8 0, .int .u8 0, .int .u8 0, .int .u8 0, .int .u8 0, .int .u8 0, .int .u8 0, .int .u8 0, .int .u8 0, .int .u8 0, .int .u8 0, .int .u8 0, .int .u8 0, .int .u8 0, .int .u8 0] 39)).heap.size) := hide (by rw [size_alloc]; omega)
  go_enter Try.func27, Try.ntmps27
  go_wp2_with fail
  generalize hW : w.alloc (.cells #[.int .u8 0, .int .u8 0, .int .u8 0, .int .u8 0, .int .u8 0, .int .u8 0, .int .u8 0, .int .u8 0, .int .u8 0, .int .u8 0, .int .u8 0, .int .u8 0, .int .u8 0, .int .u8 0, .int .u8 0, .int .u8 0] 39) = w2 at hB0 hb0 hsz ⊢
  clear hW
  refine (parseIPv6_any s w2 hs x hx).mono ?_
  rintro e' w3 ⟨G, rfl, hb, hG⟩
  have hG := hide hG
  have hB3 := hide ((unhide hB0).below hb (unhide hsz))
  have hb3 := hide ((unhide hb0).trans (hb.mono (Nat.le_of_lt (unhide hsz))))
  clear hb
  go_wp2_with (refine store39 (.tmp 2) (.tmp 6) rfl rfl rfl rfl (unhide hB3) (unhide hb3) (Nat.le_refl _) ?_; intro w5 hB5 hb5)
  refine bodyPost_ret (results27 (unhide hB5) _ rfl) rfl ?_
  exact ⟨G, rfl, unhide hb5, unhide hG⟩
end Go.Proofs.Qxb6600526a
