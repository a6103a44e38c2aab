/-
  The proof of 'Rows.FnMatchClosedFormsByShapeSaid': the frame is the seat's shell; the walks lie in Qxb6605540aMatchA .. H, the plain law in Qxb6605540aPMatch.
-/
import Derived.Test.Qxb6605540aRows
import Derived.WalkKit
import Derived.ProofKit
import Derived.OpenShut
import Derived.ShutString
import Derived.ChangeOld
import Derived.Below
import Derived.Test.Qxb6605540aMatchH
namespace Go.Proofs.Qxb6605540a.fnMatchClosedFormsByShape
open Go.ChangeShapes Go.WideShapes Go.ChangeAt Go.RowKit
open Go.ChangeMaps (open_string shut_string)
set_option linter.unusedVariables false

theorem own : ownKnob Try.prog.godebug = none := by kernel_rfl
theorem laidOut : laidOutB Try.prog = true := by kernel_rfl

/-- WHAT THE WALK IS TOLD OF A SLICE OF INTEGERS THAT CAME IN: it is nil; or it leads to a row of 'cap' cells, the numbers 'zs' (the first 'len' are its elements, the rest its spare room), each fitting its kind. -/
def IsRow (k : IntKind) (w : World) (a : Option Addr) (len cap : Nat) (zs : List Int) : Prop :=
  (a = none ∧ len = 0 ∧ cap = 0 ∧ zs = []) ∨
  ∃ x, a = some x ∧ len ≤ cap ∧ cap ≤ maxLen ∧ zs.length = cap ∧ (∀ i, i < zs.length → w.cell? (x.add i) = some (.int k (zs.getD i 0))) ∧ ∀ n ∈ zs, (Lit.int k n).wf = true

theorem bounds8 {z : Int} (h : (Lit.int .u8 z).wf = true) : 0 ≤ z ∧ z ≤ 255 := bounds_u8 h

/-- The row that came in, as bytes. -/
theorem rd_of {w : World} {x : Addr} {len cap : Nat} {zs : List Int} (hl : len ≤ cap) (hz : zs.length = cap)
    (hc : ∀ i, i < zs.length → w.cell? (x.add i) = some (.int .u8 (zs.getD i 0))) (hw : ∀ n ∈ zs, (Lit.int .u8 n).wf = true) : Mt.Rd w (some x) ((zs.take len).map Int.toNat) := by
  by_cases h0 : len = 0
  · left; subst h0; simp
  · right
    obtain ⟨b, off, spot⟩ := x
    have c0 := hc 0 (by omega)
    have hspot : spot = none := by simpa [Addr.add] using World.cell?_spot c0
    subst hspot
    refine ⟨b, off, rfl, World.block_lt_of_cell? w _ c0, fun i hi => ?_⟩
    have hi' : i < len := by simp at hi; omega
    have hiz : i < zs.length := by omega
    have := hc i hiz
    rw [add_plain] at this
    rw [this]
    have e1 : zs.getD i 0 = zs[i] := by simp [List.getD, List.getElem?_eq_getElem hiz]
    have hb := bounds8 (hw _ (List.getElem_mem hiz))
    have e2 : Mt.nth ((zs.take len).map Int.toNat) i = zs[i].toNat := by
      simp [Mt.nth, List.getD, hi', List.getElem?_eq_getElem hiz]
    rw [e1, e2, Int.toNat_of_nonneg hb.1]

/-! ### STEP 1: THE WALK -/
set_option maxRecDepth 100000 in
set_option maxHeartbeats 400000 in
theorem over_long (a0 : Option Addr) (len0 cap0 : Nat) (a1 : ByteArray) (w : World) (hm0 : len0 ≤ maxLen) (w1 : a1.size ≤ maxLen) (h : 4096 < len0 ∨ 4096 < a1.size) :
    Calls Try.prog 4 #[.slice a0 len0 cap0, .string a1] w fun e w' => e = .returned (.bool true) ∧ Below w.heap.size w w' := by
  by_cases hb : len0 + a1.size ≤ 1048576
  · have hd : decide (len0 + a1.size ≤ 1048576) = true := by simpa using hb
    by_cases h1 : 4096 < len0
    · go_enter Try.func4, Try.ntmps4
      go_wp2_with fail
      refine (Mt.closedBytes_any len0 cap0 a0 a1 _ hm0 w1).mono ?_
      rintro e w' ⟨rfl, rfl⟩
      go_wp2
      go_ret
      exact ⟨rfl, Below.refl _ _⟩
    · have h2 : 4096 < a1.size := by omega
      go_enter Try.func4, Try.ntmps4
      go_wp2_with fail
      refine (Mt.closedBytes_any len0 cap0 a0 a1 _ hm0 w1).mono ?_
      rintro e w' ⟨rfl, rfl⟩
      go_wp2
      go_ret
      exact ⟨rfl, Below.refl _ _⟩
  · have hd : decide (len0 + a1.size ≤ 1048576) = false := by simpa using hb
    go_enter Try.func4, Try.ntmps4
    go_wp2_with fail
    refine (Mt.closedBytes_any len0 cap0 a0 a1 _ hm0 w1).mono ?_
    rintro e w' ⟨rfl, rfl⟩
    go_wp2
    go_ret
    exact ⟨rfl, Below.refl _ _⟩

theorem walk (a0 : Option Addr) (len0 cap0 : Nat) (z0 : List Int) (a1 : ByteArray) (w : World) (w0 : IsRow .u8 w a0 len0 cap0 z0) (w1 : a1.size ≤ maxLen) :
    Calls Try.prog 4 #[.slice a0 len0 cap0, .string a1] w fun e w' => e = .returned (.bool true) ∧ Below w.heap.size w w' := by
  have hm0 : len0 ≤ maxLen := by
    rcases w0 with ⟨_, rfl, _⟩ | ⟨x, _, hl, hm, _⟩
    · exact Nat.zero_le _
    · exact Nat.le_trans hl hm
  by_cases h : 4096 < len0 ∨ 4096 < a1.size
  · exact over_long a0 len0 cap0 a1 w hm0 w1 h
  · rcases w0 with ⟨rfl, rfl, rfl, rfl⟩ | ⟨x, rfl, hl, hm, hz, hc, hw⟩
    · exact Mt.shape_walk none 0 0 [] a1 w (by omega) (by omega) rfl ((Mt.cloneU8_nil w).mono fun e w' ⟨he, hw⟩ => ⟨none, he, .inl rfl, by rw [hw]; exact Below.refl _ _⟩)
    · have hr := rd_of hl hz hc hw
      have hlen : ((z0.take len0).map Int.toNat).length = len0 := by simp; omega
      exact Mt.shape_walk (some x) len0 cap0 _ a1 w (by omega) (by omega) hlen (Mt.cloneU8_some x len0 cap0 _ w (by omega) hlen hr)

/-! ### THE ROW's STEP: WRITTEN OUT: LEAVE IT -/
set_option maxRecDepth 100000 in
theorem lifted (os : Os) (started : os.Started) (H : Type) (enc : TypeId × Value → H) :
    ReturnsInHanded {} Try.checked os 4 .any (Rows.fnMatchClosedFormsByShapeSpec.pre6 enc Try.prog Try.f4 Rows.fnMatchClosedFormsByShapeRow.domain false) (Rows.fnMatchClosedFormsByShapeSpec.post enc Try.prog Try.f4 false true false false) := by
  refine returnsInHanded_of_change (C := Try.checked) own started (by kernel_rfl) Try.func4
    (ChangeSpec.witness6 (enc := enc) (C := Try.checked) false ⟨#[], #[.slice none 0 0, .string ByteArray.empty], []⟩ 8 (by kernel_rfl) (by kernel_rfl) (by kernel_rfl) (by kernel_rfl)) ?_
  intro W base args ds gs before hval0 hW hcnd _
  have hval : ∀ (j : Nat) t v, Try.f4.params[j]? = some t → args[j]? = some v → Value.okWide Try.prog W .any base t v := hval0
  have hW' := hW
  obtain ⟨p, q, hA0, hV, rfl, hfz, hnd⟩ := hW
  have hA : DataW.TrodAll enc Try.prog W 0 (fun _ => true) true Try.f4.params.toList args.toList ds p := hA0
  rw [Try.params4] at hA hval
  obtain ⟨v0, vs0, d0, ds0, p0, q0, hargs, rfl, rfl, h0, r0⟩ := trodAll_cons hA
  obtain ⟨v1, vs1, d1, ds1, p1, q1, rfl, rfl, rfl, h1, r1⟩ := trodAll_cons r0
  obtain ⟨rfl, rfl, rfl⟩ := trodAll_nil r1
  obtain rfl : args = #[v0, v1] := by cases args; simp_all
  obtain ⟨rfl, rfl⟩ := trodVars_none hV
  obtain ⟨a0, len0, cap0, rfl⟩ := okWide_slice Try.underlying22 (hval 0 22 v0 rfl rfl)
  have k0 := h0
  have lt0 : ∀ x ∈ p0, x.block < W.heap.size := by obtain ⟨m, hm⟩ := k0; exact DataW.trod_lt m _ _ _ hm
  obtain ⟨z0, w0⟩ : ∃ zs, IsRow .u8 W a0 len0 cap0 zs := by
    obtain ⟨fuel, hf⟩ := h0
    rcases open_ints Try.underlying22 Try.underlying5 (by kernel_rfl) hf with ⟨hcs, _⟩ | ⟨x, l, c, zs, hcs, _, hl, hm, hz, _, hcell, hwz⟩
    · simp [Value.cells] at hcs
      obtain ⟨rfl, rfl, rfl⟩ := hcs
      exact ⟨[], .inl ⟨rfl, rfl, rfl, rfl⟩⟩
    · simp [Value.cells] at hcs
      obtain ⟨rfl, rfl, rfl⟩ := hcs
      exact ⟨zs, .inr ⟨_, rfl, hl, hm, by simpa using hz, hcell, hwz⟩⟩
  obtain ⟨a1, rfl, rfl, rfl, w1⟩ := open_string Try.underlying9 (hval 1 9 v1 rfl rfl) h1
  clear hA0 hval0
  refine (walk a0 len0 cap0 z0 a1 W w0 w1).mono fun e W' ⟨he, bel⟩ => ?_
  subst he
  exact ⟨_, rfl, _, _, _, [], _, [], hW', trodAll_mk1 (shut_bool Try.underlying4 _), (trodAll_cons_mk (Below.trod laidOut (by kernel_rfl) (of_decide_eq_true (by kernel_rfl)) k0 bel lt0) (trodAll_cons_mk (shut_string Try.underlying9 w1) trodAll_mk0)), rfl, bel.frame _, fun h => by cases h⟩

theorem over : Rows.fnMatchClosedFormsByShapeRow.holds Try.pinned (OpenSpec.ofChange Rows.fnMatchClosedFormsByShapeSpec) :=
  OpenClaim.holds_of_wide 4 Try.f4 rfl rfl rfl rfl rfl rfl rfl ⟨rfl, rfl, rfl, rfl, rfl⟩ rfl rfl rfl rfl rfl (by kernel_rfl) Try.func4 (by kernel_rfl)
    (of_decide_eq_true (by kernel_rfl)) (by unfold Func.isWrapper; first | (rw [if_pos (by decide +kernel)]; kernel_rfl) | (rw [if_neg (by decide +kernel)]; exact ⟨rfl, rfl⟩))
    (fun os started H enc _ => lifted os started H enc)

end Go.Proofs.Qxb6605540a.fnMatchClosedFormsByShape
namespace Go.Proofs.Qxb6605540a
/-- THE STATEMENT -/
theorem shape_proved : Rows.FnMatchClosedFormsByShapeSaid := fnMatchClosedFormsByShape.over
end Go.Proofs.Qxb6605540a
