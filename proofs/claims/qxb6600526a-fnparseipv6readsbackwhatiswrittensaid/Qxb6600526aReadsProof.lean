/-
  The proof of 'Rows.FnParseIPv6ReadsBackWhatIsWrittenSaid': the frame after the seat's shells (four arguments of one cell each) and, for the array, opened and shut here; the walks lie in Qxb6600526aXa .. Xf, the plain law in Qxb6600526aP6f.
-/
import Derived.Test.Qxb6600526aRows
import Derived.WalkKit
import Derived.ProofKit
import Derived.OpenShut
import Derived.ShutString
import Derived.Below
import Derived.Test.Qxb6600526aXf
namespace Go.Proofs.Qxb6600526a.fnParseIPv6ReadsBackWhatIsWritten
open Go.ChangeShapes Go.WideShapes Go.ChangeAt Go.RowKit
set_option linter.unusedVariables false

theorem own : ownKnob Try.prog.godebug = none := by kernel_rfl
theorem cells39 : Try.prog.cellsOf 39 = 16 := by kernel_rfl
theorem cells5 : Try.prog.cellsOf 5 = 1 := by kernel_rfl

/-- The sixteen bytes as data. -/
def dat {H : Type} (G : Nat → Nat) : List (DataW H × List MemPlace) := (List.range 16).map fun i => (DataW.lit (.int .u8 (G i : Nat)), [])
theorem dat_len {H : Type} (G : Nat → Nat) : (dat (H := H) G).length = 16 := by simp [dat]
theorem dat_get {H : Type} (G : Nat → Nat) (i : Nat) (h : i < 16) : (dat (H := H) G)[i]? = some (DataW.lit (.int .u8 (G i : Nat)), []) := by
  simp [dat, h]
theorem dat_flat {H : Type} (G : Nat → Nat) : (dat (H := H) G).flatMap (·.2) = [] := by
  unfold dat
  rw [List.flatMap_eq_nil_iff]
  intro x hx
  simp only [List.mem_map] at hx
  obtain ⟨i, -, rfl⟩ := hx
  rfl
theorem wf_u8 {n : Int} (h : (Lit.int .u8 n).wf = true) : 0 ≤ n ∧ n < 256 := by
  have h1 : IntKind.u8.min = 0 := by decide
  have h2 : IntKind.u8.max = 255 := by decide
  simp only [Lit.wf, h1, h2, Bool.and_eq_true, decide_eq_true_eq] at h
  omega
theorem u8_wf {n : Nat} (h : n < 256) : (Lit.int .u8 (n : Int)).wf = true := by
  have h1 : IntKind.u8.min = 0 := by decide
  have h2 : IntKind.u8.max = 255 := by decide
  simp only [Lit.wf, h1, h2, Bool.and_eq_true, decide_eq_true_eq]
  omega

/-- The number in cell i. -/
def numAt (cs : Array Value) (i : Nat) : Nat := match cs[i]? with
  | some (.int _ n) => n.toNat
  | _ => 0
theorem open16 {H : Type} {enc : TypeId × Value → H} {W : World} {base : Nat} {sp : Nat → Bool} {held : Bool} {b0 : Nat} {v : Value} {d : DataW H} {ps : List MemPlace} (hval : Value.okWide Try.prog W .any b0 39 v) (hd : DataW.Trod enc Try.prog W base sp held 39 v d ps) :
    ∃ G : Nat → Nat, (∀ i, G i < 256) ∧ v = .agg (arr G) ∧ d = .agg ((dat G).map (·.1)) ∧ ps = [] := by
  obtain ⟨cs, rfl, hsz, -⟩ : ∃ cs, v = .agg cs ∧ cs.size = Try.prog.cellsOf 39 ∧ Row.okWide Try.prog W .any b0 39 cs := by
    simpa [Value.okWide, Try.underlying39] using hval
  rw [cells39] at hsz
  obtain ⟨fuel, hf⟩ := hd
  obtain ⟨xs, m, -, hx, -, hl, hall⟩ := DataW.trod_array Try.underlying39 hf
  rw [cells5] at hall
  have key : ∀ i, i < 16 → ∃ g : Nat, g < 256 ∧ cs[i]? = some (.int .u8 (g : Nat)) ∧ xs[i]? = some (DataW.lit (.int .u8 (g : Nat)), []) := by
    intro i hi
    have h1 := hall i hi
    obtain ⟨y, hy⟩ : ∃ y, xs[i]? = some y := ⟨xs[i], List.getElem?_eq_getElem (by omega)⟩
    rw [hy] at h1
    obtain ⟨n, h2, h3, h4⟩ := DataW.trod_int Try.underlying5 h1
    obtain ⟨h5, h6⟩ := wf_u8 h4
    obtain ⟨g, rfl⟩ : ∃ g : Nat, n = (g : Int) := ⟨n.toNat, by omega⟩
    refine ⟨g, by omega, ?_, by rw [hy, h3]⟩
    have h7 : (Value.agg cs).cells.toList[i]? = some (.int .u8 (g : Nat)) := by
      have h8 : ((Value.agg cs).cells.toList.drop (i * 1)).take 1 = [.int .u8 (g : Nat)] := h2
      have h9 := congrArg (fun l => l[0]?) h8
      simp only [Nat.mul_one] at h9
      rw [List.getElem?_take_of_lt (by omega), List.getElem?_drop, Nat.add_zero] at h9
      exact h9
    simpa [Value.cells] using h7
  obtain ⟨G, hG⟩ : ∃ G : Nat → Nat, ∀ i, G i < 256 ∧ (i < 16 → cs[i]? = some (.int .u8 (G i : Nat)) ∧ xs[i]? = some (DataW.lit (.int .u8 (G i : Nat)), [])) := by
    refine ⟨numAt cs, fun i => ?_⟩
    by_cases hi : i < 16
    · obtain ⟨g, h1, h2, h3⟩ := key i hi
      have e : numAt cs i = g := by unfold numAt; rw [h2]; rfl
      rw [e]
      exact ⟨h1, fun _ => ⟨h2, h3⟩⟩
    · have e : numAt cs i = 0 := by unfold numAt; rw [Array.getElem?_eq_none (by omega)]
      rw [e]
      exact ⟨by omega, fun h => absurd h hi⟩
  refine ⟨G, fun i => (hG i).1, ?_, ?_, ?_⟩
  · congr 1
    apply Array.ext_getElem?
    intro i
    by_cases hi : i < 16
    · rw [((hG i).2 hi).1, arr_get G i hi]
    · rw [Array.getElem?_eq_none (by omega), Array.getElem?_eq_none (by rw [arr_size]; omega)]
  all_goals
    have hxs : xs = dat G := by
      apply List.ext_getElem?
      intro i
      by_cases hi : i < 16
      · rw [((hG i).2 hi).2, dat_get G i hi]
      · rw [List.getElem?_eq_none (by omega), List.getElem?_eq_none (by rw [dat_len]; omega)]
    have h1 := Prod.mk.inj hx
  · rw [h1.1, hxs]
  · rw [h1.2, hxs, dat_flat]
theorem shut16 {H : Type} {enc : TypeId × Value → H} {W : World} {base : Nat} {sp : Nat → Bool} {held : Bool} {G : Nat → Nat} (hG : ∀ i, G i < 256) :
    DataW.Trod enc Try.prog W base sp held 39 (.agg (arr G)) (.agg ((dat G).map (·.1))) [] := by
  have h0 := u8_wf (hG 0)
  have hw : ∀ i, (Lit.int .u8 (G i : Nat)).wf = true := fun i => u8_wf (hG i)
  refine ⟨2, ?_⟩
  have hc : (Value.agg (arr G)).cells.toList = (arr G).toList := rfl
  rw [hc]
  unfold DataW.trod
  rw [Try.underlying39]
  simp only
  rw [if_pos (by rw [cells39]; simp [arr_size]), cells5]
  have hm : ((List.range 16).mapM fun i => DataW.trod enc Try.prog W base sp held 1 5 (((arr G).toList.drop (i * 1)).take 1)) = some (dat G) := by
    have key : ∀ is : List Nat, (∀ i ∈ is, i < 16) → (is.mapM fun i => DataW.trod enc Try.prog W base sp held 1 5 (((arr G).toList.drop (i * 1)).take 1)) = some (is.map fun i => (DataW.lit (.int .u8 (G i : Nat)), [])) := by
      intro is
      induction is with
      | nil => intro _; rfl
      | cons i is ih =>
        intro h
        have hi := h i (by simp)
        have h1 : ((arr G).toList.drop (i * 1)).take 1 = [.int .u8 (G i : Nat)] := by
          have h2 : i < (arr G).toList.length := by simpa [arr_size] using hi
          rw [Nat.mul_one, List.drop_eq_getElem_cons h2]
          have h3 := arr_get G i hi
          rw [← Array.getElem?_toList, List.getElem?_eq_getElem h2] at h3
          rw [Option.some.inj h3]; rfl
        rw [List.mapM_cons, h1, trod_int_mk 0 Try.underlying5 (hw i), ih fun j hj => h j (by simp [hj])]
        rfl
    exact key _ fun i hi => by simpa using hi
  rw [hm]
  simp only [Option.map_some, dat_flat]

/-! ### THE ROW's STEP -/
set_option maxHeartbeats 400000 in
set_option maxRecDepth 100000 in
theorem lifted (os : Os) (started : os.Started) (H : Type) (enc : TypeId × Value → H) :
    ReturnsInHanded {} Try.checked os 9 .any (Rows.fnParseIPv6ReadsBackWhatIsWrittenSpec.pre6 enc Try.prog Try.f9 Rows.fnParseIPv6ReadsBackWhatIsWrittenRow.domain false) (Rows.fnParseIPv6ReadsBackWhatIsWrittenSpec.post enc Try.prog Try.f9 false true false false) := by
  refine returnsInHanded_of_change (C := Try.checked) own started (by kernel_rfl) Try.func9
    (ChangeSpec.witness6 (enc := enc) (C := Try.checked) false ⟨#[], #[.agg #[.int .u8 0, .int .u8 0, .int .u8 0, .int .u8 0, .int .u8 0, .int .u8 0, .int .u8 0, .int .u8 0, .int .u8 0, .int .u8 0, .int .u8 0, .int .u8 0, .int .u8 0, .int .u8 0, .int .u8 0, .int .u8 0], .int .i64 0, .int .i64 0, .bool false, .bool false], []⟩ 8 (by kernel_rfl) (by kernel_rfl) (by kernel_rfl) (by kernel_rfl)) ?_
  intro W base args ds gs before hval0 hW hcnd _
  have hval : ∀ (j : Nat) t v, Try.f9.params[j]? = some t → args[j]? = some v → Value.okWide Try.prog W .any base t v := hval0
  have hW' := hW
  obtain ⟨p, q, hA0, hV, rfl, hfz, hnd⟩ := hW
  have hA : DataW.TrodAll enc Try.prog W 0 (fun _ => true) true Try.f9.params.toList args.toList ds p := hA0
  rw [Try.params9] at hA hval
  obtain ⟨v0, vs0, d0, ds0, p0, q0, hargs, rfl, rfl, h0, r0⟩ := trodAll_cons hA
  obtain ⟨v1, vs1, d1, ds1, p1, q1, rfl, rfl, rfl, h1, r1⟩ := trodAll_cons r0
  obtain ⟨v2, vs2, d2, ds2, p2, q2, rfl, rfl, rfl, h2, r2⟩ := trodAll_cons r1
  obtain ⟨v3, vs3, d3, ds3, p3, q3, rfl, rfl, rfl, h3, r3⟩ := trodAll_cons r2
  obtain ⟨v4, vs4, d4, ds4, p4, q4, rfl, rfl, rfl, h4, r4⟩ := trodAll_cons r3
  obtain ⟨rfl, rfl, rfl⟩ := trodAll_nil r4
  obtain rfl : args = #[v0, v1, v2, v3, v4] := by cases args; simp_all
  obtain ⟨rfl, rfl⟩ := trodVars_none hV
  obtain ⟨G, hG, rfl, rfl, rfl⟩ := open16 (hval 0 39 v0 rfl rfl) h0
  obtain ⟨a1, rfl, rfl, rfl, w1⟩ := open_int Try.underlying3 (hval 1 3 v1 rfl rfl) h1
  obtain ⟨a2, rfl, rfl, rfl, w2⟩ := open_int Try.underlying3 (hval 2 3 v2 rfl rfl) h2
  obtain ⟨a3, rfl, rfl, rfl⟩ := open_bool Try.underlying4 (hval 3 4 v3 rfl rfl) h3
  obtain ⟨a4, rfl, rfl, rfl⟩ := open_bool Try.underlying4 (hval 4 4 v4 rfl rfl) h4
  clear hA0 hval0
  refine (reads_walk G hG a1 a2 a3 a4 W).mono fun e W' ⟨he, bel⟩ => ?_
  subst he
  exact ⟨_, rfl, _, _, _, [], _, [], hW', trodAll_mk1 (shut_bool Try.underlying4 _), (trodAll_cons_mk (shut16 hG) (trodAll_cons_mk (shut_int Try.underlying3 w1) (trodAll_cons_mk (shut_int Try.underlying3 w2) (trodAll_cons_mk (shut_bool Try.underlying4 _) (trodAll_cons_mk (shut_bool Try.underlying4 _) trodAll_mk0))))), rfl, bel.frame _, fun h => by cases h⟩

theorem over : Rows.fnParseIPv6ReadsBackWhatIsWrittenRow.holds Try.pinned (OpenSpec.ofChange Rows.fnParseIPv6ReadsBackWhatIsWrittenSpec) :=
  OpenClaim.holds_of_wide 9 Try.f9 rfl rfl rfl rfl rfl rfl rfl ⟨rfl, rfl, rfl, rfl, rfl⟩ rfl rfl rfl rfl rfl (by kernel_rfl) Try.func9 (by kernel_rfl)
    (of_decide_eq_true (by kernel_rfl)) (by unfold Func.isWrapper; first | (rw [if_pos (by decide +kernel)]; kernel_rfl) | (rw [if_neg (by decide +kernel)]; exact ⟨rfl, rfl⟩))
    (fun os started H enc _ => lifted os started H enc)

end Go.Proofs.Qxb6600526a.fnParseIPv6ReadsBackWhatIsWritten
namespace Go.Proofs.Qxb6600526a
/-- THE STATEMENT -/
theorem reads_proved : Rows.FnParseIPv6ReadsBackWhatIsWrittenSaid := fnParseIPv6ReadsBackWhatIsWritten.over
end Go.Proofs.Qxb6600526a
