/-
  The proof of 'Rows.FnMatchAgreesWithForwardAutomatonSaid': the frame is made after the seat's shell for slices of integers, its third argument ([][4]uint64) opened by hand; the walks lie in Qxb6605540aMatchA .. M, the plain law in Qxb6605540aPMatch.
-/
import Derived.Test.Qxb6605540aRows
import Derived.WalkKit
import Derived.ProofKit
import Derived.OpenShut
import Derived.ShutString
import Derived.ChangeOld
import Derived.Below
import Derived.Deep.Slices
import Derived.Test.Qxb6605540aMatchM
namespace Go.Proofs.Qxb6605540a.fnMatchAgrees
open Go.ChangeShapes Go.WideShapes Go.ChangeAt Go.RowKit
open Go.ChangeMaps (open_string shut_string)
set_option linter.unusedVariables false

theorem own : ownKnob Try.prog.godebug = none := by kernel_rfl
theorem laidOut : laidOutB Try.prog = true := by kernel_rfl
theorem cells29 : Try.prog.cellsOf 29 = 4 := by kernel_rfl
theorem cells28 : Try.prog.cellsOf 28 = 1 := by kernel_rfl
theorem cells5 : Try.prog.cellsOf 5 = 1 := by kernel_rfl

/-- The row that came in, as bytes. -/
theorem rd_of {w : World} {x : Addr} {len cap : Nat} {zs : List Int} (hl : len ≤ cap) (hz : zs.length = cap)
    (hc : ∀ i, i < zs.length → w.cell? (x.add i) = some (.int .u8 (zs.getD i 0))) (hw : ∀ n ∈ zs, (Lit.int .u8 n).wf = true) : Mt.Rd w (some x) ((zs.take len).map Int.toNat) := by
  by_cases h0 : len = 0
  · left; subst h0; simp
  · right
    obtain ⟨b, off, spot⟩ := x
    have c0 := hc 0 (by omega)
    have hspot : spot = none := by simpa [Addr.add] using World.cell?_spot c0
    subst hspot
    refine ⟨b, off, rfl, World.block_lt_of_cell? w _ c0, fun i hi => ?_⟩
    have hi' : i < len := by simp at hi; omega
    have hiz : i < zs.length := by omega
    have := hc i hiz
    rw [add_plain] at this
    rw [this]
    have e1 : zs.getD i 0 = zs[i] := by simp [List.getD, List.getElem?_eq_getElem hiz]
    have hb : 0 ≤ zs[i] ∧ zs[i] ≤ 255 := bounds_u8 (hw _ (List.getElem_mem hiz))
    have e2 : Mt.nth ((zs.take len).map Int.toNat) i = zs[i].toNat := by
      simp [Mt.nth, List.getD, hi', List.getElem?_eq_getElem hiz]
    rw [e1, e2, Int.toNat_of_nonneg hb.1]
theorem le_of {len : Nat} {zs : List Int} (hw : ∀ n ∈ zs, (Lit.int .u8 n).wf = true) (i : Nat) : Mt.nth ((zs.take len).map Int.toNat) i ≤ 255 := by
  unfold Mt.nth
  rw [List.getD_eq_getElem?_getD, List.getElem?_map]
  by_cases h : i < (zs.take len).length
  · rw [List.getElem?_eq_getElem h]
    have hb : 0 ≤ (zs.take len)[i] ∧ (zs.take len)[i] ≤ 255 := bounds_u8 (hw _ (List.mem_of_mem_take (List.getElem_mem h)))
    simp only [Option.map_some, Option.getD_some]
    omega
  · rw [List.getElem?_eq_none (by omega)]
    simp

/-- A slice of bytes that came in: what the walks ask of it. -/
def IsBytes (w : World) (a : Option Addr) (len cap : Nat) (L : List Nat) : Prop :=
  L.length = len ∧ (a = none → len = 0 ∧ cap = 0) ∧ len ≤ maxLen ∧ Mt.Rd w a L ∧ ∀ i, Mt.nth L i ≤ 255
/-- A slice of sets that came in. -/
def IsSets (w : World) (a : Option Addr) (len cap : Nat) (S : Nat → Nat → Int) : Prop :=
  (a = none → len = 0 ∧ cap = 0) ∧ len ≤ maxLen ∧ Mt.RdS w a len S ∧ ∀ i, i < len → ∀ j, j < 4 → 0 ≤ S i j ∧ S i j ≤ 18446744073709551615

theorem bytes_open {H : Type} {enc : TypeId × Value → H} {W : World} {fuel : Nat} {a0 : Option Addr} {len0 cap0 : Nat} {x : DataW H × List MemPlace}
    (hf : DataW.trod enc Try.prog W 0 (fun _ => true) true fuel 22 (Value.slice a0 len0 cap0).cells.toList = some x) : ∃ L, IsBytes W a0 len0 cap0 L := by
  rcases open_ints Try.underlying22 Try.underlying5 cells5 hf with ⟨hcs, _⟩ | ⟨x, l, c, zs, hcs, _, hl, hm, hz, _, hcell, hwz⟩
  · simp [Value.cells] at hcs
    obtain ⟨rfl, rfl, rfl⟩ := hcs
    exact ⟨[], rfl, fun _ => ⟨rfl, rfl⟩, Nat.zero_le _, .inl rfl, fun i => by simp [Mt.nth]⟩
  · simp [Value.cells] at hcs
    obtain ⟨rfl, rfl, rfl⟩ := hcs
    have hz' : zs.length = cap0 := by simpa using hz
    exact ⟨(zs.take len0).map Int.toNat, by simp; omega, fun h => by simp at h, Nat.le_trans hl hm, rd_of hl hz' hcell hwz, le_of hwz⟩

theorem sets_open {H : Type} {enc : TypeId × Value → H} {W : World} {fuel : Nat} {a0 : Option Addr} {len0 cap0 : Nat} {x : DataW H × List MemPlace}
    (hf : DataW.trod enc Try.prog W 0 (fun _ => true) true fuel 23 (Value.slice a0 len0 cap0).cells.toList = some x) : ∃ S, IsSets W a0 len0 cap0 S := by
  rcases Deep.open_slice Try.underlying23 hf with ⟨hcs, _⟩ | ⟨a, len, cap, m, n, D, Pl, hcs, _, hl, hm, hmm, _, hel⟩
  · simp [Value.cells] at hcs
    obtain ⟨rfl, rfl, rfl⟩ := hcs
    exact ⟨fun _ _ => 0, fun _ => ⟨rfl, rfl⟩, Nat.zero_le _, .inl rfl, fun i hi => by omega⟩
  · simp [Value.cells] at hcs
    obtain ⟨rfl, rfl, rfl⟩ := hcs
    have hmc : m = cap0 := by simpa using hmm
    have one : ∀ i, i < len0 → ∃ f : Nat → Int, ∀ j, j < 4 → W.cell? (a.add (i * 4 + j)) = some (.int .u64 (f j)) ∧ 0 ≤ f j ∧ f j ≤ 18446744073709551615 := by
      intro i hi
      obtain ⟨cs', hcells, htr⟩ := hel i (by omega)
      rw [cells29] at hcells
      obtain ⟨xs, _, _, _, hlen, hxs, hget⟩ := DataW.trod_array Try.underlying29 htr
      rw [cells29] at hlen
      refine Deep.choose_lt (α := Int) (p := fun j z => W.cell? (a.add (i * 4 + j)) = some (.int .u64 z) ∧ 0 ≤ z ∧ z ≤ 18446744073709551615) fun j hj => ?_
      have hg := hget j hj
      rw [cells28, List.getElem?_eq_getElem (by omega)] at hg
      obtain ⟨z, hcs, _, hwf⟩ := DataW.trod_int Try.underlying28 hg
      have hb : 0 ≤ z ∧ z ≤ 18446744073709551615 := bounds_u64 hwf
      refine ⟨z, ?_, hb⟩
      rw [Nat.mul_one] at hcs
      have hj' : j < cs'.length := by omega
      have hcj : cs'[j] = .int .u64 z := by
        rw [List.drop_eq_getElem_cons hj', List.take_succ_cons, List.take_zero] at hcs
        exact (List.cons.inj hcs).1
      unfold World.cells? at hcells
      rw [if_pos (Nat.zero_le _)] at hcells
      have hget2 := mapM_some_get hcells j j (by simp [hj])
      rw [Deep.add_add] at hget2
      rw [hget2, List.getElem?_eq_getElem hj', hcj]
    obtain ⟨S, hS⟩ := Deep.choose_lt (α := Nat → Int) one
    refine ⟨S, fun h => by simp at h, Nat.le_trans hl hm, ?_, fun i hi j hj => (hS i hi j hj).2⟩
    by_cases h0 : len0 = 0
    · exact .inl h0
    · right
      obtain ⟨b, off, spot⟩ := a
      have c0 := (hS 0 (by omega) 0 (by omega)).1
      have hspot : spot = none := by simpa [Addr.add] using World.cell?_spot c0
      subst hspot
      refine ⟨b, off, rfl, World.block_lt_of_cell? W _ (by simpa [Addr.add] using c0), fun i hi j hj => ?_⟩
      have := (hS i hi j hj).1
      rw [add_plain, ← Nat.add_assoc] at this
      exact this

/-! ### THE WALK -/
theorem walk (a0 a1 a2 : Option Addr) (n0 n1 n2 c0 c1 c2 : Nat) (K L : List Nat) (S : Nat → Nat → Int) (s : ByteArray) (w : World) (h0 : IsBytes w a0 n0 c0 K) (h1 : IsBytes w a1 n1 c1 L) (h2 : IsSets w a2 n2 c2 S) (hs : s.size ≤ maxLen) :
    Calls Try.prog 3 #[.slice a0 n0 c0, .slice a1 n1 c1, .slice a2 n2 c2, .string s] w fun e w' => e = .returned (.bool true) ∧ Below w.heap.size w w' := by
  by_cases h : n0 ≤ 4096 ∧ s.size ≤ 4096 ∧ n1 = n0 ∧ n2 = n0
  · obtain ⟨hn, hs', rfl, rfl⟩ := h
    exact Mt.agree_core a0 a1 a2 c0 c1 c2 n2 K L S s w hn hs' h0.1 h1.1 h0.2.1 h1.2.1 h2.1 h0.2.2.2.1 h1.2.2.2.1 h2.2.2.1 (fun i _ => h0.2.2.2.2 i) h2.2.2.2
  · exact Mt.agree_early a0 a1 a2 n0 n1 n2 c0 c1 c2 s w h0.2.2.1 h1.2.2.1 h2.2.1 hs h

/-! ### THE ROW's STEP -/
set_option maxRecDepth 100000 in
theorem lifted (os : Os) (started : os.Started) (H : Type) (enc : TypeId × Value → H) :
    ReturnsInHanded {} Try.checked os 3 .any (Rows.fnMatchAgreesWithForwardAutomatonSpec.pre6 enc Try.prog Try.f3 Rows.fnMatchAgreesWithForwardAutomatonRow.domain false) (Rows.fnMatchAgreesWithForwardAutomatonSpec.post enc Try.prog Try.f3 false true false false) := by
  refine returnsInHanded_of_change (C := Try.checked) own started (by kernel_rfl) Try.func3
    (ChangeSpec.witness6 (enc := enc) (C := Try.checked) false ⟨#[], #[.slice none 0 0, .slice none 0 0, .slice none 0 0, .string ByteArray.empty], []⟩ 8 (by kernel_rfl) (by kernel_rfl) (by kernel_rfl) (by kernel_rfl)) ?_
  intro W base args ds gs before hval0 hW hcnd _
  have hval : ∀ (j : Nat) t v, Try.f3.params[j]? = some t → args[j]? = some v → Value.okWide Try.prog W .any base t v := hval0
  have hW' := hW
  obtain ⟨p, q, hA0, hV, rfl, hfz, hnd⟩ := hW
  have hA : DataW.TrodAll enc Try.prog W 0 (fun _ => true) true Try.f3.params.toList args.toList ds p := hA0
  rw [Try.params3] at hA hval
  obtain ⟨v0, vs0, d0, ds0, p0, q0, hargs, rfl, rfl, h0, r0⟩ := trodAll_cons hA
  obtain ⟨v1, vs1, d1, ds1, p1, q1, rfl, rfl, rfl, h1, r1⟩ := trodAll_cons r0
  obtain ⟨v2, vs2, d2, ds2, p2, q2, rfl, rfl, rfl, h2, r2⟩ := trodAll_cons r1
  obtain ⟨v3, vs3, d3, ds3, p3, q3, rfl, rfl, rfl, h3, r3⟩ := trodAll_cons r2
  obtain ⟨rfl, rfl, rfl⟩ := trodAll_nil r3
  obtain rfl : args = #[v0, v1, v2, v3] := by cases args; simp_all
  obtain ⟨rfl, rfl⟩ := trodVars_none hV
  obtain ⟨a0, len0, cap0, rfl⟩ := okWide_slice Try.underlying22 (hval 0 22 v0 rfl rfl)
  obtain ⟨a1, len1, cap1, rfl⟩ := okWide_slice Try.underlying22 (hval 1 22 v1 rfl rfl)
  obtain ⟨a2, len2, cap2, rfl⟩ := okWide_slice Try.underlying23 (hval 2 23 v2 rfl rfl)
  have k0 := h0
  have k1 := h1
  have k2 := h2
  have lt0 : ∀ x ∈ p0, x.block < W.heap.size := by obtain ⟨m, hm⟩ := k0; exact DataW.trod_lt m _ _ _ hm
  have lt1 : ∀ x ∈ p1, x.block < W.heap.size := by obtain ⟨m, hm⟩ := k1; exact DataW.trod_lt m _ _ _ hm
  have lt2 : ∀ x ∈ p2, x.block < W.heap.size := by obtain ⟨m, hm⟩ := k2; exact DataW.trod_lt m _ _ _ hm
  obtain ⟨K, w0⟩ : ∃ L, IsBytes W a0 len0 cap0 L := by obtain ⟨fuel, hf⟩ := h0; exact bytes_open hf
  obtain ⟨L, w1⟩ : ∃ L, IsBytes W a1 len1 cap1 L := by obtain ⟨fuel, hf⟩ := h1; exact bytes_open hf
  obtain ⟨S, w2⟩ : ∃ S, IsSets W a2 len2 cap2 S := by obtain ⟨fuel, hf⟩ := h2; exact sets_open hf
  obtain ⟨s, rfl, rfl, rfl, w3⟩ := open_string Try.underlying9 (hval 3 9 v3 rfl rfl) h3
  clear hA0 hval0
  refine (walk a0 a1 a2 len0 len1 len2 cap0 cap1 cap2 K L S s W w0 w1 w2 w3).mono fun e W' ⟨he, bel⟩ => ?_
  subst he
  exact ⟨_, rfl, _, _, _, [], _, [], hW', trodAll_mk1 (shut_bool Try.underlying4 _), (trodAll_cons_mk (Below.trod laidOut (by kernel_rfl) (of_decide_eq_true (by kernel_rfl)) k0 bel lt0) (trodAll_cons_mk (Below.trod laidOut (by kernel_rfl) (of_decide_eq_true (by kernel_rfl)) k1 bel lt1) (trodAll_cons_mk (Below.trod laidOut (by kernel_rfl) (of_decide_eq_true (by kernel_rfl)) k2 bel lt2) (trodAll_cons_mk (shut_string Try.underlying9 w3) trodAll_mk0)))), rfl, bel.frame _, fun h => by cases h⟩

theorem over : Rows.fnMatchAgreesWithForwardAutomatonRow.holds Try.pinned (OpenSpec.ofChange Rows.fnMatchAgreesWithForwardAutomatonSpec) :=
  OpenClaim.holds_of_wide 3 Try.f3 rfl rfl rfl rfl rfl rfl rfl ⟨rfl, rfl, rfl, rfl, rfl⟩ rfl rfl rfl rfl rfl (by kernel_rfl) Try.func3 (by kernel_rfl)
    (of_decide_eq_true (by kernel_rfl)) (by unfold Func.isWrapper; first | (rw [if_pos (by decide +kernel)]; kernel_rfl) | (rw [if_neg (by decide +kernel)]; exact ⟨rfl, rfl⟩))
    (fun os started H enc _ => lifted os started H enc)
end Go.Proofs.Qxb6605540a.fnMatchAgrees
namespace Go.Proofs.Qxb6605540a
/-- THE STATEMENT -/
theorem agrees_proved : Rows.FnMatchAgreesWithForwardAutomatonSaid := fnMatchAgrees.over
end Go.Proofs.Qxb6605540a
