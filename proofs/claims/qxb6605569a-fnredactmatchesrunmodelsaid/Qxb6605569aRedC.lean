/-
  The walk of Redact.
-/
import Derived.Test.Qxb6605569aRedA
import Derived.Test.Qxb6605569aRedB
namespace Go.Proofs.Qxb6605569a
open Go.RowKit
open PRed (isN isB R red flush)

/-- A text's bytes. -/
def lst (s : ByteArray) : List UInt8 := s.data.toList
theorem len_lst (s : ByteArray) : (lst s).length = s.size := by simp [lst]
theorem lst_at (s : ByteArray) (i : Nat) (_h : i < s.size) (h' : i < (lst s).length) : (lst s)[i] = s[i] := rfl
theorem isB_at (s : ByteArray) (i : Nat) (_h : i < s.size) (h' : i < (lst s).length) : isB (lst s)[i] = isN s[i].toNat := rfl
theorem lst_extract (s : ByteArray) (a b : Nat) : lst (s.extract a b) = seg (lst s) a b := by
  unfold lst seg
  rw [ByteArray.data_extract]
  simp [List.drop_take]
theorem cells_lst (s : ByteArray) : Lib.strCells s = Lib.byteCells (lst s) := rfl
theorem cells_app (a b : List UInt8) : Lib.byteCells a ++ Lib.byteCells b = Lib.byteCells (a ++ b) := by simp [Lib.byteCells]
theorem bytes_ext {a b : ByteArray} (h : lst a = lst b) : a = b := by
  cases a; cases b; simp [lst] at h; simp [h]
theorem lst_mk (l : List UInt8) : lst ⟨l.toArray⟩ = l := by simp [lst]
theorem mk_lst (s : ByteArray) : (⟨(lst s).toArray⟩ : ByteArray) = s := bytes_ext (lst_mk _)
/-- The text that Redact gives. -/
def redS (s : ByteArray) : ByteArray := ⟨(R (lst s)).toArray⟩
theorem lst_redS (s : ByteArray) : lst (redS s) = R (lst s) := lst_mk _

def markS : ByteArray := ⟨#[91, 114, 101, 100, 97, 99, 116, 101, 100, 93]⟩

/-- Behind the two writes of a long run. -/
theorem wrote {S bs : List UInt8} {s : ByteArray} {wn st : Nat} (hS : S = lst s) : Lib.byteCells bs ++ Lib.strCells (s.extract wn st) ++ Lib.strCells markS = Lib.byteCells (bs ++ seg S wn st ++ PRed.mark) := by
  subst hS
  rw [cells_lst, cells_lst, lst_extract, cells_app, cells_app]
  rfl

set_option maxRecDepth 100000 in
set_option maxHeartbeats 2000000 in
theorem redact_any (s : ByteArray) (w : World) (hs : s.size ≤ 4194304) :
    Calls Try.prog 7 #[.string s] w fun e w' => e = .returned (.string (redS s)) ∧ Below w.heap.size w w' := by
  obtain ⟨S, hS⟩ : ∃ S, S = lst s := ⟨_, rfl⟩
  have HS := hide hS
  have HL : Hid (S.length = s.size) := hide (by rw [hS]; exact len_lst s)
  have HR : Hid (redS s = ⟨(R S).toArray⟩) := hide (by rw [hS]; rfl)
  have H0 := hide (inv_start S)
  have HB0 := hide (Lib.fresh_isBuilder 30 5 w)
  clear hS
  go_enter Try.func7, Try.ntmps7
  go_wp2
  go_loopw [4, 5, 6] (fun x4 x5 x6 wr => ∃ (wn st i : Nat) (bs : List UInt8), wn ≤ s.size ∧ wn ≤ st ∧ st ≤ i ∧ i ≤ s.size + 1 ∧ x4 = .int .i64 wn ∧ x5 = .int .i64 st ∧ x6 = .int .i64 i ∧ Hid (Inv S wn st i bs) ∧ Hid (Lib.IsBuilder 30 5 w.heap.size w.heap.size (Lib.byteCells bs) wr) ∧ Hid (Below w.heap.size w wr)) (fun _ _ x6 _ => s.size + 1 - (intOf x6).toNat)
  case atStart => exact ⟨0, 0, 0, [], by omega, by omega, by omega, by omega, rfl, rfl, rfl, H0, HB0, hide ((Below.refl _ _).alloc (Nat.le_refl _) _)⟩
  case round =>
    obtain ⟨wn, st, i, bs, g1, g2, g3, g4, rfl, rfl, rfl, hI, hB, hbel⟩ := hrel
    clear H0 HB0
    have hbl := inv_len (unhide hI)
    have HBL : Hid (bs.length ≤ s.size) := hide (by rw [unhide HL] at hbl; exact hbl)
    clear hbl
    by_cases hlt : i < s.size
    · have hcb : s[i].toNat ≤ 255 := by have := s[i].toNat_lt; omega
      have HBI : Hid (∀ h', isB (S[i]'h') = isN s[i].toNat) := hide (fun h' => by
        have hS := unhide HS
        subst hS
        exact isB_at s i hlt h')
      by_cases hb : isN s[i].toNat = true
      · go_wp2_with (go_at_call 13; refine (isB64_any s[i].toNat _ hcb).mono ?_; rintro e w' ⟨rfl, rfl⟩)
        go_roundw
        case rel => exact ⟨wn, st, i + 1, bs, by omega, by omega, by omega, by omega, rfl, rfl, by go_num, hide (inv_in (unhide hI) (by rw [unhide HL]; exact hlt) (by rw [unhide HBI]; exact hb)), hB, hbel⟩
        case measure => simp [intOf]; omega
      have hb' : isN s[i].toNat = false := by simpa using hb
      clear hb
      have HNB : Hid (∀ (hi : i < S.length), isB S[i] = false) := hide (fun hi => by rw [unhide HBI]; exact hb')
      by_cases hlong : (43 : Int) ≤ (i : Int) - (st : Int)
      · go_wp2_with (go_at_call 13; refine (isB64_any s[i].toNat _ hcb).mono ?_; rintro e w' ⟨rfl, rfl⟩)
        have hst : st ≤ s.size := by omega
        refine (writeString_any w.heap.size w.heap.size (Lib.byteCells bs) (s.extract wn st) _ (unhide hB) (by rw [Lib.byteCells_length, ByteArray.size_extract]; have := unhide HBL; omega) (unhide hbel).size).mono ?_
        rintro e w2 ⟨rfl, hB2, hb2⟩
        have HB2 := hide hB2
        have Hb2 := hide ((unhide hbel).trans hb2)
        clear hB2 hb2
        go_wp2_with fail
        refine (writeString_any w.heap.size w.heap.size _ markS _ (.inr (unhide HB2)) (by rw [List.length_append, Lib.byteCells_length, Lib.strCells_length, ByteArray.size_extract, show markS.size = 10 from rfl]; have := unhide HBL; omega) (unhide Hb2).size).mono ?_
        rintro e w3 ⟨rfl, hB3, hb3⟩
        rw [wrote (unhide HS)] at hB3
        have HB3 := hide hB3
        have Hb3 := hide ((unhide Hb2).trans hb3)
        clear hB3 hb3 HB2 Hb2
        go_wp2
        go_roundw
        case rel => exact ⟨i, i + 1, i + 1, _, by omega, by omega, by omega, by omega, rfl, by go_num, by go_num, hide (inv_long (unhide hI) (by rw [unhide HL]; omega) (unhide HNB) (by omega)), hide (.inr (unhide HB3)), Hb3⟩
        case measure => simp [intOf]; omega
      · go_wp2_with (go_at_call 13; refine (isB64_any s[i].toNat _ hcb).mono ?_; rintro e w' ⟨rfl, rfl⟩)
        go_roundw
        case rel => exact ⟨wn, i + 1, i + 1, bs, by omega, by omega, by omega, by omega, rfl, by go_num, by go_num, hide (inv_short (unhide hI) (by rw [unhide HL]; omega) (unhide HNB) (by omega)), hB, hbel⟩
        case measure => simp [intOf]; omega
    by_cases hin : i ≤ s.size
    · have HNB : Hid (∀ (hi : i < S.length), isB S[i] = false) := hide (fun hi => by rw [unhide HL] at hi; omega)
      have hltI : ¬ (i : Int) < (s.size : Int) := by omega
      by_cases hlong : (43 : Int) ≤ (i : Int) - (st : Int)
      · go_wp2_with fail
        have hst : st ≤ s.size := by omega
        refine (writeString_any w.heap.size w.heap.size (Lib.byteCells bs) (s.extract wn st) _ (unhide hB) (by rw [Lib.byteCells_length, ByteArray.size_extract]; have := unhide HBL; omega) (unhide hbel).size).mono ?_
        rintro e w2 ⟨rfl, hB2, hb2⟩
        have HB2 := hide hB2
        have Hb2 := hide ((unhide hbel).trans hb2)
        clear hB2 hb2
        go_wp2_with fail
        refine (writeString_any w.heap.size w.heap.size _ markS _ (.inr (unhide HB2)) (by rw [List.length_append, Lib.byteCells_length, Lib.strCells_length, ByteArray.size_extract, show markS.size = 10 from rfl]; have := unhide HBL; omega) (unhide Hb2).size).mono ?_
        rintro e w3 ⟨rfl, hB3, hb3⟩
        rw [wrote (unhide HS)] at hB3
        have HB3 := hide hB3
        have Hb3 := hide ((unhide Hb2).trans hb3)
        clear hB3 hb3 HB2 Hb2
        go_wp2
        go_roundw
        case rel => exact ⟨i, i + 1, i + 1, _, by omega, by omega, by omega, by omega, rfl, by go_num, by go_num, hide (inv_long (unhide hI) (by rw [unhide HL]; omega) (unhide HNB) (by omega)), hide (.inr (unhide HB3)), Hb3⟩
        case measure => simp [intOf]; omega
      · go_wp2
        go_roundw
        case rel => exact ⟨wn, i + 1, i + 1, bs, by omega, by omega, by omega, by omega, rfl, by go_num, by go_num, hide (inv_short (unhide hI) (by rw [unhide HL]; omega) (unhide HNB) (by omega)), hB, hbel⟩
        case measure => simp [intOf]; omega
    · by_cases hw0 : wn = 0
      · subst hw0
        have HZ := hide (inv_zero (unhide hI) (by rw [unhide HL]; omega))
        go_wp2
        go_ret
        refine ⟨ret_str ?_, unhide hbel⟩
        rw [unhide HR, unhide HZ, unhide HS]
        exact (mk_lst s).symm
      · have hw0' : ((wn : Int) == 0) = false := beq_eq_false_iff_ne.2 (by omega)
        have HZ := hide (inv_end (unhide hI) (by rw [unhide HL]; omega))
        go_wp2_with fail
        refine (writeString_any w.heap.size w.heap.size (Lib.byteCells bs) (s.extract wn s.size) _ (unhide hB) (by rw [Lib.byteCells_length, ByteArray.size_extract]; have := unhide HBL; omega) (unhide hbel).size).mono ?_
        rintro e w2 ⟨rfl, hB2, hb2⟩
        have e1 : Lib.byteCells bs ++ Lib.strCells (s.extract wn s.size) = Lib.byteCells (R S) := by
          rw [unhide HZ, cells_lst, lst_extract, cells_app, ← unhide HS, ← unhide HL, seg_end]
        rw [e1] at hB2
        have HB2 := hide hB2
        have Hb2 := hide ((unhide hbel).trans hb2)
        clear hB2 hb2 e1
        go_wp2_with fail
        refine (Try.Builder_String_any w.heap.size w.heap.size (R S) _ (.inr (unhide HB2)) (unhide Hb2).size).mono ?_
        rintro e w3 ⟨rfl, hb3⟩
        have Hb3 := hide ((unhide Hb2).trans hb3)
        clear hb3
        go_wp2
        go_ret
        exact ⟨ret_str (unhide HR).symm, unhide Hb3⟩
end Go.Proofs.Qxb6605569a
