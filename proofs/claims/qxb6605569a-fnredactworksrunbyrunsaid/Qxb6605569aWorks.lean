/-
  The walk of FnRedactWorksRunByRun.
-/
import Derived.Test.Qxb6605569aRedC
namespace Go.Proofs.Qxb6605569a
open Go.RowKit
open PRed (isN isB R red flush)

theorem worksBytes_any (a b : ByteArray) (x y k : Int) (w : World) (ha : a.size ≤ maxLen) (hb : b.size ≤ maxLen) :
    Calls Try.prog 9 #[.string a, .string b, .int .u8 x, .int .u8 y, .int .i64 k] w fun e w' => e = .returned (.bool (decide (a.size + b.size ≤ 1048576))) ∧ w' = w := by
  unfold maxLen at ha hb
  by_cases h : a.size + b.size ≤ 1048576
  · have e : decide (a.size + b.size ≤ 1048576) = true := by simpa using h
    rw [e]
    go_enter Try.func9, Try.ntmps9
    go_wp2
    go_ret
    exact ⟨rfl, rfl⟩
  · have e : decide (a.size + b.size ≤ 1048576) = false := by simpa using h
    rw [e]
    by_cases h1 : 1048576 < a.size
    · go_enter Try.func9, Try.ntmps9
      go_wp2
      go_ret
      exact ⟨rfl, rfl⟩
    · by_cases h2 : 1048576 < b.size
      · go_enter Try.func9, Try.ntmps9
        go_wp2
        go_ret
        exact ⟨rfl, rfl⟩
      · go_enter Try.func9, Try.ntmps9
        go_wp2
        go_ret
        exact ⟨rfl, rfl⟩

/-- One byte as a text; n times a byte as a text. -/
def oneS (c : UInt8) : ByteArray := ⟨#[c]⟩
def repS (c : UInt8) (n : Nat) : ByteArray := ⟨(List.replicate n c).toArray⟩
theorem lst_one (c : UInt8) : lst (oneS c) = [c] := rfl
theorem lst_rep (c : UInt8) (n : Nat) : lst (repS c n) = List.replicate n c := lst_mk _
theorem conv_one (W : World) (c : UInt8) : (convert 26 9 (.slice (some ⟨W.heap.size, 0, none⟩) 1 1)).run Try.prog (W.alloc (.cells #[.int .u8 c.toNat] 5)) = .ok (.string (oneS c)) (W.alloc (.cells #[.int .u8 c.toNat] 5)) :=
  run_convert_bytes_back (P := Try.prog) (World.alloc W (.cells #[.int .u8 c.toNat] 5)) 26 9 5 ⟨W.heap.size, 0, none⟩ 1 [c] Try.underlying26 Try.underlying5 Try.underlying9 (fun j hj => by simp at hj; subst hj; simp [Addr.add])
theorem addr0 (b j : Nat) : (⟨b, 0, none⟩ : Addr).add j = ⟨b, j, none⟩ := by
  unfold Addr.add; split
  · rename_i h; subst h; rfl
  · simp
theorem conv_rep {W : World} {b n : Nat} {c : UInt8} (h : W.rowIs b 5 n (fun _ => .int .u8 c.toNat)) : (convert 26 9 (.slice (some ⟨b, 0, none⟩) n n)).run Try.prog W = .ok (.string (repS c n)) W := by
  have := run_convert_bytes_back (P := Try.prog) W 26 9 5 ⟨b, 0, none⟩ n (List.replicate n c) Try.underlying26 Try.underlying5 Try.underlying9 (fun j hj => by
    rw [addr0]
    simp at hj
    rw [h.cell hj]
    simp)
  rw [List.length_replicate] at this
  exact this

theorem lst_app (x y : ByteArray) : lst (x ++ y) = lst x ++ lst y := by unfold lst; rw [ByteArray.data_append]; simp
theorem red_joined (a b : ByteArray) (sep : UInt8) (h : isN sep.toNat = false) : redS (a ++ oneS sep ++ b) = redS a ++ oneS sep ++ redS b := by
  apply bytes_ext
  rw [lst_redS, lst_app, lst_app, lst_app, lst_app, lst_redS, lst_redS, lst_one, List.append_assoc, List.append_assoc]
  exact PRed.R_sep sep h (lst a) (lst b)
theorem rep_isB (c : UInt8) (h : isN c.toNat = true) (n : Nat) : ∀ d ∈ List.replicate n c, isB d = true := by
  intro d hd
  rw [(List.mem_replicate.1 hd).2]; exact h
theorem red_withRun (a b mid : ByteArray) (sep c : UInt8) (k : Nat) (h : isN sep.toNat = false) (hc : isN c.toNat = true) (hm : lst mid = flush (List.replicate k c)) :
    redS (a ++ oneS sep ++ repS c k ++ oneS sep ++ b) = redS a ++ oneS sep ++ mid ++ oneS sep ++ redS b := by
  apply bytes_ext
  simp only [lst_redS, lst_app, lst_one, lst_rep, hm, List.append_assoc]
  have e1 := PRed.R_sep sep h (lst a) (List.replicate k c ++ ([sep] ++ lst b))
  have e2 := PRed.R_sep sep h (List.replicate k c) (lst b)
  rw [PRed.R_run _ (rep_isB c hc k)] at e2
  simp only [List.singleton_append] at e1 ⊢
  rw [e1, e2]
theorem flush_mark (c : UInt8) (k : Nat) (h : 43 ≤ k) : lst markS = flush (List.replicate k c) := by
  unfold flush; rw [if_pos (by simpa using h)]; rfl
theorem flush_keep (c : UInt8) (k : Nat) (h : ¬ 43 ≤ k) : lst (repS c k) = flush (List.replicate k c) := by
  unfold flush; rw [if_neg (by simpa using h), lst_rep]
theorem redact_at (t s : ByteArray) (w : World) (hs : s.size ≤ 4194304) (ht : redS s = t) :
    Calls Try.prog 7 #[.string s] w fun e w' => e = .returned (.string t) ∧ Below w.heap.size w w' := by
  subst ht; exact redact_any s w hs
theorem size_redS (s : ByteArray) : (redS s).size ≤ s.size := by
  have := PRed.R_le (lst s)
  rw [← len_lst s, ← len_lst (redS s), lst_redS]; exact this
theorem size_rep (c : UInt8) (k : Nat) : (repS c k).size = k := by rw [← len_lst, lst_rep]; simp

theorem filled {w : World} {b n i : Nat} {v : Value} (h : w.rowIs b 5 n (fun j => if j < i then v else .int .u8 0)) : (w.setCell ⟨b, i, none⟩ v).rowIs b 5 n (fun j => if j < i + 1 then v else .int .u8 0) := by
  refine (h.set i _).congr fun j _ => ?_
  by_cases e : j = i
  · subst e; simp
  · by_cases h2 : j < i
    · rw [if_neg e, if_pos h2, if_pos (by omega)]
    · rw [if_neg e, if_neg h2, if_neg (by omega)]

set_option maxRecDepth 100000 in
set_option maxHeartbeats 2000000 in
theorem works_core (a b : ByteArray) (sep c : UInt8) (k : Nat) (w : World) (hab : a.size + b.size ≤ 1048576) (hk : k ≤ 65536) (hsep : isN sep.toNat = false) (hc : isN c.toNat = true) :
    Calls Try.prog 4 #[.string a, .string b, .int .u8 sep.toNat, .int .u8 c.toNat, .int .i64 k] w fun e w' => e = .returned (.bool true) ∧ Below w.heap.size w w' := by
  have hd : decide (a.size + b.size ≤ 1048576) = true := by simpa using hab
  have d1 : decide ((1048576 : Int) < (a.size : Int)) = false := by simp; omega
  have d2 : decide ((1048576 : Int) < (b.size : Int)) = false := by simp; omega
  have d3 : decide ((1048576 : Int) < (a.size : Int) + (b.size : Int)) = false := by simp; omega
  have d4 : decide ((k : Int) < 0) = false := by simp
  have d5 : decide ((65536 : Int) < (k : Int)) = false := by simp; omega
  have cs : sep.toNat ≤ 255 := by have := sep.toNat_lt; omega
  have cc : c.toNat ≤ 255 := by have := c.toNat_lt; omega
  have mk := run_make_row' (P := Try.prog) 26 5 (.int .u8 0) 1 Try.underlying26 infoByte rfl .i64 .i64 k (by omega) (by omega)
  have cv := fun W => conv_one W sep
  have HM0 : Hid (((w.alloc (.cells #[.int .u8 sep.toNat] 5)).alloc (.cells (madeCells #[.int .u8 0] k) 5)).rowIs (w.heap.size + 1) 5 k (fun _ => .int .u8 0)) := hide (by
    have := World.rowIs_made (w.alloc (.cells #[.int .u8 sep.toNat] 5)) (.int .u8 0) k 5
    rw [Deep.nblk_alloc] at this
    exact this)
  go_enter Try.func4, Try.ntmps4
  go_wp2_with (first | (go_at_call 9; refine (worksBytes_any _ _ _ _ _ _ (by unfold maxLen; omega) (by unfold maxLen; omega)).mono ?_; rintro e w' ⟨rfl, hw'⟩; have hw2 := hw'.symm; subst hw2) | (go_at_call_of 10 (Value.int IntKind.u8 sep.toNat); refine (isB64Byte_any sep.toNat _ cs).mono ?_; rintro e w' ⟨rfl, hw'⟩; have hw2 := hw'.symm; subst hw2) | (go_at_call_of 10 (Value.int IntKind.u8 c.toNat); refine (isB64Byte_any c.toNat _ cc).mono ?_; rintro e w' ⟨rfl, hw'⟩; have hw2 := hw'.symm; subst hw2))
  go_loopw [13] (fun x13 wr => ∃ i : Nat, i ≤ k ∧ x13 = .int .i64 i ∧ Hid (wr.rowIs (w.heap.size + 1) 5 k (fun j => if j < i then .int .u8 c.toNat else .int .u8 0)) ∧ Hid (Below w.heap.size w wr)) (fun x13 _ => k - (intOf x13).toNat)
  case atStart => exact ⟨0, Nat.zero_le _, rfl, hide ((unhide HM0).congr fun j _ => by simp), hide (((Below.refl _ _).alloc (Nat.le_refl _) _).alloc (by rw [Deep.nblk_alloc]; omega) _)⟩
  case round =>
    obtain ⟨i, hi, rfl, hrow, hbel⟩ := hrel
    clear HM0
    by_cases hlt : i < k
    · obtain ⟨v, z⟩ : ∃ v, wr.cell? ⟨w.heap.size + 1, i, none⟩ = some v := ⟨_, (unhide hrow).cell hlt⟩
      have f := (unhide hrow).frozen i
      go_wp2
      go_roundw
      case rel => exact ⟨i + 1, by omega, by go_num, hide (filled (unhide hrow)), hide ((unhide hbel).setCell (by show _ ≤ w.heap.size + 1; omega) _)⟩
      case measure => simp [intOf]; omega
    · have cv2 := conv_rep ((unhide hrow).congr (g := fun _ => .int .u8 c.toNat) fun j hj => by rw [if_pos (by omega)])
      have z1 : (oneS sep).size = 1 := rfl
      have z2 := size_rep c k
      have z3 := size_redS a
      have z4 := size_redS b
      have E1 := hide (red_joined a b sep hsep)
      by_cases h43 : 43 ≤ k
      · have h43I : (43 : Int) ≤ (k : Int) := by omega
        have E2 := hide (red_withRun a b markS sep c k hsep hc (flush_mark c k h43))
        go_wp2_with fail
        refine (redact_any a _ (by omega)).mono ?_
        rintro e w2 ⟨rfl, hb2⟩
        have Hb2 := hide ((unhide hbel).trans (hb2.mono (unhide hbel).size))
        clear hb2 cv2
        go_wp2_with fail
        refine (redact_any b _ (by omega)).mono ?_
        rintro e w3 ⟨rfl, hb3⟩
        have Hb3 := hide ((unhide Hb2).trans (hb3.mono (unhide Hb2).size))
        clear hb3 Hb2
        go_wp2_with fail
        refine (redact_at (redS a ++ oneS sep ++ redS b) (a ++ oneS sep ++ b) _ (by rw [ByteArray.size_append, ByteArray.size_append, z1]; omega) (unhide E1)).mono ?_
        rintro e w4 ⟨rfl, hb4⟩
        have Hb4 := hide ((unhide Hb3).trans (hb4.mono (unhide Hb3).size))
        clear hb4 Hb3
        go_wp2_with fail
        refine (redact_at (redS a ++ oneS sep ++ markS ++ oneS sep ++ redS b) (a ++ oneS sep ++ repS c k ++ oneS sep ++ b) _ (by simp only [ByteArray.size_append, z1, z2]; omega) (unhide E2)).mono ?_
        rintro e w5 ⟨rfl, hb5⟩
        have Hb5 := hide ((unhide Hb4).trans (hb5.mono (unhide Hb4).size))
        clear hb5 Hb4
        go_wp2
        go_ret
        exact ⟨ret_bool (beq_iff_eq.2 rfl), unhide Hb5⟩
      · have h43I : ¬ (43 : Int) ≤ (k : Int) := by omega
        have E2 := hide (red_withRun a b (repS c k) sep c k hsep hc (flush_keep c k h43))
        go_wp2_with fail
        refine (redact_any a _ (by omega)).mono ?_
        rintro e w2 ⟨rfl, hb2⟩
        have Hb2 := hide ((unhide hbel).trans (hb2.mono (unhide hbel).size))
        clear hb2 cv2
        go_wp2_with fail
        refine (redact_any b _ (by omega)).mono ?_
        rintro e w3 ⟨rfl, hb3⟩
        have Hb3 := hide ((unhide Hb2).trans (hb3.mono (unhide Hb2).size))
        clear hb3 Hb2
        go_wp2_with fail
        refine (redact_at (redS a ++ oneS sep ++ redS b) (a ++ oneS sep ++ b) _ (by rw [ByteArray.size_append, ByteArray.size_append, z1]; omega) (unhide E1)).mono ?_
        rintro e w4 ⟨rfl, hb4⟩
        have Hb4 := hide ((unhide Hb3).trans (hb4.mono (unhide Hb3).size))
        clear hb4 Hb3
        go_wp2_with fail
        refine (redact_at (redS a ++ oneS sep ++ (repS c k) ++ oneS sep ++ redS b) (a ++ oneS sep ++ repS c k ++ oneS sep ++ b) _ (by simp only [ByteArray.size_append, z1, z2]; omega) (unhide E2)).mono ?_
        rintro e w5 ⟨rfl, hb5⟩
        have Hb5 := hide ((unhide Hb4).trans (hb5.mono (unhide Hb4).size))
        clear hb5 Hb4
        go_wp2
        go_ret
        exact ⟨rfl, unhide Hb5⟩

set_option maxRecDepth 100000 in
set_option maxHeartbeats 1000000 in
theorem works_early (a b : ByteArray) (sep c : UInt8) (k : Int) (w : World) (ha : a.size ≤ maxLen) (hb : b.size ≤ maxLen) (h : ¬ (a.size + b.size ≤ 1048576 ∧ 0 ≤ k ∧ k ≤ 65536 ∧ isN sep.toNat = false ∧ isN c.toNat = true)) :
    Calls Try.prog 4 #[.string a, .string b, .int .u8 sep.toNat, .int .u8 c.toNat, .int .i64 k] w fun e w' => e = .returned (.bool true) ∧ Below w.heap.size w w' := by
  have cs : sep.toNat ≤ 255 := by have := sep.toNat_lt; omega
  have cc : c.toNat ≤ 255 := by have := c.toNat_lt; omega
  have HB := hide (fun w => worksBytes_any a b sep.toNat c.toNat k w ha hb)
  by_cases hab : a.size + b.size ≤ 1048576
  · have hd : decide (a.size + b.size ≤ 1048576) = true := by simpa using hab
    have d1 : decide ((1048576 : Int) < (a.size : Int)) = false := by simp; omega
    have d2 : decide ((1048576 : Int) < (b.size : Int)) = false := by simp; omega
    have d3 : decide ((1048576 : Int) < (a.size : Int) + (b.size : Int)) = false := by simp; omega
    by_cases k0 : k < 0
    · clear h
      go_enter Try.func4, Try.ntmps4
      go_wp2_with fail
      refine (unhide HB _).mono ?_
      rintro e w' ⟨rfl, rfl⟩
      go_wp2
      go_ret
      exact ⟨rfl, Below.refl _ _⟩
    have d4 : decide (k < 0) = false := by simp; omega
    by_cases k1 : 65536 < k
    · clear h
      go_enter Try.func4, Try.ntmps4
      go_wp2_with fail
      refine (unhide HB _).mono ?_
      rintro e w' ⟨rfl, rfl⟩
      go_wp2
      go_ret
      exact ⟨rfl, Below.refl _ _⟩
    have d5 : decide ((65536 : Int) < k) = false := by simp; omega
    by_cases hsep : isN sep.toNat = true
    · clear h
      go_enter Try.func4, Try.ntmps4
      go_wp2_with fail
      refine (unhide HB _).mono ?_
      rintro e w' ⟨rfl, rfl⟩
      go_wp2_with fail
      refine (isB64Byte_any sep.toNat _ cs).mono ?_
      rintro e w' ⟨rfl, rfl⟩
      go_wp2
      go_ret
      exact ⟨rfl, Below.refl _ _⟩
    have hsep' : isN sep.toNat = false := by simpa using hsep
    have hc : isN c.toNat = false := by
      cases hcc : isN c.toNat with
      | false => rfl
      | true => exact absurd ⟨hab, by omega, by omega, hsep', hcc⟩ h
    clear h hsep
    go_enter Try.func4, Try.ntmps4
    go_wp2_with fail
    refine (unhide HB _).mono ?_
    rintro e w' ⟨rfl, rfl⟩
    go_wp2_with fail
    refine (isB64Byte_any sep.toNat _ cs).mono ?_
    rintro e w' ⟨rfl, rfl⟩
    go_wp2_with fail
    refine (isB64Byte_any c.toNat _ cc).mono ?_
    rintro e w' ⟨rfl, rfl⟩
    go_wp2
    go_ret
    exact ⟨rfl, Below.refl _ _⟩
  · have hd : decide (a.size + b.size ≤ 1048576) = false := by simpa using hab
    clear h
    go_enter Try.func4, Try.ntmps4
    go_wp2_with fail
    refine (unhide HB _).mono ?_
    rintro e w' ⟨rfl, rfl⟩
    go_wp2
    go_ret
    exact ⟨rfl, Below.refl _ _⟩

theorem works_walk (a b : ByteArray) (sep c : UInt8) (k : Int) (w : World) (ha : a.size ≤ maxLen) (hb : b.size ≤ maxLen) :
    Calls Try.prog 4 #[.string a, .string b, .int .u8 sep.toNat, .int .u8 c.toNat, .int .i64 k] w fun e w' => e = .returned (.bool true) ∧ Below w.heap.size w w' := by
  by_cases h : a.size + b.size ≤ 1048576 ∧ 0 ≤ k ∧ k ≤ 65536 ∧ isN sep.toNat = false ∧ isN c.toNat = true
  · obtain ⟨h1, h2, h3, h4, h5⟩ := h
    obtain ⟨n, rfl⟩ := Int.eq_ofNat_of_zero_le h2
    exact works_core a b sep c n w h1 (by omega) h4 h5
  · exact works_early a b sep c k w ha hb h
end Go.Proofs.Qxb6605569a
