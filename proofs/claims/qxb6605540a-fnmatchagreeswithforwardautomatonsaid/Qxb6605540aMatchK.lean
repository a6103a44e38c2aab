/-
  The walk of forwardMatch.
-/
import Derived.Test.Qxb6605540aMatchJ
import Derived.Deep.RegionHeld
namespace Go.Proofs.Qxb6605540a.Mt
open Go.RowKit
open PMatch (stepAt stepMid closeTo at0 none0 fwd takes)

variable {w wr : World} {bA bM bN bX m : Nat} {a md : Nat → Bool} {ts : List PMatch.Tok} {c k : Nat}
/-- Nothing is written: neither set gains a place. -/
theorem FR.stay (h : FR w wr bA bM bN bX m a md (stepAt ts a md c k) (stepMid ts a md k)) (hA : ∀ p, stepAt ts a md c (k + 1) p = stepAt ts a md c k p) (hM : ∀ p, stepMid ts a md (k + 1) p = stepMid ts a md k p) :
    FR w wr bA bM bN bX m a md (stepAt ts a md c (k + 1)) (stepMid ts a md (k + 1)) :=
  (h.congrN fun p _ => (hA p).symm).congrX fun p _ => (hM p).symm
/-- Place q comes into the set behind. -/
theorem FR.gain (h : FR w wr bA bM bN bX m a md (stepAt ts a md c k) (stepMid ts a md k)) (q : Nat) (hA : ∀ p, stepAt ts a md c (k + 1) p = if p = q then true else stepAt ts a md c k p) (hM : ∀ p, stepMid ts a md (k + 1) p = stepMid ts a md k p) :
    FR w (wr.setCell ⟨bN, q, none⟩ (.bool true)) bA bM bN bX m a md (stepAt ts a md c (k + 1)) (stepMid ts a md (k + 1)) :=
  ((h.setN q true).congrN fun p _ => (hA p).symm).congrX fun p _ => (hM p).symm
theorem FR.gainX (h : FR w wr bA bM bN bX m a md (stepAt ts a md c k) (stepMid ts a md k)) (hA : ∀ p, stepAt ts a md c (k + 1) p = stepAt ts a md c k p) (hM : ∀ p, stepMid ts a md (k + 1) p = if p = k then true else stepMid ts a md k p) :
    FR w (wr.setCell ⟨bX, k, none⟩ (.bool true)) bA bM bN bX m a md (stepAt ts a md c (k + 1)) (stepMid ts a md (k + 1)) :=
  ((h.setX k true).congrX fun p _ => (hM p).symm).congrN fun p _ => (hA p).symm
theorem FR.gainXN (h : FR w wr bA bM bN bX m a md (stepAt ts a md c k) (stepMid ts a md k)) (q : Nat) (hA : ∀ p, stepAt ts a md c (k + 1) p = if p = q then true else stepAt ts a md c k p) (hM : ∀ p, stepMid ts a md (k + 1) p = if p = k then true else stepMid ts a md k p) :
    FR w ((wr.setCell ⟨bX, k, none⟩ (.bool true)).setCell ⟨bN, q, none⟩ (.bool true)) bA bM bN bX m a md (stepAt ts a md c (k + 1)) (stepMid ts a md (k + 1)) :=
  (((h.setX k true).setN q true).congrX fun p _ => (hM p).symm).congrN fun p _ => (hA p).symm

set_option maxRecDepth 100000 in
set_option maxHeartbeats 4000000 in
theorem forward_any (a0 a1 a2 : Option Addr) (c0 c1 c2 m : Nat) (K L : List Nat) (S : Nat → Nat → Int) (s : ByteArray) (w : World) (hm : m ≤ 1048576) (hs : s.size ≤ 1048576)
    (hKl : K.length = m) (hLl : L.length = m) (h0 : Rd w a0 K) (h1 : Rd w a1 L) (h2 : RdS w a2 m S) (hK : ∀ i, i < m → nth K i ≤ 255) (hS : ∀ i, i < m → ∀ j, j < 4 → 0 ≤ S i j ∧ S i j ≤ 18446744073709551615) :
    Calls Try.prog 11 #[.slice a0 m c0, .slice a1 m c1, .slice a2 m c2, .string s] w fun e w' => e = .returned (.bool (PMatch.M (toks m K L S) (bts s))) ∧ Below w.heap.size w w' := by
  obtain ⟨ts, hts⟩ : ∃ ts, ts = toks m K L S := ⟨_, rfl⟩
  rw [← hts]
  have HTL : Hid (ts.length = m) := hide (by rw [hts]; exact len_toks m K L S)
  have HTK : Hid (∀ i, i < m → ts.getD i ⟨0, 0, fun _ => false⟩ = tokOf (nth K i) (nth L i) (S i)) := hide (fun i hi => by
    rw [hts]; simp [toks, List.getD, hi])
  have HTkind : Hid (∀ i, i < m → tkind ts i = nth K i) := hide (fun i hi => by unfold tkind; rw [unhide HTK i hi]; rfl)
  have hfin := hide (stA_end ts (bts s))
  rw [len_bts, unhide HTL] at hfin
  clear hts
  have H0 := hide h0
  have H1 := hide h1
  have H2 := hide h2
  have HK := hide hK
  have HS := hide hS
  have HKl := hide hKl
  have HLl := hide hLl
  clear h0 h1 h2 hK hS hKl hLl
  have hmk := run_make_row' (P := Try.prog) 35 4 (.bool false) 1 Try.underlying35 info4 rfl .i64 .i64 (m + 1) (by omega) (by omega)
  rw [show ((m + 1 : Nat) : Int) = (m : Int) + 1 from by omega] at hmk
  have hc0 : (madeCells #[Value.bool false] (m + 1))[0]? = some (.bool false) := by simp [madeCells, Nat.mod_one]
  go_enter Try.func11, Try.ntmps11
  go_wp2_with fail
  have hb4 : Below w.heap.size w ((((w.alloc (.cells ((madeCells #[.bool false] (m + 1)).setIfInBounds 0 (.bool true)) 4)).alloc (.cells (madeCells #[.bool false] (m + 1)) 4)).alloc (.cells (madeCells #[.bool false] (m + 1)) 4)).alloc (.cells (madeCells #[.bool false] (m + 1)) 4)) := by
    have b0 := (Below.refl w.heap.size w).alloc (Nat.le_refl _) (.cells ((madeCells #[.bool false] (m + 1)).setIfInBounds 0 (.bool true)) 4)
    have b1 := b0.alloc b0.size (.cells (madeCells #[.bool false] (m + 1)) 4)
    have b2 := b1.alloc b1.size (.cells (madeCells #[.bool false] (m + 1)) 4)
    exact b2.alloc b2.size _
  refine (close_any a0 m c0 w.heap.size K ts at0 _ hm (unhide HKl) (unhide HTkind) (unhide HK) ?_ (by exact (unhide H0).below hb4) (by exact (((at_start w m).alloc _).alloc _).alloc _)).mono ?_
  · intro hm0 b off e
    rcases unhide H0 with h | ⟨b', off', e', hlt, _⟩
    · have := unhide HKl; simp [h] at this; omega
    · rw [e] at e'; simp at e'; omega
  rintro e w1 ⟨rfl, hrow, hgr⟩
  have HF := hide (FR_start w m _ hgr hrow)
  clear hrow hgr hb4
  go_wp2
  go_loopw [10, 11, 12, 13, 14] (fun x10 x11 x12 x13 x14 wr => ∃ (p bA bM bN bX : Nat) (n x : Nat → Bool), p ≤ s.size ∧ x14 = .int .i64 p ∧ x10 = .slice (some ⟨bA, 0, none⟩) (m + 1) (m + 1) ∧ x11 = .slice (some ⟨bM, 0, none⟩) (m + 1) (m + 1) ∧
      x12 = .slice (some ⟨bN, 0, none⟩) (m + 1) (m + 1) ∧ x13 = .slice (some ⟨bX, 0, none⟩) (m + 1) (m + 1) ∧ FR w wr bA bM bN bX m (stA1 ts (bts s) p) (stA2 ts (bts s) p) n x) (fun _ _ _ _ x14 _ => s.size - (intOf x14).toNat)
  case atStart => exact ⟨0, w.heap.size, w.heap.size + 1, w.heap.size + 1 + 1, w.heap.size + 1 + 1 + 1, _, _, Nat.zero_le _, rfl, rfl, rfl, rfl, rfl, by
      have h : stA1 ts (bts s) 0 = closeTo ts at0 m := by unfold stA1 stA; rw [unhide HTL]
      rw [h]; exact unhide HF⟩
  case round =>
    obtain ⟨p, bA, bM, bN, bX, n, x, hp, rfl, rfl, rfl, rfl, rfl, hFR⟩ := hrel
    clear HF hc0 hmk
    rename World => w2
    by_cases hlt : p < s.size
    · have HB := hide (nth_bts s p hlt)
      have hcb : s[p].toNat ≤ 255 := by have := s[p].toNat_lt; omega
      go_wp2
      go_loopw [16] (fun x16 wr => ∃ k : Nat, k ≤ m + 1 ∧ x16 = .int .i64 k ∧ FR w wr bA bM bN bX m (stA1 ts (bts s) p) (stA2 ts (bts s) p) (fun q => if q < k then false else n q) (fun q => if q < k then false else x q)) (fun x16 _ => m + 1 - (intOf x16).toNat)
      case atStart => exact ⟨0, Nat.zero_le _, rfl, (hFR.congrN fun q _ => by simp).congrX fun q _ => by simp⟩
      case round =>
        obtain ⟨k, hk, rfl, hF⟩ := hrel
        by_cases hkm : k ≤ m
        · obtain ⟨v1, d1⟩ : ∃ v, wr.cell? ⟨bN, k, none⟩ = some v := ⟨_, hF.rn.cell (by omega)⟩
          obtain ⟨v2, d2⟩ : ∃ v, wr.cell? ⟨bX, k, none⟩ = some v := ⟨_, hF.rx.cell (by omega)⟩
          have f1 := hF.rn.frozen k
          have f2 := hF.rx.frozen k
          have hnx := hF.nx
          have hkI : (k : Int) < (m : Int) + 1 := by omega
          clear hFR
          go_wp2
          go_roundw
          case rel => exact ⟨k + 1, by omega, by go_num, hF.clear⟩
          case measure => simp [intOf]; omega
        · have hkm1 : k = m + 1 := by omega
          have hG := hide (hF.cleared hkm1 ts s[p].toNat)
          clear hF hFR
          clear hkm1
          go_wp2
          go_loopw [17] (fun x17 wr => ∃ i : Nat, i ≤ m ∧ x17 = .int .i64 i ∧ FR w wr bA bM bN bX m (stA1 ts (bts s) p) (stA2 ts (bts s) p) (stepAt ts (stA1 ts (bts s) p) (stA2 ts (bts s) p) s[p].toNat i) (stepMid ts (stA1 ts (bts s) p) (stA2 ts (bts s) p) i)) (fun x17 _ => m - (intOf x17).toNat)
          case atStart => exact ⟨0, Nat.zero_le _, rfl, unhide hG⟩
          case round =>
            obtain ⟨i, hi, rfl, hF⟩ := hrel
            clear hG
            by_cases him : i < m
            · obtain ⟨b0, o0, rfl, l0, r0⟩ : ∃ b off, a0 = some ⟨b, off, none⟩ ∧ b < wr.heap.size ∧ wr.cell? ⟨b, off + i, none⟩ = some (.int .u8 (nth K i)) := by
                rcases hF.rd (unhide H0) with h | ⟨b, off, e, hl, h⟩
                · have := unhide HKl; simp [h] at this; omega
                · exact ⟨b, off, e, hl, h i (by rw [unhide HKl]; exact him)⟩
              have hk255 := unhide HK i him
              have hTk := unhide HTkind i him
              have hTK := unhide HTK i him
              obtain ⟨kq, hkq⟩ : ∃ kq, kq = nth K i := ⟨_, rfl⟩
              rw [← hkq] at r0 hk255 hTk hTK
              have HTi := hide hTk
              have HTKi := hide hTK
              clear hTk hTK hkq
              have cA : wr.cell? ⟨bA, i, none⟩ = some (.bool (stA1 ts (bts s) p i)) := hF.ra.cell (by omega)
              have cM : wr.cell? ⟨bM, i, none⟩ = some (.bool (stA2 ts (bts s) p i)) := hF.rm.cell (by omega)
              obtain ⟨v1, cN0⟩ : ∃ v, wr.cell? ⟨bN, i, none⟩ = some v := ⟨_, hF.rn.cell (by omega)⟩
              obtain ⟨v2, cN1⟩ : ∃ v, wr.cell? ⟨bN, i + 1, none⟩ = some v := ⟨_, hF.rn.cell (by omega)⟩
              obtain ⟨v3, cX0⟩ : ∃ v, wr.cell? ⟨bX, i, none⟩ = some v := ⟨_, hF.rx.cell (by omega)⟩
              have fN0 := hF.rn.frozen i
              have fN1 := hF.rn.frozen (i + 1)
              have fX0 := hF.rx.frozen i
              have lN := hF.rn.lt
              have lA := hF.ra.lt
              have hnx := hF.nx
              have hiI : (i : Int) < (m : Int) + 1 := by omega
              have hiI1 : (i : Int) + 1 < (m : Int) + 1 := by omega
              by_cases h3 : kq = 3
              · subst h3
                by_cases hA : stA1 ts (bts s) p i = true
                · by_cases h47 : s[p].toNat = 47
                  · have c47 : ((s[p].toNat : Int) != 47) = false := by simp [h47]
                    have H47 := hide h47
                    clear h47
                    go_wp2
                    go_roundw
                    case rel => exact ⟨i + 1, by omega, by go_num, hF.stay (fun q => by rw [sA3 _ _ _ _ _ _ (unhide HTi), hA, unhide H47]; exact or_no _ _ _) (fun q => sM1 _ _ _ _ _ (by rw [unhide HTi]; omega))⟩
                    case measure => simp [intOf]; omega
                  · have c47 : ((s[p].toNat : Int) != 47) = true := by simp; omega
                    go_wp2
                    go_roundw
                    case rel => exact ⟨i + 1, by omega, by go_num, hF.gain i (fun q => by rw [sA3 _ _ _ _ _ _ (unhide HTi), hA, decide_eq_true h47]; exact or_yes _ _ _) (fun q => sM1 _ _ _ _ _ (by rw [unhide HTi]; omega))⟩
                    case measure => simp [intOf]; omega
                · have hA' : stA1 ts (bts s) p i = false := by simpa using hA
                  clear hA
                  go_wp2
                  go_roundw
                  case rel => exact ⟨i + 1, by omega, by go_num, hF.stay (fun q => by rw [sA3 _ _ _ _ _ _ (unhide HTi), hA']; exact or_no _ _ _) (fun q => sM1 _ _ _ _ _ (by rw [unhide HTi]; omega))⟩
                  case measure => simp [intOf]; omega
              by_cases h4 : kq = 4
              · subst h4
                by_cases hA : stA1 ts (bts s) p i = true
                · go_wp2
                  go_roundw
                  case rel => exact ⟨i + 1, by omega, by go_num, hF.gain i (fun q => by rw [sA4 _ _ _ _ _ _ (unhide HTi), hA]; exact or_yes _ _ _) (fun q => sM1 _ _ _ _ _ (by rw [unhide HTi]; omega))⟩
                  case measure => simp [intOf]; omega
                · have hA' : stA1 ts (bts s) p i = false := by simpa using hA
                  clear hA
                  go_wp2
                  go_roundw
                  case rel => exact ⟨i + 1, by omega, by go_num, hF.stay (fun q => by rw [sA4 _ _ _ _ _ _ (unhide HTi), hA']; exact or_no _ _ _) (fun q => sM1 _ _ _ _ _ (by rw [unhide HTi]; omega))⟩
                  case measure => simp [intOf]; omega
              by_cases h5 : kq = 5
              · subst h5
                by_cases hA : (stA1 ts (bts s) p i || stA2 ts (bts s) p i) = true
                · have HA := hide hA
                  by_cases h47 : s[p].toNat = 47
                  · have c47 : ((s[p].toNat : Int) == 47) = true := by simp [h47]
                    have H47 := hide h47
                    clear h47
                    by_cases hA1 : stA1 ts (bts s) p i = true
                    · clear hA
                      go_wp2
                      go_roundw
                      case rel => exact ⟨i + 1, by omega, by go_num, hF.gainXN (i + 1) (fun q => by rw [sA5 _ _ _ _ _ _ (unhide HTi), unhide HA, unhide H47]; exact or_yes _ _ _) (fun q => by rw [sM5 _ _ _ _ _ (unhide HTi), unhide HA]; exact or_yes _ _ _)⟩
                      case measure => simp [intOf]; omega
                    · have hA1' : stA1 ts (bts s) p i = false := by simpa using hA1
                      have hA2 : stA2 ts (bts s) p i = true := by simpa [hA1'] using hA
                      clear hA hA1
                      go_wp2
                      go_roundw
                      case rel => exact ⟨i + 1, by omega, by go_num, hF.gainXN (i + 1) (fun q => by rw [sA5 _ _ _ _ _ _ (unhide HTi), unhide HA, unhide H47]; exact or_yes _ _ _) (fun q => by rw [sM5 _ _ _ _ _ (unhide HTi), unhide HA]; exact or_yes _ _ _)⟩
                      case measure => simp [intOf]; omega
                  · have c47 : ((s[p].toNat : Int) == 47) = false := beq_eq_false_iff_ne.2 (by omega)
                    by_cases hA1 : stA1 ts (bts s) p i = true
                    · clear hA
                      go_wp2
                      go_roundw
                      case rel => exact ⟨i + 1, by omega, by go_num, hF.gainX (fun q => by rw [sA5 _ _ _ _ _ _ (unhide HTi), unhide HA, decide_eq_false h47]; exact or_no _ _ _) (fun q => by rw [sM5 _ _ _ _ _ (unhide HTi), unhide HA]; exact or_yes _ _ _)⟩
                      case measure => simp [intOf]; omega
                    · have hA1' : stA1 ts (bts s) p i = false := by simpa using hA1
                      have hA2 : stA2 ts (bts s) p i = true := by simpa [hA1'] using hA
                      clear hA hA1
                      go_wp2
                      go_roundw
                      case rel => exact ⟨i + 1, by omega, by go_num, hF.gainX (fun q => by rw [sA5 _ _ _ _ _ _ (unhide HTi), unhide HA, decide_eq_false h47]; exact or_no _ _ _) (fun q => by rw [sM5 _ _ _ _ _ (unhide HTi), unhide HA]; exact or_yes _ _ _)⟩
                      case measure => simp [intOf]; omega
                · have hA' : (stA1 ts (bts s) p i || stA2 ts (bts s) p i) = false := by simpa using hA
                  have HA := hide hA'
                  have hA1 : stA1 ts (bts s) p i = false := (Bool.or_eq_false_iff.1 hA').1
                  have hA2 : stA2 ts (bts s) p i = false := (Bool.or_eq_false_iff.1 hA').2
                  clear hA hA'
                  go_wp2
                  go_roundw
                  case rel => exact ⟨i + 1, by omega, by go_num, hF.stay (fun q => by rw [sA5 _ _ _ _ _ _ (unhide HTi), unhide HA]; exact or_no _ _ _) (fun q => by rw [sM5 _ _ _ _ _ (unhide HTi), unhide HA]; exact or_no _ _ _)⟩
                  case measure => simp [intOf]; omega
              have k3 : ((kq : Int) == 3) = false := beq_eq_false_iff_ne.2 (by omega)
              have k4 : ((kq : Int) == 4) = false := beq_eq_false_iff_ne.2 (by omega)
              have k5 : ((kq : Int) == 5) = false := beq_eq_false_iff_ne.2 (by omega)
              have SM : Hid (∀ q, stepMid ts (stA1 ts (bts s) p) (stA2 ts (bts s) p) (i + 1) q = stepMid ts (stA1 ts (bts s) p) (stA2 ts (bts s) p) i q) := hide (fun q => sM1 _ _ _ _ _ (by rw [unhide HTi]; omega))
              have SA : Hid (∀ q, stepAt ts (stA1 ts (bts s) p) (stA2 ts (bts s) p) s[p].toNat (i + 1) q = (stepAt ts (stA1 ts (bts s) p) (stA2 ts (bts s) p) s[p].toNat i q || (decide (q = i + 1) && (stA1 ts (bts s) p i && takes (tokOf kq (nth L i) (S i)) s[p].toNat)))) := hide (fun q => by
                rw [sA1 _ _ _ _ _ _ (by rw [unhide HTi]; omega) (by rw [unhide HTi]; omega) (by rw [unhide HTi]; omega), unhide HTKi])
              by_cases hA : stA1 ts (bts s) p i = true
              · obtain ⟨b1, o1, rfl, l1, r1⟩ : ∃ b off, a1 = some ⟨b, off, none⟩ ∧ b < wr.heap.size ∧ wr.cell? ⟨b, off + i, none⟩ = some (.int .u8 (nth L i)) := by
                  rcases hF.rd (unhide H1) with h | ⟨b, off, e, hl, h⟩
                  · have := unhide HLl; simp [h] at this; omega
                  · exact ⟨b, off, e, hl, h i (by rw [unhide HLl]; exact him)⟩
                obtain ⟨b2, o2, rfl, l2, r2⟩ : ∃ b off, a2 = some ⟨b, off, none⟩ ∧ b < wr.heap.size ∧ ∀ j, j < 4 → wr.cell? ⟨b, off + i * 4 + j, none⟩ = some (.int .u64 (S i j)) := by
                  rcases hF.rdS (unhide H2) with h | ⟨b, off, e, hl, h⟩
                  · omega
                  · exact ⟨b, off, e, hl, h i him⟩
                have e20 : wr.cell? ⟨b2, o2 + i * 4, none⟩ = some (.int .u64 (S i 0)) := r2 0 (by omega)
                have e21 := r2 1 (by omega)
                have e22 := r2 2 (by omega)
                have e23 := r2 3 (by omega)
                clear r2
                have hiS : (i : Int) < (m : Int) := by omega
                have HM := hide (fun W => takes_any kq (nth L i) s[p].toNat (S i) W hk255 hcb (unhide HS i him))
                rw [hA] at cA
                by_cases hta : takes (tokOf kq (nth L i) (S i)) s[p].toNat = true
                · rw [hta] at HM
                  have SA1 := hide (fun q => by have h := unhide SA q; rw [hA, hta] at h; exact h.trans (or_yes _ _ _))
                  clear SA hta
                  go_wp2
                  have K1 : Hid ((fun w' => w'.cell? ⟨bA, i, none⟩ = some (.bool true) ∧ w'.cell? ⟨b1, o1 + i, none⟩ = some (.int .u8 (nth L i)) ∧ w'.cell? ⟨b2, o2 + i * 4, none⟩ = some (.int .u64 (S i 0)) ∧ w'.cell? ⟨b2, o2 + i * 4 + 1, none⟩ = some (.int .u64 (S i 1)) ∧ w'.cell? ⟨b2, o2 + i * 4 + 2, none⟩ = some (.int .u64 (S i 2)) ∧ w'.cell? ⟨b2, o2 + i * 4 + 3, none⟩ = some (.int .u64 (S i 3))) wr.drew) := hide ⟨cA, r1, e20, e21, e22, e23⟩
                  have K2 : Hid (∀ o, (fun w' => w'.cell? ⟨bA, i, none⟩ = some (.bool true) ∧ w'.cell? ⟨b1, o1 + i, none⟩ = some (.int .u8 (nth L i)) ∧ w'.cell? ⟨b2, o2 + i * 4, none⟩ = some (.int .u64 (S i 0)) ∧ w'.cell? ⟨b2, o2 + i * 4 + 1, none⟩ = some (.int .u64 (S i 1)) ∧ w'.cell? ⟨b2, o2 + i * 4 + 2, none⟩ = some (.int .u64 (S i 2)) ∧ w'.cell? ⟨b2, o2 + i * 4 + 3, none⟩ = some (.int .u64 (S i 3))) (wr.alloc o).drew) := hide (fun o => ⟨(World.cell?_alloc_lt _ _ _ lA).trans cA, (World.cell?_alloc_lt _ _ _ l1).trans r1, (World.cell?_alloc_lt _ _ _ l2).trans e20, (World.cell?_alloc_lt _ _ _ l2).trans e21, (World.cell?_alloc_lt _ _ _ l2).trans e22, (World.cell?_alloc_lt _ _ _ l2).trans e23⟩)
                  go_region_held (fun w' => w'.cell? ⟨bA, i, none⟩ = some (.bool true) ∧ w'.cell? ⟨b1, o1 + i, none⟩ = some (.int .u8 (nth L i)) ∧ w'.cell? ⟨b2, o2 + i * 4, none⟩ = some (.int .u64 (S i 0)) ∧ w'.cell? ⟨b2, o2 + i * 4 + 1, none⟩ = some (.int .u64 (S i 1)) ∧ w'.cell? ⟨b2, o2 + i * 4 + 2, none⟩ = some (.int .u64 (S i 2)) ∧ w'.cell? ⟨b2, o2 + i * 4 + 3, none⟩ = some (.int .u64 (S i 3))) ((first | exact unhide K1 | exact unhide K2 _)) ((go_at_call 30; refine (unhide HM _).mono ?_; rintro e w' ⟨rfl, rfl⟩))
                  go_wp2
                  go_roundw
                  case rel => exact ⟨i + 1, by omega, by go_num, ((hF.gain (i + 1) (unhide SA1) (unhide SM)).alloc _).drew⟩
                  case measure => simp [intOf]; omega
                · have hta' : takes (tokOf kq (nth L i) (S i)) s[p].toNat = false := by simpa using hta
                  clear hta
                  rw [hta'] at HM
                  have SA1 := hide (fun q => by have h := unhide SA q; rw [hA, hta'] at h; exact h.trans (or_no _ _ _))
                  clear SA hta'
                  go_wp2
                  have K1 : Hid ((fun w' => w'.cell? ⟨bA, i, none⟩ = some (.bool true) ∧ w'.cell? ⟨b1, o1 + i, none⟩ = some (.int .u8 (nth L i)) ∧ w'.cell? ⟨b2, o2 + i * 4, none⟩ = some (.int .u64 (S i 0)) ∧ w'.cell? ⟨b2, o2 + i * 4 + 1, none⟩ = some (.int .u64 (S i 1)) ∧ w'.cell? ⟨b2, o2 + i * 4 + 2, none⟩ = some (.int .u64 (S i 2)) ∧ w'.cell? ⟨b2, o2 + i * 4 + 3, none⟩ = some (.int .u64 (S i 3))) wr.drew) := hide ⟨cA, r1, e20, e21, e22, e23⟩
                  have K2 : Hid (∀ o, (fun w' => w'.cell? ⟨bA, i, none⟩ = some (.bool true) ∧ w'.cell? ⟨b1, o1 + i, none⟩ = some (.int .u8 (nth L i)) ∧ w'.cell? ⟨b2, o2 + i * 4, none⟩ = some (.int .u64 (S i 0)) ∧ w'.cell? ⟨b2, o2 + i * 4 + 1, none⟩ = some (.int .u64 (S i 1)) ∧ w'.cell? ⟨b2, o2 + i * 4 + 2, none⟩ = some (.int .u64 (S i 2)) ∧ w'.cell? ⟨b2, o2 + i * 4 + 3, none⟩ = some (.int .u64 (S i 3))) (wr.alloc o).drew) := hide (fun o => ⟨(World.cell?_alloc_lt _ _ _ lA).trans cA, (World.cell?_alloc_lt _ _ _ l1).trans r1, (World.cell?_alloc_lt _ _ _ l2).trans e20, (World.cell?_alloc_lt _ _ _ l2).trans e21, (World.cell?_alloc_lt _ _ _ l2).trans e22, (World.cell?_alloc_lt _ _ _ l2).trans e23⟩)
                  go_region_held (fun w' => w'.cell? ⟨bA, i, none⟩ = some (.bool true) ∧ w'.cell? ⟨b1, o1 + i, none⟩ = some (.int .u8 (nth L i)) ∧ w'.cell? ⟨b2, o2 + i * 4, none⟩ = some (.int .u64 (S i 0)) ∧ w'.cell? ⟨b2, o2 + i * 4 + 1, none⟩ = some (.int .u64 (S i 1)) ∧ w'.cell? ⟨b2, o2 + i * 4 + 2, none⟩ = some (.int .u64 (S i 2)) ∧ w'.cell? ⟨b2, o2 + i * 4 + 3, none⟩ = some (.int .u64 (S i 3))) ((first | exact unhide K1 | exact unhide K2 _)) ((go_at_call 30; refine (unhide HM _).mono ?_; rintro e w' ⟨rfl, rfl⟩))
                  go_wp2
                  go_roundw
                  case rel => exact ⟨i + 1, by omega, by go_num, ((hF.stay (unhide SA1) (unhide SM)).alloc _).drew⟩
                  case measure => simp [intOf]; omega
              · have hA' : stA1 ts (bts s) p i = false := by simpa using hA
                clear hA
                rw [hA'] at cA
                go_wp2
                go_quiet (fail)
                go_wp2
                go_roundw
                case rel => exact ⟨i + 1, by omega, by go_num, (hF.drewN _).stay (fun q => by rw [unhide SA, hA']; exact or_no _ _ _) (unhide SM)⟩
                case measure => simp [intOf]; omega
            · obtain rfl : i = m := by omega
              go_wp2_with fail
              refine (close_any a0 i c0 bN K ts (stepAt ts (stA1 ts (bts s) p) (stA2 ts (bts s) p) s[p].toNat i) _ hm (unhide HKl) (unhide HTkind) (unhide HK) ?_ (by exact hF.rd (unhide H0)) (by exact hF.rn)).mono ?_
              · intro hm0 b off e
                rcases unhide H0 with h | ⟨b', off', e', hlt', _⟩
                · have := unhide HKl; simp [h] at this; omega
                · rw [e] at e'; simp at e'; have := hF.ln; omega
              rintro e w3 ⟨rfl, hrow, hgr⟩
              have hF3 := hide (hF.grownN hgr hrow)
              clear hrow hgr hF
              go_wp2
              go_roundw
              case rel =>
                refine ⟨p + 1, bN, bX, bA, bM, stA1 ts (bts s) p, stA2 ts (bts s) p, by omega, by go_num, rfl, rfl, rfl, rfl, ?_⟩
                have h1 : stA1 ts (bts s) (p + 1) = closeTo ts (stepAt ts (stA1 ts (bts s) p) (stA2 ts (bts s) p) s[p].toNat i) i := by
                  show closeTo ts (stepAt ts (stA1 ts (bts s) p) (stA2 ts (bts s) p) (nth (bts s) p) ts.length) ts.length = _
                  rw [unhide HTL, unhide HB]
                have h2 : stA2 ts (bts s) (p + 1) = stepMid ts (stA1 ts (bts s) p) (stA2 ts (bts s) p) i := by
                  show stepMid ts (stA1 ts (bts s) p) (stA2 ts (bts s) p) ts.length = _
                  rw [unhide HTL]
                rw [h1, h2]
                exact (unhide hF3).swap
              case measure => simp [intOf]; omega
    · have hcm : w2.cell? ⟨bA, m, none⟩ = some (.bool (stA1 ts (bts s) p m)) := hFR.ra.cell (by omega)
      obtain rfl : p = s.size := by omega
      have hmI : (m : Int) < (m : Int) + 1 := by omega
      go_wp2
      go_ret
      exact ⟨ret_bool (unhide hfin), hFR.bel⟩
end Go.Proofs.Qxb6605540a.Mt
