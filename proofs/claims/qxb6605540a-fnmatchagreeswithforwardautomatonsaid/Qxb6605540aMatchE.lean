/-
  The walk of 'match'.
-/
import Derived.Test.Qxb6605540aMatchD
namespace Go.Proofs.Qxb6605540a.Mt
open Go.RowKit
open PMatch (M)

theorem ne_slash (s : ByteArray) (p : Nat) (hp : p < s.size) : ((s[p].toNat : Int) != 47) = decide (nth (bts s) p ≠ 47) := by
  rw [nth_bts s p hp, Bool.eq_iff_iff, bne_iff_ne, decide_eq_true_iff]; omega
theorem eq_slash (s : ByteArray) (p : Nat) (hp : p < s.size) : ((s[p].toNat : Int) == 47) = decide (nth (bts s) p = 47) := by
  rw [nth_bts s p hp, Bool.eq_iff_iff, beq_iff_eq, decide_eq_true_iff]; omega
theorem val_bool {a b : Bool} (h : a = b) : Value.bool a = .bool b := by rw [h]

set_option maxRecDepth 100000 in
set_option maxHeartbeats 4000000 in
theorem match_any (b m : Nat) (K L : List Nat) (S : Nat → Nat → Int) (s : ByteArray) (w : World) (hm : m ≤ 1048576) (hs : s.size ≤ 1048576) (hT : TokAt w b m K L S) (hK : ∀ i, i < m → nth K i ≤ 255) :
    Calls Try.prog 27 #[.slice (some ⟨b, 0, none⟩) m m, .string s] w fun e w' => e = .returned (.bool (M (toks m K L S) (bts s))) ∧ Below w.heap.size w w' := by
  have hmk := run_make_row' (P := Try.prog) 35 4 (.bool false) 1 Try.underlying35 info4 rfl .i64 .i64 (s.size + 1) (by omega) (by omega)
  rw [show ((s.size + 1 : Nat) : Int) = (s.size : Int) + 1 from by omega] at hmk
  have hc0 : (madeCells #[Value.bool false] (s.size + 1))[s.size]? = some (.bool false) := by simp [madeCells, Nat.mod_one]
  have hT' := hide hT
  have hK' := hide hK
  have hl := hide (len_bts s)
  have hlt := hide (len_toks m K L S)
  have hfin : Hid (M (toks m K L S) (bts s) = MT (toks m K L S) (bts s) 0 0) := hide rfl
  clear hT hK
  obtain ⟨ts, hts⟩ : ∃ ts, ts = toks m K L S := ⟨_, rfl⟩
  rw [← hts] at hfin hlt ⊢
  have Hts := hide hts
  clear hts
  have H0 := hide (RR_start w s.size (MT ts (bts s) m) (fun p hp => by have := MT_last ts (bts s) p (by rw [unhide hl]; exact hp); rw [unhide hlt, unhide hl] at this; exact this))
  have hd : Hid (∀ q, q < m → ts.drop q = tokOf (nth K q) (nth L q) (S q) :: ts.drop (q + 1)) := hide (fun q hq => by rw [unhide Hts]; exact drop_toks m K L S q hq)
  go_enter Try.func27, Try.ntmps27
  go_wp2
  go_loopw [5, 6, 7] (fun x5 x6 x7 wr => ∃ (i bR bW : Nat) (g : Nat → Bool) (z : Int), i ≤ m ∧ x7 = .int .i64 z ∧ z = (i : Int) - 1 ∧ x5 = .slice (some ⟨bR, 0, none⟩) (s.size + 1) (s.size + 1) ∧ x6 = .slice (some ⟨bW, 0, none⟩) (s.size + 1) (s.size + 1) ∧
      RR w wr bR bW s.size (MT ts (bts s) i) g) (fun _ _ x7 _ => (intOf x7 + 1).toNat)
  case atStart => exact ⟨m, w.heap.size, w.heap.size + 1, _, _, Nat.le_refl _, rfl, rfl, rfl, rfl, unhide H0⟩
  case round =>
    obtain ⟨i, bR, bW, g, z, hi, rfl, hz, rfl, rfl, hRR⟩ := hrel
    rename World => w1
    clear H0 hc0
    by_cases h0 : i = 0
    · subst h0
      obtain rfl : z = -1 := by omega
      clear hz
      have hc := hRR.cellR (p := 0) (Nat.zero_le _)
      have hz0 : (0 : Int) < (s.size : Int) + 1 := by omega
      go_wp2
      go_ret
      exact ⟨ret_bool (unhide hfin).symm, hRR.bel⟩
    · obtain ⟨q, rfl⟩ : ∃ q, i = q + 1 := ⟨i - 1, by omega⟩
      have hq : q < m := by omega
      obtain rfl : z = (q : Int) := by omega
      clear hz
      have hbw : b < w.heap.size := (unhide hT').1.lt
      have hbr : b < w1.heap.size := Nat.lt_of_lt_of_le hbw hRR.bel.size
      have hbs : b + 1 + q < w.heap.size := ((unhide hT').2 q hq).lt
      have t0 : w1.cell? ⟨b, q * 3, none⟩ = some (.int .u8 (nth K q)) := by
        rw [hRR.bel.cell (p := ⟨b, q * 3, none⟩) hbw, (unhide hT').1.cell (by omega), tok0]
      have t1 : w1.cell? ⟨b, q * 3 + 1, none⟩ = some (.int .u8 (nth L q)) := by
        rw [hRR.bel.cell (p := ⟨b, q * 3 + 1, none⟩) hbw, (unhide hT').1.cell (by omega), tok1]
      have t2 : w1.cell? ⟨b, q * 3 + 2, none⟩ = some (.pointer (some ⟨b + 1 + q, 0, none⟩)) := by
        rw [hRR.bel.cell (p := ⟨b, q * 3 + 2, none⟩) hbw, (unhide hT').1.cell (by omega), tok2]
      have hrs : w1.rowIs (b + 1 + q) 66 4 (fun j => .int .u64 (S q j)) := ((unhide hT').2 q hq).of_block (hRR.bel.block _ hbs)
      have hk := unhide hK' q hq
      have hdq := unhide hd q hq
      obtain ⟨k, hk'⟩ : ∃ k, k = nth K q := ⟨_, rfl⟩
      obtain ⟨l, hl'⟩ : ∃ l, l = nth L q := ⟨_, rfl⟩
      rw [← hk'] at t0 hk hdq
      rw [← hl'] at t1 hdq
      clear hk' hl'
      have HD := hide hdq
      clear hdq
      have cRn := hRR.cellR (p := s.size) (Nat.le_refl _)
      have cWn := hRR.cellW (p := s.size) (Nat.le_refl _)
      have fWn := hRR.wri.frozen s.size
      have lR := hRR.row.lt
      have lW := hRR.wri.lt
      have hnI : (s.size : Int) < (s.size : Int) + 1 := by omega
      by_cases h3 : k = 3
      · subst h3
        have F0 := hide (MT_star_end (bs := bts s) (unhide HD) (.inl rfl))
        have F1 := hide (MT_star (bs := bts s) (unhide HD) rfl)
        rw [unhide hl] at F0 F1
        go_wp2
        go_loopw [9] (fun x9 wr => ∃ j : Nat, j ≤ s.size ∧ x9 = .int .i64 ((j : Int) - 1) ∧ RR w wr bR bW s.size (MT ts (bts s) (q + 1)) (fun p => if j ≤ p then MT ts (bts s) q p else g p) ∧ wr.rowIs w1.heap.size 64 3 (tri (.int .u8 3) (.int .u8 l) (.pointer (some ⟨b + 1 + q, 0, none⟩)))) (fun x9 _ => (intOf x9 + 1).toNat)
        case atStart => exact ⟨s.size, Nat.le_refl _, rfl, (hRR.first (val_bool (unhide F0).symm)).alloc _, box_row (size_set _ _ _)⟩
        case round =>
          obtain ⟨j, hj, rfl, hRi, hbox⟩ := hrel
          clear t0 t1 t2 cRn cWn fWn lR hRR hrs hbw hbr hbs
          by_cases hj0 : j = 0
          · subst hj0
            go_wp2
            go_roundw
            case rel => exact ⟨q, bW, bR, _, _, by omega, rfl, rfl, rfl, rfl, hRi.all.swap⟩
            case measure => simp [intOf]
          · obtain ⟨p, rfl⟩ : ∃ p, j = p + 1 := ⟨j - 1, by omega⟩
            have hp : p < s.size := by omega
            have c1 := hRi.cellR (p := p) (by omega)
            have c2 := hRi.cellF (by omega)
            obtain ⟨v3, c3⟩ : ∃ v, wr.cell? ⟨bW, p, none⟩ = some v := ⟨_, hRi.cellW (p := p) (by omega)⟩
            have f3 := hRi.wri.frozen p
            have cT : wr.cell? ⟨w1.heap.size, 0, none⟩ = some (.int .u8 3) := hbox.cell (i := 0) (by omega)
            have hpI : (p : Int) < (s.size : Int) + 1 := by omega
            have hpI1 : (p : Int) + 1 < (s.size : Int) + 1 := by omega
            have NB := hide (ne_slash s p hp)
            have F2 := hide (unhide F1 p hp)
            go_wp2
            · go_roundw
              case rel => exact ⟨p, by omega, rfl, hRi.step (val_bool (by rw [unhide F2, ‹MT ts (bts s) (q + 1) p = true›]; rfl)), hbox.setOther (by show _ ≠ bW; omega) _⟩
              case measure => simp [intOf]
            · go_roundw
              case rel => exact ⟨p, by omega, rfl, hRi.step (val_bool (by rw [unhide F2, ← unhide NB, Bool.eq_false_iff.2 ‹¬ MT ts (bts s) (q + 1) p = true›, ‹MT ts (bts s) q (p + 1) = true›]; simp)), hbox.setOther (by show _ ≠ bW; omega) _⟩
              case measure => simp [intOf]
            · go_roundw
              case rel => exact ⟨p, by omega, rfl, hRi.step (val_bool (by rw [unhide F2, Bool.eq_false_iff.2 ‹¬ MT ts (bts s) (q + 1) p = true›, Bool.eq_false_iff.2 ‹¬ MT ts (bts s) q (p + 1) = true›]; rfl)), hbox.setOther (by show _ ≠ bW; omega) _⟩
              case measure => simp [intOf]
      by_cases h4 : k = 4
      · subst h4
        have F0 := hide (MT_star_end (bs := bts s) (unhide HD) (.inr rfl))
        have F1 := hide (MT_path (bs := bts s) (unhide HD) rfl)
        rw [unhide hl] at F0 F1
        go_wp2
        go_loopw [9] (fun x9 wr => ∃ j : Nat, j ≤ s.size ∧ x9 = .int .i64 ((j : Int) - 1) ∧ RR w wr bR bW s.size (MT ts (bts s) (q + 1)) (fun p => if j ≤ p then MT ts (bts s) q p else g p) ∧ wr.rowIs w1.heap.size 64 3 (tri (.int .u8 4) (.int .u8 l) (.pointer (some ⟨b + 1 + q, 0, none⟩)))) (fun x9 _ => (intOf x9 + 1).toNat)
        case atStart => exact ⟨s.size, Nat.le_refl _, rfl, (hRR.first (val_bool (unhide F0).symm)).alloc _, box_row (size_set _ _ _)⟩
        case round =>
          obtain ⟨j, hj, rfl, hRi, hbox⟩ := hrel
          clear t0 t1 t2 cRn cWn fWn lR hRR hrs hbw hbr hbs
          by_cases hj0 : j = 0
          · subst hj0
            go_wp2
            go_roundw
            case rel => exact ⟨q, bW, bR, _, _, by omega, rfl, rfl, rfl, rfl, hRi.all.swap⟩
            case measure => simp [intOf]
          · obtain ⟨p, rfl⟩ : ∃ p, j = p + 1 := ⟨j - 1, by omega⟩
            have hp : p < s.size := by omega
            have c1 := hRi.cellR (p := p) (by omega)
            have c2 := hRi.cellF (by omega)
            obtain ⟨v3, c3⟩ : ∃ v, wr.cell? ⟨bW, p, none⟩ = some v := ⟨_, hRi.cellW (p := p) (by omega)⟩
            have f3 := hRi.wri.frozen p
            have cT : wr.cell? ⟨w1.heap.size, 0, none⟩ = some (.int .u8 4) := hbox.cell (i := 0) (by omega)
            have hpI : (p : Int) < (s.size : Int) + 1 := by omega
            have hpI1 : (p : Int) + 1 < (s.size : Int) + 1 := by omega
            have NB := hide (ne_slash s p hp)
            have F2 := hide (unhide F1 p hp)
            go_wp2
            · go_roundw
              case rel => exact ⟨p, by omega, rfl, hRi.step (val_bool (by rw [unhide F2, ‹MT ts (bts s) (q + 1) p = true›]; rfl)), hbox.setOther (by show _ ≠ bW; omega) _⟩
              case measure => simp [intOf]
            · go_roundw
              case rel => exact ⟨p, by omega, rfl, hRi.step (val_bool (by rw [unhide F2, Bool.eq_false_iff.2 ‹¬ MT ts (bts s) (q + 1) p = true›, ‹MT ts (bts s) q (p + 1) = true›]; rfl)), hbox.setOther (by show _ ≠ bW; omega) _⟩
              case measure => simp [intOf]
            · go_roundw
              case rel => exact ⟨p, by omega, rfl, hRi.step (val_bool (by rw [unhide F2, Bool.eq_false_iff.2 ‹¬ MT ts (bts s) (q + 1) p = true›, Bool.eq_false_iff.2 ‹¬ MT ts (bts s) q (p + 1) = true›]; rfl)), hbox.setOther (by show _ ≠ bW; omega) _⟩
              case measure => simp [intOf]
      by_cases h5 : k = 5
      · subst h5
        have F0 : Hid (MT ts (bts s) (q + 1) s.size = MT ts (bts s) q s.size) := hide (by
          have h1 := MT_dirs (bs := bts s) (unhide HD) rfl s.size
          have h2 := DA_end ts (bts s) (q + 1)
          rw [unhide hl] at h2
          rw [h1, h2, Bool.or_false])
        have F1 := hide (MT_dirs (bs := bts s) (unhide HD) rfl)
        have D0 := hide (DA_end ts (bts s) (q + 1))
        have D1 := hide (DA_step ts (bts s) (q + 1))
        rw [unhide hl] at D0 D1
        go_wp2
        go_loopw [10, 11] (fun x10 x11 wr => ∃ j : Nat, j ≤ s.size ∧ x10 = .bool (DA ts (bts s) (q + 1) j) ∧ x11 = .int .i64 ((j : Int) - 1) ∧ RR w wr bR bW s.size (MT ts (bts s) (q + 1)) (fun p => if j ≤ p then MT ts (bts s) q p else g p)) (fun _ x11 _ => (intOf x11 + 1).toNat)
        case atStart => exact ⟨s.size, Nat.le_refl _, val_bool (unhide D0).symm, rfl, (hRR.first (val_bool (unhide F0))).alloc _⟩
        case round =>
          obtain ⟨j, hj, rfl, rfl, hRi⟩ := hrel
          clear t0 t1 t2 cRn cWn fWn lR hRR hrs hbw hbr hbs
          by_cases hj0 : j = 0
          · subst hj0
            go_wp2
            go_roundw
            case rel => exact ⟨q, bW, bR, _, _, by omega, rfl, rfl, rfl, rfl, hRi.all.swap⟩
            case measure => simp [intOf]
          · obtain ⟨p, rfl⟩ : ∃ p, j = p + 1 := ⟨j - 1, by omega⟩
            have hp : p < s.size := by omega
            have c1 := hRi.cellR (p := p) (by omega)
            have c2 := hRi.cellR (p := p + 1) (by omega)
            obtain ⟨v3, c3⟩ : ∃ v, wr.cell? ⟨bW, p, none⟩ = some v := ⟨_, hRi.cellW (p := p) (by omega)⟩
            have f3 := hRi.wri.frozen p
            have hpI : (p : Int) < (s.size : Int) + 1 := by omega
            have hpI1 : (p : Int) + 1 < (s.size : Int) + 1 := by omega
            have NB := hide (eq_slash s p hp)
            have F2 := hide (unhide F1 p)
            have D2 := hide (unhide D1 p hp)
            go_wp2
            all_goals
              go_roundw
              case rel =>
                have e1 := unhide D2
                rw [← unhide NB] at e1
                have e2 := unhide F2
                have R2 := hide hRi
                clear F0 F1 D0 D1 hfin hd HD hl hlt hT' hK' Hts F2 D2 NB c1 c2 c3 f3 hpI hpI1 hRi hmk
                refine ⟨p, by omega, val_bool ?_, rfl, (unhide R2).step (val_bool ?_)⟩
                · clear e2 R2; rw [e1]; simp [*]
                · clear R2; rw [e2, e1]; simp [*]
              case measure => simp [intOf]
      · have F0 := hide (MT_one_end (bs := bts s) (unhide HD) h3 h4 h5)
        have F1 := hide (MT_one (bs := bts s) (unhide HD) h3 h4 h5)
        rw [unhide hl] at F0 F1
        have k3 : ((k : Int) == 3) = false := by simp; omega
        have k4 : ((k : Int) == 4) = false := by simp; omega
        have k5 : ((k : Int) == 5) = false := by simp; omega
        go_wp2
        go_loopw [12] (fun x12 wr => ∃ j : Nat, j ≤ s.size ∧ x12 = .int .i64 ((j : Int) - 1) ∧ RR w wr bR bW s.size (MT ts (bts s) (q + 1)) (fun p => if j ≤ p then MT ts (bts s) q p else g p) ∧ wr.rowIs w1.heap.size 64 3 (tri (.int .u8 k) (.int .u8 l) (.pointer (some ⟨b + 1 + q, 0, none⟩)))) (fun x12 _ => (intOf x12 + 1).toNat)
        case atStart => exact ⟨s.size, Nat.le_refl _, rfl, (hRR.first (val_bool (unhide F0).symm)).alloc _, box_row (size_set _ _ _)⟩
        case round =>
          obtain ⟨j, hj, rfl, hRi, hbox⟩ := hrel
          clear t0 t1 t2 cRn cWn fWn lR hRR hrs hbr
          by_cases hj0 : j = 0
          · subst hj0
            go_wp2
            go_roundw
            case rel => exact ⟨q, bW, bR, _, _, by omega, rfl, rfl, rfl, rfl, hRi.all.swap⟩
            case measure => simp [intOf]
          · obtain ⟨p, rfl⟩ : ∃ p, j = p + 1 := ⟨j - 1, by omega⟩
            have hp : p < s.size := by omega
            have c2 := hRi.cellR (p := p + 1) (by omega)
            obtain ⟨v3, c3⟩ : ∃ v, wr.cell? ⟨bW, p, none⟩ = some v := ⟨_, hRi.cellW (p := p) (by omega)⟩
            have f3 := hRi.wri.frozen p
            have lRi := hRi.row.lt
            have lWi := hRi.wri.lt
            have b0 : wr.cell? ⟨w1.heap.size, 0, none⟩ = some (.int .u8 k) := hbox.cell (i := 0) (by omega)
            have b1 : wr.cell? ⟨w1.heap.size, 1, none⟩ = some (.int .u8 l) := hbox.cell (i := 1) (by omega)
            have b2 : wr.cell? ⟨w1.heap.size, 2, none⟩ = some (.pointer (some ⟨b + 1 + q, 0, none⟩)) := hbox.cell (i := 2) (by omega)
            have hrs : wr.rowIs (b + 1 + q) 66 4 (fun j => .int .u64 (S q j)) := ((unhide hT').2 q hq).of_block (hRi.bel.block _ hbs)
            have hpI : (p : Int) < (s.size : Int) + 1 := by omega
            have hpI1 : (p : Int) + 1 < (s.size : Int) + 1 := by omega
            have hpS : (p : Int) < (s.size : Int) := by omega
            have hp0 : (0 : Int) ≤ (p : Int) + 1 := by omega
            have hwr : IntKind.i64.wrap ((p : Int) + 1) = (p : Int) + 1 := by rw [IntKind.wrap_i64]; omega
            have F2 := hide (unhide F1 p hp)
            rw [nth_bts s p hp] at F2
            have hcb : s[p].toNat ≤ 255 := by have := s[p].toNat_lt; omega
            have HM := hide (fun W (h : W.rowIs (b + 1 + q) 66 4 (fun j => .int .u64 (S q j))) => matches_any k l s[p].toNat (b + 1 + q) (S q) 66 W hcb hk h)
            by_cases hta : PMatch.takes (tokOf k l (S q)) s[p].toNat = true
            · rw [hta] at HM
              go_wp2
              go_region_with (go_at_call 35; refine (unhide HM _ (by exact hrs)).mono ?_; rintro e w' ⟨rfl, rfl⟩)
              all_goals
                go_wp2
                go_roundw
                case rel => exact ⟨p, by omega, rfl, ((hRi.step (val_bool (by rw [unhide F2, hta]; rfl))).alloc _).drew, ((hbox.setOther (by show _ ≠ bW; omega) _).alloc _).drew⟩
                case measure => simp [intOf]
            · have hta' : PMatch.takes (tokOf k l (S q)) s[p].toNat = false := by simpa using hta
              clear hta
              rw [hta'] at HM
              go_wp2
              first | go_region_with (go_at_call 35; refine (unhide HM _ (by exact hrs)).mono ?_; rintro e w' ⟨rfl, rfl⟩) | fail
              all_goals
                go_wp2
                go_roundw
                case rel => exact ⟨p, by omega, rfl, ((hRi.step (val_bool (by rw [unhide F2, hta']; rfl))).alloc _).drew, ((hbox.setOther (by show _ ≠ bW; omega) _).alloc _).drew⟩
                case measure => simp [intOf]
end Go.Proofs.Qxb6605540a.Mt
