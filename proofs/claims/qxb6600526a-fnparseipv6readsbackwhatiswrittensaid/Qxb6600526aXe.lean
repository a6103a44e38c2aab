import Derived.Test.Qxb6600526aXd
import Derived.Deep.CutBlock
import Derived.Deep.RegionHeld
namespace Go.Proofs.Qxb6600526a
open Go.RowKit P6

set_option linter.unusedSimpArgs false in
set_option maxRecDepth 100000 in
set_option maxHeartbeats 4000000 in
theorem write_any (G : Nat → Nat) (fr ct : Nat) (up tail : Bool) (w : World) (hG : ∀ i, G i < 256) (h8 : fr + ct ≤ 8) (ht : tail = true → ct = 0 ∨ fr + ct ≤ 6) :
    Calls Try.prog 29 #[.agg (arr G), .int .i64 fr, .int .i64 ct, .bool up, .bool tail] w fun e w' => ∃ t', e = .returned t' ∧ Own w' w.heap.size t' (nums (wtext up G fr ct tail)) ∧ Below w.heap.size w w' := by
  obtain ⟨i0, hi0, hz0, hz1, hz2⟩ := info_parts info5
  obtain ⟨e, he, he8, hgap⟩ : ∃ e : Nat, Hid (e = if tail = true then 6 else 8) ∧ e ≤ 8 ∧ (ct = 0 ∨ fr + ct ≤ e) := ⟨_, rfl, by split <;> omega, by
    cases tail with
    | false => simp only [Bool.false_eq_true, if_false]; omega
    | true => have := ht rfl; simp only [if_true]; omega⟩
  replace hG := hide hG
  replace ht := hide ht
  go_enter Try.func29, Try.ntmps29
  go_upto_if 15 with fail
  go_cut [11] from 11 (fun v11 wx => v11 = .int .i64 (e : Nat) ∧ wx = w.alloc (.cells (arr G) 39))
  case first =>
    cases tail with
    | false =>
      go_wp2_with fail
      go_meet
      exact ⟨by rw [unhide he]; rfl, rfl⟩
    | true =>
      go_wp2_with fail
      go_meet
      exact ⟨by rw [unhide he]; rfl, rfl⟩
  case rest =>
    obtain ⟨rfl, hw'⟩ := hcut
    subst hw'
    go_wp2_with (refine wpList_make_own _ rfl _ _ 25 rfl (w.heap.size + 1) 5 i0 (.int .u8 0) 1 Try.underlying25 hi0 hz0 hz1 .i64 .i64 48 48 rfl rfl rfl (by rw [hz2]; decide) (by decide) (by rw [size_alloc]; omega) ?_; intro w2 hown2 hgrow2; rw [size_alloc] at hown2; have hW2 := hide (wr_start hown2 hgrow2); clear hown2 hgrow2)
    go_loopw [12, 13] (fun v12 v13 wr => ∃ (g : Nat) (T : List UInt8), v13 = .int .i64 g ∧ g ≤ e ∧ (ct = 0 ∨ g ≤ fr ∨ fr + ct ≤ g) ∧ T.length ≤ 5 * g ∧ Hid (T = tx up G fr ct g) ∧ Hid (WR G w wr v12 T)) (fun _ v13 _ => ((e : Int) - intOf v13).toNat)
    case atStart => exact ⟨0, [], rfl, by omega, by omega, by simp, hide tx_zero.symm, hW2⟩
    case round =>
      obtain ⟨g, T, rfl, hge, hph, hTl, hT, hW⟩ := hrel
      clear hW2
      rename World => w1
      have hnl : (nums T).length = T.length := nums_length T
      by_cases hend : g = e
      · subst hend
        cases tail with
        | false =>
          have hwt : Hid (T = wtext up G fr ct false) := hide (by rw [unhide hT, unhide he]; rfl)
          go_wp2_with fail
          go_ret
          exact ⟨_, rfl, by rw [← unhide hwt]; exact own_mono (unhide hW).own (Nat.le_succ _), (unhide hW).bel⟩
        | true =>
          have hsl := hide (sep_len T)
          have hg6 : Hid (g = 6) := hide (by rw [unhide he]; rfl)
          have hwt : Hid (sepOf T ++ qpart G 4 = wtext up G fr ct true) := hide (by rw [unhide hT, unhide hg6, qpart_four]; rfl)
          have hT40 : T.length ≤ 40 := by omega
          go_upto_region 15 with fail
          go_cut [78] from 66 to 96 (fun v78 wx => v78 = .bool (wants T) ∧ wx = w1)
          case first =>
            rcases text_last T with hE | ⟨T', c, hE⟩
            · subst hE
              obtain ⟨ad, cap, hv⟩ := wr_none (unhide hW)
              subst hv
              go_wp2_with fail
              go_meet
              exact ⟨rfl, rfl⟩
            · subst hE
              obtain ⟨gg, cap, hv, hcell⟩ := wr_last (unhide hW)
              subst hv
              have hm : T'.length ≤ 100 := by simp at hT40; omega
              by_cases h58 : c.toNat = 58
              · have h58b : ((c.toNat : Int) != 58) = false := by simp [h58]
                go_wp2_with fail
                go_meet
                exact ⟨by rw [wants_snoc]; simp [h58], rfl⟩
              · have h58b : ((c.toNat : Int) != 58) = true := by simp; omega
                go_wp2_with fail
                go_meet
                exact ⟨by rw [wants_snoc]; simp [h58], rfl⟩
          case rest =>
            obtain ⟨rfl, hw'⟩ := hcut
            have hw5 := hw'.symm
            subst hw5
            go_upto_if 78 with fail
            go_cut [12] from 66 to 96 (fun v12 wx => Hid (WR G w wx v12 (sepOf T)))
            case first =>
              cases hwt : wants T with
              | true =>
                have hsp : Hid (sepOf T = T ++ [58]) := hide (by rw [sep_wants, if_pos hwt])
                go_wp2_with (at_builtin; refine wpList_append_own _ rfl (.tmp 79) (.tmp 80) 25 rfl (w.heap.size + 1) 5 i0 (.int .u8 0) 1 1 Try.underlying25 hi0 hz0 hz1 hz2 rfl (by decide) _ _ _ rfl (own_below (unhide hW).own below_one) ⟨w1.heap.size, 0, none⟩ 1 1 (vals (nums [58])) rfl rfl cells_one (vals_one _) (by unfold maxLen; omega) (by omega) (by rw [size_alloc]; have := (unhide hW).big; omega) ?_; intro v' w4 hown' hgrow' _; have hA := hide (wr_append (unhide hW) below_one rfl hown' hgrow'); clear hown' hgrow')
                go_meet
                exact hide (by rw [unhide hsp]; exact unhide hA)
              | false =>
                have hsp : Hid (sepOf T = T) := hide (by rw [sep_wants, hwt]; rfl)
                go_wp2_with fail
                go_meet
                exact hide (by rw [unhide hsp]; exact unhide hW)
            case rest =>
              have hW5 := hcut
              clear hcut hW
              rename World => w5
              go_wp2_with fail
              go_loopw [12, 14] (fun v12 v14 wr => ∃ i : Nat, v14 = .int .i64 (12 + (i : Int)) ∧ i ≤ 4 ∧ Hid (WR G w wr v12 (sepOf T ++ qpart G i))) (fun _ v14 _ => (16 - intOf v14).toNat)
              case atStart => exact ⟨0, rfl, by omega, hide (by rw [qpart, List.append_nil]; exact unhide hW5)⟩
              case round =>
                obtain ⟨i, rfl, hi4, hW8⟩ := hrel
                clear hW5
                rename World => w8
                have hql := hide (qpart_len G i)
                obtain ⟨Q, hQ, hQl⟩ : ∃ Q : List UInt8, Hid (Q = sepOf T ++ qpart G i) ∧ Hid (Q.length ≤ 100) := ⟨_, rfl, hide (by have := unhide hsl; have := unhide hql; rw [List.length_append]; omega)⟩
                replace hW8 : Hid (WR G w w8 u12 Q) := hide (by rw [unhide hQ]; exact unhide hW8)
                have hQn : (nums Q).length = Q.length := nums_length Q
                have hQ100 : Q.length ≤ 100 := unhide hQl
                by_cases h4 : i = 4
                · subst h4
                  go_wp2_with fail
                  go_ret
                  exact ⟨_, rfl, by rw [← unhide hwt, ← unhide hQ]; exact own_mono (unhide hW8).own (Nat.le_succ _), (unhide hW8).bel⟩
                · obtain ⟨y, hy⟩ : ∃ y, Hid (G (12 + i) = y) := ⟨_, rfl⟩
                  have hy256 : y < 256 := by rw [← unhide hy]; exact unhide hG _
                  by_cases h0 : i = 0
                  · subst h0
                    have hc1 : w8.cell? ⟨w.heap.size, 12, none⟩ = some (.int .u8 (y : Nat)) := by rw [World.rowIs.cell (unhide hW8).box (by omega), ← unhide hy]
                    have hc := hide (decimal_any (w.heap.size + 1) _ (nums Q) y w8 (unhide hW8).own (unhide hW8).big (by omega) hy256)
                    go_wp2_with (go_at_call 39; refine (unhide hc).mono ?_; rintro e' w6 ⟨t', rfl, ho6, hb6⟩; rw [← nums_app] at ho6; have hA6 := hide (wr_next (unhide hW8) hb6 ho6); clear ho6 hb6)
                    go_roundw
                    case rel => exact ⟨1, by simp, by omega, hide (by rw [← qpart_first, ← List.append_assoc, ← unhide hQ, unhide hy]; exact unhide hA6)⟩
                    case measure => simp [intOf]
                  · have hc : Hid (∀ v' w4, Hid (WR G w w4 v' (Q ++ [46])) → Calls Try.prog 39 #[v', .int .u8 y] w4 fun e w' => ∃ t', e = .returned t' ∧ Own w' (w.heap.size + 1) t' (nums (Q ++ [46]) ++ nums (dc y)) ∧ Below (w.heap.size + 1) w4 w') := hide (fun v' w4 h => decimal_any (w.heap.size + 1) v' (nums (Q ++ [46])) y w4 (unhide h).own (unhide h).big (by rw [nums_length]; simp; omega) hy256)
                    rcases (by omega : i = 1 ∨ i = 2 ∨ i = 3) with rfl | rfl | rfl
                    · go_wp2_with (first | (at_builtin; refine wpList_append_own _ rfl (.tmp 88) (.tmp 89) 25 rfl (w.heap.size + 1) 5 i0 (.int .u8 0) 1 1 Try.underlying25 hi0 hz0 hz1 hz2 rfl (by decide) _ _ _ rfl (own_below (unhide hW8).own below_one) ⟨w8.heap.size, 0, none⟩ 1 1 (vals (nums [46])) rfl rfl cells_one (vals_one _) (by unfold maxLen; omega) (by omega) (by rw [size_alloc]; have := (unhide hW8).big; omega) ?_; intro v' w4 hown' hgrow' _; have hA := hide (wr_append (unhide hW8) below_one rfl hown' hgrow'); clear hown' hgrow'; have hc2 : w4.cell? ⟨w.heap.size, 13, none⟩ = some (.int .u8 (y : Nat)) := by rw [World.rowIs.cell (unhide hA).box (by omega), unhide hy]) | (go_at_call 39; refine (unhide hc v' w4 hA).mono ?_; rintro e' w6 ⟨t', rfl, ho6, hb6⟩; rw [← nums_app] at ho6; have hA6 := hide (wr_next (unhide hA) hb6 ho6); clear ho6 hb6))
                      go_roundw
                      case rel => exact ⟨2, by simp, by omega, hide (by rw [← qpart_more G (by omega), ← List.append_assoc, ← List.append_assoc, ← unhide hQ, unhide hy]; exact unhide hA6)⟩
                      case measure => simp [intOf]
                    · go_wp2_with (first | (at_builtin; refine wpList_append_own _ rfl (.tmp 88) (.tmp 89) 25 rfl (w.heap.size + 1) 5 i0 (.int .u8 0) 1 1 Try.underlying25 hi0 hz0 hz1 hz2 rfl (by decide) _ _ _ rfl (own_below (unhide hW8).own below_one) ⟨w8.heap.size, 0, none⟩ 1 1 (vals (nums [46])) rfl rfl cells_one (vals_one _) (by unfold maxLen; omega) (by omega) (by rw [size_alloc]; have := (unhide hW8).big; omega) ?_; intro v' w4 hown' hgrow' _; have hA := hide (wr_append (unhide hW8) below_one rfl hown' hgrow'); clear hown' hgrow'; have hc2 : w4.cell? ⟨w.heap.size, 14, none⟩ = some (.int .u8 (y : Nat)) := by rw [World.rowIs.cell (unhide hA).box (by omega), unhide hy]) | (go_at_call 39; refine (unhide hc v' w4 hA).mono ?_; rintro e' w6 ⟨t', rfl, ho6, hb6⟩; rw [← nums_app] at ho6; have hA6 := hide (wr_next (unhide hA) hb6 ho6); clear ho6 hb6))
                      go_roundw
                      case rel => exact ⟨3, by simp, by omega, hide (by rw [← qpart_more G (by omega), ← List.append_assoc, ← List.append_assoc, ← unhide hQ, unhide hy]; exact unhide hA6)⟩
                      case measure => simp [intOf]
                    · go_wp2_with (first | (at_builtin; refine wpList_append_own _ rfl (.tmp 88) (.tmp 89) 25 rfl (w.heap.size + 1) 5 i0 (.int .u8 0) 1 1 Try.underlying25 hi0 hz0 hz1 hz2 rfl (by decide) _ _ _ rfl (own_below (unhide hW8).own below_one) ⟨w8.heap.size, 0, none⟩ 1 1 (vals (nums [46])) rfl rfl cells_one (vals_one _) (by unfold maxLen; omega) (by omega) (by rw [size_alloc]; have := (unhide hW8).big; omega) ?_; intro v' w4 hown' hgrow' _; have hA := hide (wr_append (unhide hW8) below_one rfl hown' hgrow'); clear hown' hgrow'; have hc2 : w4.cell? ⟨w.heap.size, 15, none⟩ = some (.int .u8 (y : Nat)) := by rw [World.rowIs.cell (unhide hA).box (by omega), unhide hy]) | (go_at_call 39; refine (unhide hc v' w4 hA).mono ?_; rintro e' w6 ⟨t', rfl, ho6, hb6⟩; rw [← nums_app] at ho6; have hA6 := hide (wr_next (unhide hA) hb6 ho6); clear ho6 hb6))
                      go_roundw
                      case rel => exact ⟨4, by simp, by omega, hide (by rw [← qpart_more G (by omega), ← List.append_assoc, ← List.append_assoc, ← unhide hQ, unhide hy]; exact unhide hA6)⟩
                      case measure => simp [intOf]
      · have hlt : g < e := by omega
        by_cases hgp : 0 < ct ∧ g = fr
        · obtain ⟨hc0, hgf⟩ := hgp
          have hTn := hide (tx_gap (up := up) (G := G) (fr := fr) hc0)
          subst hgf
          go_wp2_with (at_builtin; refine wpList_append_own _ rfl (.tmp 27) (.tmp 28) 25 rfl (w.heap.size + 1) 5 i0 (.int .u8 0) 1 1 Try.underlying25 hi0 hz0 hz1 hz2 rfl (by decide) _ _ _ rfl (own_below (unhide hW).own below_one) ⟨w1.heap.size, 0, none⟩ 2 2 (vals (nums [58, 58])) rfl rfl cells_two (vals_one _) (by unfold maxLen; omega) (by omega) (by rw [size_alloc]; have := (unhide hW).big; omega) ?_; intro v' w4 hown' hgrow' _; have hA := hide (wr_append (unhide hW) below_one rfl hown' hgrow'); clear hown' hgrow')
          go_roundw
          case rel => exact ⟨g + ct, _, by simp, by omega, by omega, by simp; omega, hide (by rw [unhide hT]; exact unhide hTn), hA⟩
          case measure => simp [intOf]; omega
        · have hph2 : Hid (ct = 0 ∨ g < fr ∨ fr + ct ≤ g) := hide (by omega)
          have hst := hide (tx_step (up := up) (G := G) (fr := fr) (ct := ct) (g := g) (by omega))
          go_upto_region 7 with fail
          go_cut [26] from 17 to 65 (fun v26 wx => v26 = .bool false ∧ wx = w1)
          case first =>
            by_cases h : ct = 0
            · subst h
              go_wp2_with fail
              go_meet
              exact ⟨rfl, rfl⟩
            · have hne : ((g : Int) == (fr : Int)) = false := by simp; omega
              go_wp2_with fail
              go_meet
              exact ⟨rfl, rfl⟩
          case rest =>
            obtain ⟨rfl, hw'⟩ := hcut
            have hw5 := hw'.symm
            subst hw5
            clear hgp
            go_upto_region 10 with fail
            go_cut [44] from 17 to 65 (fun v44 wx => v44 = .bool (wants T) ∧ wx = w1)
            case first =>
              rcases text_last T with hE | ⟨T', c, hE⟩
              · subst hE
                obtain ⟨ad, cap, hv⟩ := wr_none (unhide hW)
                subst hv
                go_wp2_with fail
                go_meet
                exact ⟨rfl, rfl⟩
              · subst hE
                obtain ⟨gg, cap, hv, hcell⟩ := wr_last (unhide hW)
                subst hv
                have hm : T'.length ≤ 100 := by simp at hTl; omega
                by_cases h58 : c.toNat = 58
                · have h58b : ((c.toNat : Int) != 58) = false := by simp [h58]
                  go_wp2_with fail
                  go_meet
                  exact ⟨by rw [wants_snoc]; simp [h58], rfl⟩
                · have h58b : ((c.toNat : Int) != 58) = true := by simp; omega
                  go_wp2_with fail
                  go_meet
                  exact ⟨by rw [wants_snoc]; simp [h58], rfl⟩
            case rest =>
              obtain ⟨rfl, hw'⟩ := hcut
              have hw5 := hw'.symm
              subst hw5
              go_upto_if 44 with fail
              go_cut [12] from 17 to 65 (fun v12 wx => Hid (WR G w wx v12 (sepOf T)))
              case first =>
                cases hwt : wants T with
                | true =>
                  have hsp : Hid (sepOf T = T ++ [58]) := hide (by rw [sep_wants, if_pos hwt])
                  go_wp2_with (at_builtin; refine wpList_append_own _ rfl (.tmp 45) (.tmp 46) 25 rfl (w.heap.size + 1) 5 i0 (.int .u8 0) 1 1 Try.underlying25 hi0 hz0 hz1 hz2 rfl (by decide) _ _ _ rfl (own_below (unhide hW).own below_one) ⟨w1.heap.size, 0, none⟩ 1 1 (vals (nums [58])) rfl rfl cells_one (vals_one _) (by unfold maxLen; omega) (by omega) (by rw [size_alloc]; have := (unhide hW).big; omega) ?_; intro v' w4 hown' hgrow' _; have hA := hide (wr_append (unhide hW) below_one rfl hown' hgrow'); clear hown' hgrow')
                  go_meet
                  exact hide (by rw [unhide hsp]; exact unhide hA)
                | false =>
                  have hsp : Hid (sepOf T = T) := hide (by rw [sep_wants, hwt]; rfl)
                  go_wp2_with fail
                  go_meet
                  exact hide (by rw [unhide hsp]; exact unhide hW)
              case rest =>
                have hW5 := hcut
                clear hcut hW
                rename World => w5
                have hsl := hide (sep_len T)
                have hgl := hide (hx_len up (G (2 * g) * 256 + G (2 * g + 1)))
                go_upto_region 12 with fail
                go_cut [12] from 17 to 65 (fun v12 wx => Hid (WR G w wx v12 (sepOf T ++ gf up G g)))
                case first =>
                  obtain ⟨pp, hpp⟩ : ∃ y, Hid (G (2 * g) = y) := ⟨_, rfl⟩
                  obtain ⟨qq, hqq⟩ : ∃ y, Hid (G (2 * g + 1) = y) := ⟨_, rfl⟩
                  obtain ⟨vv, hvv⟩ : ∃ y, Hid (pp * 256 + qq = y) := ⟨_, rfl⟩
                  have hp256 : pp < 256 := by rw [← unhide hpp]; exact unhide hG _
                  have hq256 : qq < 256 := by rw [← unhide hqq]; exact unhide hG _
                  have hv16 : vv < 65536 := by have := unhide hvv; omega
                  have hor : bits .or .i64 ((pp : Int) * 256) (qq : Int) = (vv : Int) := by rw [or256 pp qq hp256 hq256, unhide hvv]
                  have hwp : Hid (IntKind.i64.wrap (pp : Int) = (pp : Int)) := hide (IntWalk.i64_in _ ⟨by omega, by omega⟩)
                  have hwq : Hid (IntKind.i64.wrap ((pp : Int) * 256) = (pp : Int) * 256) := hide (IntWalk.i64_in _ ⟨by omega, by omega⟩)
                  have hwr : Hid (IntKind.i64.wrap (qq : Int) = (qq : Int)) := hide (IntWalk.i64_in _ ⟨by omega, by omega⟩)
                  have hgf : Hid (gf up G g = hx up vv) := hide (by unfold gf; rw [unhide hpp, unhide hqq, unhide hvv])
                  replace hor := hide hor
                  obtain ⟨j, hj⟩ : ∃ y, Hid (2 * g = y) := ⟨_, rfl⟩
                  obtain ⟨k, hk⟩ : ∃ y, Hid (2 * g + 1 = y) := ⟨_, rfl⟩
                  have hj16 : j < 16 := by have := unhide hj; omega
                  have hk16 : k < 16 := by have := unhide hk; omega
                  have hwj : IntKind.i64.wrap (2 * (g : Int)) = (j : Int) := by have := unhide hj; rw [IntWalk.i64_in _ ⟨by omega, by omega⟩]; omega
                  have hwk : IntKind.i64.wrap ((j : Int) + 1) = (k : Int) := by have := unhide hj; have := unhide hk; rw [IntWalk.i64_in _ ⟨by omega, by omega⟩]; omega
                  have hc1 : w5.drew.cell? ⟨w.heap.size, j, none⟩ = some (.int .u8 (pp : Nat)) := by
                    show w5.cell? _ = _
                    rw [World.rowIs.cell (unhide hW5).box hj16, ← unhide hj, unhide hpp]
                  have hc2 : w5.drew.cell? ⟨w.heap.size, k, none⟩ = some (.int .u8 (qq : Nat)) := by
                    show w5.cell? _ = _
                    rw [World.rowIs.cell (unhide hW5).box hk16, ← unhide hk, unhide hqq]
                  have hW6 := hide (wr_drew (unhide hW5))
                  have hc := fun v (h : Own w5.drew (w.heap.size + 1) v (nums (sepOf T))) => hexGroup_any (w.heap.size + 1) v (nums (sepOf T)) vv up w5.drew h (unhide hW6).big (by rw [nums_length]; have := unhide hsl; omega) hv16
                  have K1 : Hid (w5.drew.cell? ⟨w.heap.size, j, none⟩ = some (.int .u8 (pp : Nat)) ∧ w5.drew.cell? ⟨w.heap.size, k, none⟩ = some (.int .u8 (qq : Nat))) := hide ⟨hc1, hc2⟩
                  have K2 : Hid (∀ w' t' T', Hid (WR G w w' t' T') → w'.cell? ⟨w.heap.size, j, none⟩ = some (.int .u8 (pp : Nat)) ∧ w'.cell? ⟨w.heap.size, k, none⟩ = some (.int .u8 (qq : Nat))) := hide (fun w' t' T' h => ⟨by rw [World.rowIs.cell (unhide h).box hj16, ← unhide hj, unhide hpp], by rw [World.rowIs.cell (unhide h).box hk16, ← unhide hk, unhide hqq]⟩)
                  clear hc1 hc2
                  replace hc := hide hc
                  go_region_held (fun w' => w'.cell? ⟨w.heap.size, j, none⟩ = some (.int .u8 (pp : Nat)) ∧ w'.cell? ⟨w.heap.size, k, none⟩ = some (.int .u8 (qq : Nat))) ((first | exact unhide K1 | exact unhide K2 _ _ _ (by assumption))) ((go_at_call 38; (first | simp only [unhide hwp, unhide hwq, unhide hor] | simp only [unhide hwr, unhide hor]); refine (unhide hc _ (unhide hW6).own).mono ?_; rintro e' w6 ⟨t', rfl, ho6, hb6⟩; rw [← nums_app] at ho6; have hA := hide (wr_next (unhide hW6) hb6 ho6); clear ho6 hb6))
                  all_goals (go_wp2_with fail)
                  all_goals go_meet
                  all_goals exact hide (by rw [unhide hgf]; exact unhide hA)
                case rest =>
                  have hW7 := hcut
                  clear hcut hW5
                  rename World => w7
                  go_wp2_with fail
                  go_roundw
                  case rel => exact ⟨g + 1, sepOf T ++ gf up G g, by simp, by omega, by have := unhide hph2; omega, by have := unhide hsl; have := unhide hgl; rw [List.length_append]; unfold gf; omega, hide (by rw [← unhide hst, unhide hT]), hW7⟩
                  case measure => simp [intOf]; omega
end Go.Proofs.Qxb6600526a
