import Derived.Test.Qxb6600526aXe
import Derived.Test.Qxb6600526aWq
import Derived.Laws.IdiomStrings
namespace Go.Proofs.Qxb6600526a
open Go.RowKit P6

/-- string(text): what the slice holds. -/
theorem own_string {w : World} {B : Nat} {t : Value} {l : List UInt8} (h : Own w B t (nums l)) (hl : l ≠ []) : ∃ (g n cap : Nat) (s : ByteArray), t = .slice (some ⟨g, 0, none⟩) n cap ∧ L s = l ∧ s.size ≤ maxLen ∧
    (convert 25 9 (.slice (some ⟨g, 0, none⟩) n cap)).run Try.prog w = .ok (.string s) w := by
  have hn : (nums l).length = l.length := nums_length l
  have hp : 0 < l.length := List.length_pos_iff.2 hl
  rcases h.2 with ⟨-, h2⟩ | ⟨g, cap, cur, h3, h4, h5, h6, h7, h8⟩
  · omega
  · refine ⟨g, (nums l).length, cap, ⟨l.toArray⟩, h3, by simp [L], ?_, ?_⟩
    · have : (⟨l.toArray⟩ : ByteArray).size = l.length := by simp [ByteArray.size]
      rw [this]; omega
    · rw [hn]
      refine run_convert_bytes_back w 25 9 5 ⟨g, 0, none⟩ cap l Try.underlying25 Try.underlying5 Try.underlying9 ?_
      intro j hj
      rw [h3] at h
      rw [Addr.add_mid, Nat.zero_add, own_cell h (i := j) (by omega)]
      simp [nums, List.getD_eq_getElem?_getD, List.getElem?_eq_getElem hj]
theorem wtext_ne {up tail : Bool} {G : Nat → Nat} {fr ct : Nat} {q : List Nat} (h : p6 (wtext up G fr ct tail) = some q) : wtext up G fr ct tail ≠ [] := by
  intro e
  rw [e] at h
  have h0 : p6 [] = none := by decide
  rw [h0] at h; cases h

/-- The bytes with the groups from fr to g set to zero. -/
structure ZR (G : Nat → Nat) (fr g : Nat) (w wr : World) (H : Nat → Nat) : Prop where
  bel : Below w.heap.size w wr
  row : Bytes wr (w.heap.size + 1) 39 16 H
  val : ∀ i, H i = if 2 * fr ≤ i ∧ i < 2 * g then 0 else G i
theorem zr_step {G : Nat → Nat} {fr g : Nat} {w wr : World} {H : Nat → Nat} {u v : Value} (h : ZR G fr g w wr H) (hg : fr ≤ g) (hu : u = .int .u8 0) (hv : v = .int .u8 0) :
    ZR G fr (g + 1) w ((wr.setCell ⟨w.heap.size + 1, 2 * g, none⟩ u).setCell ⟨w.heap.size + 1, 2 * g + 1, none⟩ v) (fun j => if j = 2 * g + 1 then 0 else if j = 2 * g then 0 else H j) := by
  refine ⟨below_two h.bel (Nat.le_succ _), (h.row.set (2 * g) 0 hu rfl).set (2 * g + 1) 0 hv rfl, ?_⟩
  intro i
  show (if i = 2 * g + 1 then 0 else if i = 2 * g then 0 else H i) = _
  rw [h.val i]
  by_cases h1 : i = 2 * g + 1
  · rw [if_pos h1, if_pos (by omega)]
  · rw [if_neg h1]
    by_cases h2 : i = 2 * g
    · rw [if_pos h2, if_pos (by omega)]
    · rw [if_neg h2]
      by_cases h3 : 2 * fr ≤ i ∧ i < 2 * g
      · rw [if_pos h3, if_pos (by omega)]
      · rw [if_neg h3, if_neg (by omega)]
theorem box_bytes (G : Nat → Nat) (w : World) : Bytes (w.alloc (.cells (arr G) 39)) w.heap.size 39 16 G := World.rowIs_alloc w _ _ _ fun i hi => arr_get G i (by rw [arr_size] at hi; exact hi)

set_option maxRecDepth 100000 in
set_option maxHeartbeats 4000000 in
theorem reads_in (G : Nat → Nat) (hG : ∀ i, G i < 256) (fr ct : Nat) (h8 : fr + ct ≤ 8) (up v4 : Bool) (w : World) :
    Calls Try.prog 9 #[.agg (arr G), .int .i64 fr, .int .i64 ct, .bool up, .bool v4] w fun e w' => e = .returned (.bool true) ∧ Below w.heap.size w w' := by
  have hB0 := hide (box_bytes G w)
  have hb0 := hide (Below.alloc (Below.refl w.heap.size w) (Nat.le_refl _) (.cells (arr G) 39))
  have hB1 := bytes_zero (w.alloc (.cells (arr G) 39))
  rw [size_alloc] at hB1
  replace hB1 := hide hB1
  have hb1 : Hid (Below w.heap.size w ((w.alloc (.cells (arr G) 39)).alloc (.cells #[.int .u8 0, .int .u8 0, .int .u8 0, .int .u8 0, .int .u8 0, .int .u8 0, .int .u8 0, .int .u8 0, .int .u8 0, .int .u8 0, .int .u8 0, .int .u8 0, .int .u8 0, .int .u8 0, .int .u8 0, .int .u8 0] 39))) := hide ((unhide hb0).alloc (by rw [size_alloc]; omega) _)
  have hfr : ¬ ((fr : Int) < 0) := by omega
  have hct : ¬ ((ct : Int) < 0) := by omega
  replace hG := hide hG
  go_enter Try.func9, Try.ntmps9
  go_wp2_with (first | (refine load39g (.tmp 5) rfl rfl rfl (unhide hB0) ?_) | (refine store39 (.tmp 11) (.tmp 31) rfl rfl rfl rfl (unhide hB1) (unhide hb1) (Nat.le_succ _) ?_; intro w3 hB3 hb3))
  clear hB0 hb0 hB1 hb1
  go_loopw [12] (fun v12 wr => ∃ (g : Nat) (H : Nat → Nat), v12 = .int .i64 g ∧ fr ≤ g ∧ g ≤ fr + ct ∧ Hid (ZR G fr g w wr H)) (fun v12 _ => ((fr : Int) + (ct : Int) - intOf v12).toNat)
  case atStart => exact ⟨fr, G, rfl, by omega, by omega, hide ⟨unhide hb3, unhide hB3, fun i => by rw [if_neg (by omega)]⟩⟩
  case round =>
    obtain ⟨g, H, rfl, hg1, hg2, hZ⟩ := hrel
    clear hB3 hb3
    rename World => w1
    by_cases hlt : g < fr + ct
    · have hc1 : w1.cell? ⟨w.heap.size + 1, 2 * g, none⟩ = some (.int .u8 (H (2 * g) : Nat)) := World.rowIs.cell (unhide hZ).row (by omega)
      have hc2 : w1.cell? ⟨w.heap.size + 1, 2 * g + 1, none⟩ = some (.int .u8 (H (2 * g + 1) : Nat)) := World.rowIs.cell (unhide hZ).row (by omega)
      have hf1 : w1.frozen? ⟨w.heap.size + 1, 2 * g, none⟩ = false := World.rowIs.frozen (unhide hZ).row _
      have hf2 : w1.frozen? ⟨w.heap.size + 1, 2 * g + 1, none⟩ = false := World.rowIs.frozen (unhide hZ).row _
      have hZ2 := hide (zr_step (unhide hZ) hg1 rfl rfl)
      go_wp2_with fail
      go_roundw
      case rel => exact ⟨g + 1, _, by simp, by omega, by omega, hZ2⟩
      case measure => simp [intOf]; omega
    · have hge : g = fr + ct := by omega
      subst hge
      obtain ⟨tl, htl⟩ : ∃ tl : Bool, Hid (tl = (v4 && decide (ct = 0 ∨ fr + ct ≤ 6))) := ⟨_, rfl⟩
      go_upto_region 11 with fail
      go_cut [13] from 47 to 75 (fun v13 wx => v13 = .bool tl ∧ wx = w1)
      case first =>
        cases v4 with
        | false =>
          go_wp2_with fail
          go_meet
          exact ⟨by rw [unhide htl]; rfl, rfl⟩
        | true =>
          by_cases h0 : ct = 0
          · subst h0
            go_wp2_with fail
            go_meet
            exact ⟨by rw [unhide htl]; simp, rfl⟩
          · have h0b : ((ct : Int) == 0) = false := by simp; omega
            by_cases h6 : fr + ct ≤ 6
            · have h6i : (fr : Int) + (ct : Int) ≤ 6 := by omega
              go_wp2_with fail
              go_meet
              exact ⟨by rw [unhide htl]; simp [h0, h6], rfl⟩
            · have h6i : ¬ ((fr : Int) + (ct : Int) ≤ 6) := by omega
              go_wp2_with fail
              go_meet
              exact ⟨by rw [unhide htl]; simp [h0, h6], rfl⟩
      case rest =>
        obtain ⟨rfl, hw'⟩ := hcut
        have hw5 := hw'.symm
        subst hw5
        have hH256 : Hid (∀ i, H i < 256) := hide (fun i => by rw [(unhide hZ).val i]; have := unhide hG i; split <;> omega)
        have hH0 : Hid (∀ i, 2 * fr ≤ i → i < 2 * (fr + ct) → H i = 0) := hide (fun i h1 h2 => by rw [(unhide hZ).val i, if_pos ⟨h1, h2⟩])
        have htt : Hid (tl = true → ct = 0 ∨ fr + ct ≤ 6) := hide (fun h => by rw [unhide htl] at h; simp at h; exact h.2)
        have hp := hide (p6_wtext (up := up) (unhide hH256) h8 (unhide htt) (unhide hH0))
        have hc29 := hide (write_any H fr ct up tl w1 (unhide hH256) h8 (unhide htt))
        go_wp2_with (refine load39g (.tmp 11) rfl rfl rfl (unhide hZ).row ?_)
        refine (unhide hc29).mono ?_
        rintro e' w4 ⟨t', rfl, ho4, hb4⟩
        obtain ⟨gg, n, cap, str, rfl, hL, hsz, hcv⟩ := own_string ho4 (wtext_ne (unhide hp))
        have hL := hide hL
        have hr4 := hide ((unhide hZ).row.below hb4 (unhide hZ).row.lt)
        have hb4' := hide ((unhide hZ).bel.trans (hb4.mono (unhide hZ).bel.size))
        clear ho4 hb4
        go_wp2_with fail
        refine (zzParse_any str w4 hsz (some (bs H 0 16)) (by rw [unhide hL]; exact unhide hp)).mono ?_
        rintro e' w5 ⟨G', rfl, hb5, hG'⟩
        have hE : Hid (arr G' = arr H) := hide (arr_ext fun i hi => by rw [hG' _ rfl i hi, bs_get H 16 i hi])
        have hr5 := hide (((unhide hr4).below hb5 (unhide hr4).lt).alloc (Nat.lt_of_lt_of_le (unhide hr4).lt hb5.size) (.cells #[.int .u8 0, .int .u8 0, .int .u8 0, .int .u8 0, .int .u8 0, .int .u8 0, .int .u8 0, .int .u8 0, .int .u8 0, .int .u8 0, .int .u8 0, .int .u8 0, .int .u8 0, .int .u8 0, .int .u8 0, .int .u8 0] 39))
        have hne : Hid (w.heap.size + 1 < w5.heap.size) := hide (Nat.lt_of_lt_of_le (unhide hr4).lt hb5.size)
        have hs5 : Hid (w.heap.size ≤ w5.heap.size) := hide (by have := unhide hne; omega)
        have hb5' := hide (Below.alloc ((unhide hb4').trans (hb5.mono (unhide hb4').size)) (unhide hs5) (.cells #[.int .u8 0, .int .u8 0, .int .u8 0, .int .u8 0, .int .u8 0, .int .u8 0, .int .u8 0, .int .u8 0, .int .u8 0, .int .u8 0, .int .u8 0, .int .u8 0, .int .u8 0, .int .u8 0, .int .u8 0, .int .u8 0] 39))
        have hB5 := hide (bytes_zero w5)
        have heq := eq39 H
        clear hb5 hG'
        go_wp2_with (first | (refine store39 (.tmp 15) (.tmp 68) rfl rfl rfl rfl (unhide hB5) (Below.refl _ _) (Nat.le_refl _) ?_; intro w6 hB6 hb6; have hr6 := hide ((unhide hr5).below (unhide hb6) (unhide hne))) | (refine load39g (.tmp 15) rfl rfl rfl (unhide hB6) ?_; rw [unhide hE]) | (refine load39g (.tmp 11) rfl rfl rfl (unhide hr6) ?_))
        go_ret
        exact ⟨rfl, (unhide hb5').trans ((unhide hb6).mono (unhide hs5))⟩

set_option maxHeartbeats 1000000 in
theorem reads_walk (G : Nat → Nat) (hG : ∀ i, G i < 256) (f c : Int) (up v4 : Bool) (w : World) :
    Calls Try.prog 9 #[.agg (arr G), .int .i64 f, .int .i64 c, .bool up, .bool v4] w fun e w' => e = .returned (.bool true) ∧ Below w.heap.size w w' := by
  by_cases h1 : f < 0
  · go_enter Try.func9, Try.ntmps9
    go_wp2_with fail
    go_ret
    exact ⟨rfl, Below.alloc (Below.refl _ _) (Nat.le_refl _) _⟩
  by_cases h2 : 8 < f
  · go_enter Try.func9, Try.ntmps9
    go_wp2_with fail
    go_ret
    exact ⟨rfl, Below.alloc (Below.refl _ _) (Nat.le_refl _) _⟩
  by_cases h3 : c < 0
  · go_enter Try.func9, Try.ntmps9
    go_wp2_with fail
    go_ret
    exact ⟨rfl, Below.alloc (Below.refl _ _) (Nat.le_refl _) _⟩
  by_cases h4 : 8 - f < c
  · go_enter Try.func9, Try.ntmps9
    go_wp2_with fail
    go_ret
    exact ⟨rfl, Below.alloc (Below.refl _ _) (Nat.le_refl _) _⟩
  obtain ⟨fr, rfl⟩ : ∃ fr : Nat, f = (fr : Int) := ⟨f.toNat, by omega⟩
  obtain ⟨ct, rfl⟩ : ∃ ct : Nat, c = (ct : Int) := ⟨c.toNat, by omega⟩
  exact reads_in G hG fr ct (by omega) up v4 w
end Go.Proofs.Qxb6600526a
