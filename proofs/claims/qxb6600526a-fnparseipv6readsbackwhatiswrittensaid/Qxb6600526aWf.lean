import Derived.Test.Qxb6600526aWi
import Derived.Deep.CutBlock
namespace Go.Proofs.Qxb6600526a
open Go.RowKit P6

theorem copy_src {w : World} {b k n : Nat} {G : Nat → Nat} {cs : List Value} (hB : Bytes w b 39 16 G) (hcs : cs = ((arr G).toList.drop k).take (n - k)) (hn : n ≤ 16) :
    ∀ (j : Nat) (v : Value), cs[j]? = some v → w.drew.cell? ((⟨b, k, none⟩ : Addr).add j) = some v := by
  intro j v hv
  show w.cell? _ = _
  have hL : (arr G).toList.length = 16 := by simp [arr_size]
  have hj : j < n - k := by
    have := (List.getElem?_eq_some_iff.1 hv).1
    rw [hcs, List.length_take] at this
    omega
  rw [hcs, List.getElem?_take_of_lt hj, List.getElem?_drop, Array.getElem?_toList, arr_get G (k + j) (by omega)] at hv
  rw [Addr.add_mid, World.rowIs.cell hB (by omega), hv]
theorem copy_one {k n : Nat} {G : Nat → Nat} {cs : List Value} (hcs : cs = ((arr G).toList.drop k).take (n - k)) : ∀ v ∈ cs, v.oneCell' = true := by
  intro v hv
  rw [hcs] at hv
  have := List.mem_of_mem_drop (List.mem_of_mem_take hv)
  simp only [arr, List.mem_map] at this
  obtain ⟨i, -, rfl⟩ := this
  rfl
theorem bytes_same {w : World} {b : Nat} {G : Nat → Nat} {cs : List Value} (h : w.heap[b]? = some (.cells (splice (arr G).toList 0 cs).toArray 39 (0, 0))) (hcs : cs = []) : Bytes w b 39 16 G := by
  subst hcs
  refine bytes_of_arr h ?_ fun i hi => ?_
  · simp [splice, arr_size]
  · simpa [splice] using arr_get G i hi
theorem cut_to16 (b l : Nat) (h16 : l < 16) (W : World) : Sem.run Try.prog (Instr.sliceAt 39 (.pointer (some ⟨b, 0, none⟩)) (some (.int .i64 (l : Int))) (some (.int .i64 16)) none) W = .ok (.slice (some ⟨b, l, none⟩) (16 - l) (16 - l)) W :=
  cut_lohi b l 16 (by omega) (by omega) h16 W
theorem cut_four (b n : Nat) (h : n + 4 ≤ 16) (W : World) : Sem.run Try.prog (Instr.sliceAt 39 (.pointer (some ⟨b, 0, none⟩)) (some (.int .i64 (n : Int))) (some (.int .i64 ((n : Int) + 4))) none) W = .ok (.slice (some ⟨b, n, none⟩) 4 (16 - n)) W := by
  have h1 := cut_lohi b n (n + 4) (by omega) h (by omega) W
  rw [show n + 4 - n = 4 by omega] at h1
  exact h1
theorem wrap_gap {k m n : Nat} (hm : m = k + (16 - n)) (hn : n ≤ 16) (hk : k ≤ n) : IntKind.i64.wrap ((k : Int) + (16 - (n : Int))) = (m : Int) := by
  rw [IntWalk.i64_in _ ⟨by omega, by omega⟩]; omega

theorem start_none {l : List UInt8} (h : (P6.start l).1 = none) : p6 l = (lp 9 none [] l).bind fin := by
  have e : (P6.start l).2 = l := by
    match l with
    | [] => rfl
    | [c] => rfl
    | c :: d :: r =>
      rw [P6.start] at h ⊢
      split at h
      · cases h
      · rename_i hn; rw [if_neg hn]
  unfold p6
  rw [h, e]
theorem start_some {l : List UInt8} {k : Nat} (h : (P6.start l).1 = some k) : 2 ≤ l.length ∧ p6 l = (lp 9 (some 0) [] (l.drop 2)).bind fin := by
  match l with
  | [] => cases h
  | [c] => cases h
  | c :: d :: r =>
    unfold p6
    rw [P6.start] at h ⊢
    split at h
    · rename_i hn; rw [if_pos hn]; exact ⟨by simp, rfl⟩
    · cases h

set_option maxRecDepth 100000 in
set_option maxHeartbeats 4000000 in
theorem parseIPv6_any (s : ByteArray) (w : World) (hs : s.size ≤ maxLen) (x : Option (List Nat)) (hx : p6 (L s) = x) :
    Calls Try.prog 35 #[.string s] w fun e w' => Said6 x w.heap.size w e w' := by
  unfold maxLen at hs
  have hB0 := hide (bytes_zero w)
  go_enter Try.func35, Try.ntmps35
  go_wp2_with fail
  refine (hasPrefix_any s _ _ hs (by decide)).mono ?_
  rintro e' w' ⟨rfl, hw'⟩
  subst hw'
  go_upto_if 12 with fail
  go_cut [0, 4] from 11 (fun v0 v4 wx => ∃ (s' : ByteArray) (g : Option Nat), v0 = .string s' ∧ v4 = .int .i64 (gapV g) ∧ s'.size ≤ 2 ^ 63 - 1 ∧ Hid (Rel6 x w wx g [] (L s')))
  case first =>
    have hb0 := hide (Below.alloc (Below.refl w.heap.size w) (Nat.le_refl _) (.cells #[.int .u8 0, .int .u8 0, .int .u8 0, .int .u8 0, .int .u8 0, .int .u8 0, .int .u8 0, .int .u8 0, .int .u8 0, .int .u8 0, .int .u8 0, .int .u8 0, .int .u8 0, .int .u8 0, .int .u8 0, .int .u8 0] 39))
    cases hp : (P6.start (L s)).1 with
    | none =>
      have hp2 : pre2 s ⟨#[58, 58]⟩ = false := by rw [pre2_cc, hp]; rfl
      have hx2 := hide ((start_none hp).symm.trans hx)
      clear hx
      simp only [hp2]
      go_wp2_with fail
      go_meet
      exact ⟨s, none, rfl, rfl, hs, hide (begin6 (Or.inl rfl) (unhide hb0) (unhide hB0) (unhide hx2))⟩
    | some k =>
      have hp2 : pre2 s ⟨#[58, 58]⟩ = true := by rw [pre2_cc, hp]; rfl
      have h2 : 2 ≤ s.size := by have := (start_some hp).1; rw [L_length] at this; exact this
      have hx2 := hide ((start_some hp).2.symm.trans hx)
      clear hx
      simp only [hp2]
      go_wp2_with fail
      go_meet
      exact ⟨_, some 0, rfl, rfl, by simp; omega, hide (begin6 (Or.inr rfl) (unhide hb0) (unhide hB0) (by rw [L_from s 2 _ (Nat.le_refl _)]; exact unhide hx2))⟩
  case rest =>
    obtain ⟨s1, g1, rfl, rfl, hs1, hR1⟩ := hcut
    rename World => w2
    clear hB0
    go_upto_block 0 with fail
    go_cut [5, 0, 4] from 11 (fun v5 v0 v4 wr => ∃ (s' : ByteArray) (g : Option Nat) (o : List Nat), v5 = .int .i64 o.length ∧ v0 = .string s' ∧ v4 = .int .i64 (gapV g) ∧ s'.size ≤ 2 ^ 63 - 1 ∧ Hid (Fin6 x w wr g o (L s')))
    case rest =>
      obtain ⟨s', g, o, rfl, rfl, rfl, hs', hR⟩ := hcut
      rename World => w1
      have hlen := (unhide hR).len
      obtain ⟨G, hG, hGo⟩ : ∃ G : Nat → Nat, Hid (Bytes w1 w.heap.size 39 16 G) ∧ Hid (∀ i, i < o.length → G i = o.getD i 0) := (unhide hR).row
      clear hR1 hs1 hx
      by_cases hE : s'.size = 0
      · obtain rfl := size_zero hE
        cases g with
        | none =>
          by_cases hn : o.length = 16
          · go_wp2_with (first | refine ret_load rfl rfl rfl (unhide hG) ?_ | refine ret_store rfl rfl rfl rfl (unhide hG) ?_)
            refine bodyPost_ret (bytes_results (unhide hG) _ rfl) rfl ?_
            exact said_some (fin_full (unhide hR).run hn) (unhide hR).bel (fun i hi => unhide hGo i (by omega))
          · have hnb : ((o.length : Int) == 16) = false := by simp; omega
            go_wp2_with (first | refine ret_load rfl rfl rfl (unhide hG) ?_ | refine ret_store rfl rfl rfl rfl (unhide hG) ?_)
            refine bodyPost_ret (bytes_results (unhide hG) _ rfl) rfl ?_
            exact said_none (fin_short (unhide hR).run hn) (unhide hR).bel
        | some k =>
          have hk := (unhide hR).gap k rfl
          by_cases hn : o.length = 16
          · go_wp2_with (first | refine ret_load rfl rfl rfl (unhide hG) ?_ | refine ret_store rfl rfl rfl rfl (unhide hG) ?_)
            refine bodyPost_ret (bytes_results (unhide hG) _ rfl) rfl ?_
            exact said_none (fin_over (unhide hR).run hn) (unhide hR).bel
          · have hgc : w1.drew.heap[w.heap.size]? = some (.cells (arr G).toList.toArray 39 (0, 0)) := by show w1.heap[w.heap.size]? = _; simpa using bytes_arr (unhide hG)
            have hgc := hide hgc
            have hbel : Hid (Below w.heap.size w w1.drew) := hide (below_drew (unhide hR).bel)
            obtain ⟨cs, hcs⟩ : ∃ cs, Hid (cs = ((arr G).toList.drop k).take (o.length - k)) := ⟨_, rfl⟩
            have hcl : Hid (cs.length = o.length - k) := by show _ = _; rw [unhide hcs]; simp [arr_size]; omega
            simp only [gapV]
            by_cases hkn : k = o.length
            · replace hkn := hide hkn
              have hwr : IntKind.i64.wrap ((k : Int) + (16 - (o.length : Int))) = 16 := wrap_gap (m := 16) (by have := unhide hkn; omega) hlen hk
              have hk16 : k < 16 := by have := unhide hkn; omega
              have hs1 := cut_16 w.heap.size
              have hs2 := cut_lohi w.heap.size k o.length hk hlen hk16
              have hs3 := cut_to16 w.heap.size k hk16
              have hcs1 : cs.length = Nat.min (o.length - k) 0 := by have := unhide hkn; rw [unhide hcl]; simp; omega
              have hcs0 : ¬ 0 < cs.length := by have := unhide hkn; rw [unhide hcl]; omega
              have hcs3 : 0 + cs.length ≤ (arr G).toList.length := by omega
              have hcs4 : Hid (∀ v ∈ cs, v.oneCell' = true) := hide (copy_one (unhide hcs))
              have hcsn : Hid (cs = []) := hide (List.eq_nil_of_length_eq_zero (by omega))
              go_upto_region 39 with fail
              go_region_law (refine step_copy_splice rfl (.tmp 129) (.tmp 132) 25 25 rfl 5 Try.underlying25 (by kernel_rfl) (some ⟨w.heap.size, 0, none⟩) (some ⟨w.heap.size, k, none⟩) 0 0 (o.length - k) (16 - k) (by simp [go_sem]; done) (by simp [go_sem]; done) w.heap.size 0 (arr G).toList 39 (unhide hgc) cs hcs1 (fun h => absurd h hcs0) hcs3 (unhide hcs4) w.heap.size w (unhide hbel) (Nat.le_refl _) ?_; intro w4 hg4 hb4)
              have hB4 := hide (bytes_same (unhide hg4) (unhide hcsn))
              have hcl6 := run_clear6 (unhide hB4) hk16 (Nat.le_refl _) (16 - k)
              have hB5 := hide (bytes_clear (16 - k) k w4 _ (unhide hB4))
              have hb5 := hide (below_clear (Nat.le_refl _) (List.replicate (16 - k) (.int .u8 0)) k w4 hb4)
              go_wp2_with (first | refine ret_load rfl rfl rfl (unhide hB5) ?_ | refine ret_store rfl rfl rfl rfl (unhide hB5) ?_)
              refine bodyPost_ret (bytes_results (unhide hB5) _ rfl) rfl ?_
              refine said_some (fin_gap (unhide hR).run hn) (unhide hb5) ?_
              refine gap_get (m := 16) hk hlen (by have := unhide hkn; omega) (unhide hGo) ?_
              intro i hi
              have e : k + (16 - k) = 16 := by omega
              simp only [e]
              by_cases h1 : k ≤ i ∧ i < 16
              · simp only [if_pos h1]
              · simp only [if_neg h1]; rw [if_neg (by omega)]
            · obtain ⟨m, hm⟩ : ∃ m, Hid (m = k + (16 - o.length)) := ⟨_, rfl⟩
              have hm16 : m < 16 := by have := unhide hm; omega
              have hkm : k < m := by have := unhide hm; omega
              have hwr := wrap_gap (unhide hm) hlen hk
              have hs1 := cut_lo w.heap.size m hm16
              have hs2 := cut_lohi w.heap.size k o.length hk hlen (by omega)
              have hs3 := cut_lohi w.heap.size k m (by omega) (by omega) (by omega)
              have hcs1 : cs.length = Nat.min (o.length - k) (16 - m) := by have := unhide hm; rw [unhide hcl]; exact (Nat.min_eq_left (by omega)).symm
              have hcs2 : Hid (∀ (j : Nat) (v : Value), cs[j]? = some v → w1.drew.cell? ((⟨w.heap.size, k, none⟩ : Addr).add j) = some v) := hide (copy_src (unhide hG) (unhide hcs) hlen)
              have hcs3 : m + cs.length ≤ (arr G).toList.length := by have := unhide hm; have := unhide hcl; simp only [Array.length_toList, arr_size]; omega
              have hcs4 : Hid (∀ v ∈ cs, v.oneCell' = true) := hide (copy_one (unhide hcs))
              go_upto_region 39 with fail
              go_region_law (refine step_copy_splice rfl (.tmp 129) (.tmp 132) 25 25 rfl 5 Try.underlying25 (by kernel_rfl) (some ⟨w.heap.size, m, none⟩) (some ⟨w.heap.size, k, none⟩) (16 - m) (16 - m) (o.length - k) (16 - k) (by simp [go_sem]; done) (by simp [go_sem]; done) w.heap.size m (arr G).toList 39 (unhide hgc) cs hcs1 (fun _ => ⟨rfl, _, rfl, unhide hcs2⟩) hcs3 (unhide hcs4) w.heap.size w (unhide hbel) (Nat.le_refl _) ?_; intro w4 hg4 hb4)
              have hB4 := hide (bytes_splice (unhide hg4) (unhide hcs) (unhide hm) hk hlen)
              have hcl6 := run_clear6 (unhide hB4) hkm (by omega) (16 - k)
              have hB5 := hide (bytes_clear (m - k) k w4 _ (unhide hB4))
              have hb5 := hide (below_clear (Nat.le_refl _) (List.replicate (m - k) (.int .u8 0)) k w4 hb4)
              go_wp2_with (first | refine ret_load rfl rfl rfl (unhide hB5) ?_ | refine ret_store rfl rfl rfl rfl (unhide hB5) ?_)
              refine bodyPost_ret (bytes_results (unhide hB5) _ rfl) rfl ?_
              refine said_some (fin_gap (unhide hR).run hn) (unhide hb5) ?_
              refine gap_get hk hlen (unhide hm) (unhide hGo) ?_
              intro i hi
              have e : k + (m - k) = m := by omega
              simp only [e]
      · have hE1 := list_isEmpty (s := s') (by omega)
        have hE2 := list_empty (s := s') (by omega)
        have hL := hide (nonempty_L hE)
        go_wp2_with (first | refine ret_load rfl rfl rfl (unhide hG) ?_ | refine ret_store rfl rfl rfl rfl (unhide hG) ?_)
        refine bodyPost_ret (bytes_results (unhide hG) _ rfl) rfl ?_
        exact said_none (fin_more (unhide hR).run (unhide hL)) (unhide hR).bel
    case first =>
      go_wp2_with fail
      go_loopw [5, 0, 4] (fun v5 v0 v4 wr => ∃ (s' : ByteArray) (g : Option Nat) (o : List Nat), v5 = .int .i64 o.length ∧ v0 = .string s' ∧ v4 = .int .i64 (gapV g) ∧ s'.size ≤ 2 ^ 63 - 1 ∧ Hid (Rel6 x w wr g o (L s'))) (fun v5 _ _ _ => (16 - intOf v5).toNat)
      case atStart => exact ⟨s1, g1, [], rfl, rfl, rfl, hs1, hR1⟩
      case round =>
        obtain ⟨s', g, o, rfl, rfl, rfl, hs', hR⟩ := hrel
        clear hR1 hs1
        rename World => w1
        have hlen := (unhide hR).len
        have heven := (unhide hR).even
        by_cases hE : s'.size = 0
        · have hF : Hid (Fin6 x w w1 g o (L s')) := hide (rel_fin (unhide hR) (Or.inr (by rw [size_zero hE]; rfl)))
          obtain rfl := size_zero hE
          go_wp2_with fail
          all_goals go_meet
          all_goals exact ⟨_, g, o, rfl, rfl, rfl, hs', hF⟩
        · by_cases hn : o.length = 16
          · have hF : Hid (Fin6 x w w1 g o (L s')) := hide (rel_fin (unhide hR) (Or.inl hn))
            go_wp2_with fail
            all_goals go_meet
            all_goals exact ⟨_, g, o, by simp [hn], rfl, rfl, hs', hF⟩
          · have hE1 := list_isEmpty (s := s') (by omega)
            have hE2 := list_empty (s := s') (by omega)
            have hL := hide (nonempty_L hE)
            have hn16 : o.length < 16 := by omega
            go_upto_block 2 with fail
            go_cut [6, 7] from 15 to 112 (fun v6 v7 wr => ∃ a d : Nat, v6 = .int .i64 a ∧ v7 = .int .i64 d ∧ d ≤ 5 ∧ d ≤ s'.size ∧ a < 16 ^ d ∧ wr = w1 ∧ Hid (hexRun 5 0 (L s') = (a, d)))
            case first =>
              go_wp2_with fail
              go_loop [6, 7] (fun v6 v7 => ∃ a d : Nat, v6 = .int .i64 a ∧ v7 = .int .i64 d ∧ d ≤ 5 ∧ d ≤ s'.size ∧ Hid (HR (L s') a d)) (fun _ v7 => ((s'.size : Int) - intOf v7).toNat)
              case atStart => exact ⟨0, 0, rfl, rfl, by omega, by omega, hide (hr_start _)⟩
              case round =>
                obtain ⟨a, d, rfl, rfl, hd5, hds, hh⟩ := hrel
                by_cases hlt : d < s'.size
                · by_cases h5 : d = 5
                  · have hX := hide (hr_five (unhide hh) h5)
                    have ha := (unhide hh).1
                    go_wp2_with fail
                    go_meet
                    exact ⟨a, d, by simp, by simp [h5], hd5, hds, ha, rfl, hX⟩
                  · cases hv : hexV s'[d] with
                    | none =>
                      have hX := hide (hr_stop (unhide hh) (by omega) hlt hv)
                      have ha := hide (unhide hh).1
                      have hc := hexDigit_any s'[d] w1
                      rw [hv] at hc
                      go_wp2_with (go_at_call 45; refine hc.mono ?_; rintro e' w' ⟨rfl, rfl⟩; unfold hexAns)
                      go_meet
                      exact ⟨a, d, by simp, by simp, hd5, hds, unhide ha, rfl, hX⟩
                    | some y =>
                      have hX := hide (hr_step (unhide hh) (by omega) hlt hv)
                      have hy := hexV_lt hv
                      have ha : a < 1048576 := by
                        have h1 := (unhide hh).1
                        have h2 : 16 ^ d ≤ 16 ^ 5 := Nat.pow_le_pow_right (by omega) (by omega)
                        omega
                      have hor := or16 a y ha hy
                      have hc := hexDigit_any s'[d] w1
                      rw [hv] at hc
                      go_wp2_with (go_at_call 45; refine hc.mono ?_; rintro e' w' ⟨rfl, rfl⟩; unfold hexAns)
                      go_round
                      case rel => exact ⟨a * 16 + y, d + 1, by simp, by simp, by omega, by omega, hX⟩
                      case measure => simp [intOf]; omega
                · have hX := hide (hr_end (unhide hh) (by omega))
                  have ha := hide (unhide hh).1
                  go_wp2_with fail
                  go_meet
                  exact ⟨a, d, by simp, by simp, hd5, hds, unhide ha, rfl, hX⟩
            case rest =>
              obtain ⟨a, d, rfl, rfl, hd5, hds, ha, hw1, hX⟩ := hcut
              have hw2 := hw1.symm
              subst hw2
              obtain ⟨G, hG, hGo⟩ : ∃ G : Nat → Nat, Hid (Bytes w1 w.heap.size 39 16 G) ∧ Hid (∀ i, i < o.length → G i = o.getD i 0) := (unhide hR).row
              by_cases hd : d = 0 ∨ 4 < d
              · have hN := hide (way_none (unhide hR) hn16 (unhide hL) (r_bad (unhide hX) hd))
                rcases hd with rfl | hd
                · go_wp2_with (first | refine ret_load rfl rfl rfl (unhide hG) ?_ | refine ret_store rfl rfl rfl rfl (unhide hG) ?_)
                  refine bodyPost_ret (bytes_results (unhide hG) _ rfl) rfl ?_
                  exact said_none (unhide hN) (unhide hR).bel
                · go_wp2_with (first | refine ret_load rfl rfl rfl (unhide hG) ?_ | refine ret_store rfl rfl rfl rfl (unhide hG) ?_)
                  refine bodyPost_ret (bytes_results (unhide hG) _ rfl) rfl ?_
                  exact said_none (unhide hN) (unhide hR).bel
              · have hd0 : ¬ d = 0 := by omega
                have hd0b : ((d : Int) == 0) = false := by simp; omega
                have hd4 : d ≤ 4 := by omega
                have ha16 : a < 65536 := by
                  have h2 : 16 ^ d ≤ 16 ^ 4 := Nat.pow_le_pow_right (by omega) (by omega)
                  omega
                clear ha
                by_cases hdot : ∃ h : d < s'.size, s'[d].toNat = 46
                · obtain ⟨hlt, h46⟩ := hdot
                  have h46b : ((s'[d].toNat : Int) == 46) = true := by simp [h46]
                  have hld := hide (L_drop s' d hlt)
                  by_cases h12 : o.length + 4 ≤ 16
                  · have hrd : Hid (rnd g o (L s') = (p4 4 true (L s')).map fun q => (true, g, o ++ q, [])) := hide (by rw [r_dot (unhide hX) (by omega) hd4 (unhide hld) h46, if_neg (by omega)])
                    have hcut := cut_four w.heap.size o.length h12
                    cases hp : p4 4 true (L s') with
                    | none =>
                      have hN := hide (way_none (unhide hR) hn16 (unhide hL) (by rw [unhide hrd, hp]; rfl))
                      have hc := parseIPv4_any s' w.heap.size o.length (16 - o.length) 39 16 G w1 hs' h12 (unhide hG) none hp
                      go_wp2_with fail
                      refine hc.mono ?_
                      rintro e' w' ⟨rfl, hbw, G', hG', -⟩
                      have hbw' := hide ((unhide hR).bel.trans hbw)
                      have hG' := hide hG'
                      clear hbw
                      go_wp2_with (first | refine ret_load rfl rfl rfl (unhide hG') ?_ | refine ret_store rfl rfl rfl rfl (unhide hG') ?_)
                      refine bodyPost_ret (bytes_results (unhide hG') _ rfl) rfl ?_
                      exact said_none (unhide hN) (unhide hbw')
                    | some q =>
                      have hq4 := hide (p4_len _ _ _ _ hp)
                      have hrq : Hid (rnd g o (L s') = some (true, g, o ++ q, [])) := hide (by rw [unhide hrd, hp]; rfl)
                      have hc := parseIPv4_any s' w.heap.size o.length (16 - o.length) 39 16 G w1 hs' h12 (unhide hG) (some q) hp
                      go_wp2_with fail
                      refine hc.mono ?_
                      rintro e' w' ⟨rfl, hbw, G', hG', hGq⟩
                      have hF := hide (fin_quad (unhide hR) hn16 (unhide hL) h12 (unhide hrq) (unhide hq4) ((unhide hR).bel.trans hbw) hG' (hGq q rfl) (unhide hGo))
                      clear hbw hGq hG'
                      go_wp2_with fail
                      go_meet
                      exact ⟨_, g, o ++ q, by simp [unhide hq4], rfl, rfl, by decide, hF⟩
                  · have hN := hide (way_none (unhide hR) hn16 (unhide hL) (by rw [r_dot (unhide hX) (by omega) hd4 (unhide hld) h46, if_pos (by omega)]))
                    go_wp2_with (first | refine ret_load rfl rfl rfl (unhide hG) ?_ | refine ret_store rfl rfl rfl rfl (unhide hG) ?_)
                    refine bodyPost_ret (bytes_results (unhide hG) _ rfl) rfl ?_
                    exact said_none (unhide hN) (unhide hR).bel
                · have hn15 : o.length + 1 < 16 := by omega
                  have hc1 : w1.cell? ⟨w.heap.size, o.length, none⟩ = some (.int .u8 (G o.length)) := World.rowIs.cell (unhide hG) hn16
                  have hc2 : w1.cell? ⟨w.heap.size, o.length + 1, none⟩ = some (.int .u8 (G (o.length + 1))) := World.rowIs.cell (unhide hG) hn15
                  have hf1 : w1.frozen? ⟨w.heap.size, o.length, none⟩ = false := World.rowIs.frozen (unhide hG) _
                  have hf2 : w1.frozen? ⟨w.heap.size, o.length + 1, none⟩ = false := World.rowIs.frozen (unhide hG) _
                  have hB2 : Hid (Bytes ((w1.setCell ⟨w.heap.size, o.length, none⟩ (.int .u8 ((a : Int) / 256))).setCell ⟨w.heap.size, o.length + 1, none⟩ (.int .u8 ((a : Int) % 256))) w.heap.size 39 16 (two G o.length a)) := hide (bytes_two (n := o.length) (a := a) (unhide hG) (by simp) (by simp) rfl rfl)
                  have hb2 : Hid (Below w.heap.size w ((w1.setCell ⟨w.heap.size, o.length, none⟩ (.int .u8 ((a : Int) / 256))).setCell ⟨w.heap.size, o.length + 1, none⟩ (.int .u8 ((a : Int) % 256)))) := hide (below_two (unhide hR).bel (Nat.le_refl _))
                  by_cases hlt : d < s'.size
                  · have h46 : ¬ s'[d].toNat = 46 := fun e => hdot ⟨hlt, e⟩
                    have h46b : ((s'[d].toNat : Int) == 46) = false := by simp; omega
                    clear hdot
                    obtain ⟨t, hst⟩ : ∃ t, s'.extract d s'.size = t := ⟨_, rfl⟩
                    have hts : t.size = s'.size - d := by rw [← hst]; simp
                    have ht0 : 0 < t.size := by omega
                    have htL : Hid (L t = (L s').drop d) := hide (by rw [← hst, L_from s' d _ (Nat.le_refl _)])
                    have htd : Hid ((L s').drop d = t[0] :: (L t).drop 1) := hide (by rw [← unhide htL]; exact L_drop t 0 ht0)
                    have h46t : Hid (t[0].toNat ≠ 46) := hide (by
                      have h1 := unhide htd
                      rw [L_drop s' d hlt] at h1
                      rw [← (List.cons.inj h1).1]; exact h46)
                    have hts' : t.size ≤ 2 ^ 63 - 1 := by omega
                    have htE1 := list_isEmpty ht0
                    have htE2 := list_empty ht0
                    clear hts
                    by_cases h58 : t[0].toNat = 58
                    · have h58b : ((t[0].toNat : Int) != 58) = false := by simp [h58]
                      by_cases h1 : t.size = 1
                      · have hN := hide (way_none (unhide hR) hn16 (unhide hL) (r_sep (unhide hX) (by omega) hd4 (unhide htd) (unhide h46t) (Or.inr (L_end t 1 (by omega)))))
                        have h1b : ((t.size : Int) == 1) = true := by simp [h1]
                        go_wp2_with (first | refine ret_load rfl rfl rfl (unhide hB2) ?_ | refine ret_store rfl rfl rfl rfl (unhide hB2) ?_)
                        refine bodyPost_ret (bytes_results (unhide hB2) _ rfl) rfl ?_
                        exact said_none (unhide hN) (unhide hb2)
                      · have h1b : ((t.size : Int) == 1) = false := by simp; omega
                        have h1c : 1 < t.size := by omega
                        obtain ⟨t2, hst2⟩ : ∃ t2, t.extract 1 t.size = t2 := ⟨_, rfl⟩
                        have hts2 : t2.size = t.size - 1 := by rw [← hst2]; simp
                        have ht20 : 0 < t2.size := by omega
                        have htL2 : Hid (L t2 = (L t).drop 1) := hide (by rw [← hst2, L_from t 1 _ (Nat.le_refl _)])
                        have htd2 : Hid ((L t).drop 1 = t2[0] :: (L t2).drop 1) := hide (by rw [← unhide htL2]; exact L_drop t2 0 ht20)
                        have htd3 : Hid ((L s').drop d = t[0] :: t2[0] :: (L t2).drop 1) := hide (by rw [← unhide htd2]; exact unhide htd)
                        have hts3 : t2.size ≤ 2 ^ 63 - 1 := by omega
                        have htE3 := list_isEmpty ht20
                        have htE4 := list_empty ht20
                        clear hts2
                        by_cases hc58 : t2[0].toNat = 58
                        · have hc58b : ((t2[0].toNat : Int) == 58) = true := by simp [hc58]
                          cases g with
                          | none =>
                            have hRR := hide (rel_two (unhide hR) hn16 (unhide hL) (by rw [r_gap (unhide hX) (by omega) hd4 (unhide htd3) h58 hc58]; rfl) (Or.inr rfl) (G := G) (unhide hb2) (unhide hB2) (unhide hGo))
                            go_wp2_with fail
                            go_roundw
                            case rel => exact ⟨_, some (o.length + 2), o ++ [a / 256, a % 256], by simp, rfl, by simp [gapV], by simp; omega, by rw [L_from t2 1 _ (Nat.le_refl _)]; exact hRR⟩
                            case measure => simp [intOf]; omega
                          | some k =>
                            have hN := hide (way_none (unhide hR) hn16 (unhide hL) (by rw [r_gap (unhide hX) (by omega) hd4 (unhide htd3) h58 hc58]; rfl))
                            simp only [gapV]
                            go_wp2_with (first | refine ret_load rfl rfl rfl (unhide hB2) ?_ | refine ret_store rfl rfl rfl rfl (unhide hB2) ?_)
                            refine bodyPost_ret (bytes_results (unhide hB2) _ rfl) rfl ?_
                            exact said_none (unhide hN) (unhide hb2)
                        · have hc58b : ((t2[0].toNat : Int) == 58) = false := by simp; omega
                          have hRR := hide (rel_two (unhide hR) hn16 (unhide hL) (r_next (unhide hX) (by omega) hd4 (unhide htd3) h58 hc58) (Or.inl rfl) (G := G) (unhide hb2) (unhide hB2) (unhide hGo))
                          go_wp2_with fail
                          go_roundw
                          case rel => exact ⟨t2, g, o ++ [a / 256, a % 256], by simp, rfl, rfl, hts3, by have h := L_drop t2 0 ht20; rw [List.drop_zero] at h; rw [h]; exact hRR⟩
                          case measure => simp [intOf]; omega
                    · have hN := hide (way_none (unhide hR) hn16 (unhide hL) (r_sep (unhide hX) (by omega) hd4 (unhide htd) (unhide h46t) (Or.inl h58)))
                      have h58b : ((t[0].toNat : Int) != 58) = true := by simp; omega
                      go_wp2_with (first | refine ret_load rfl rfl rfl (unhide hB2) ?_ | refine ret_store rfl rfl rfl rfl (unhide hB2) ?_)
                      refine bodyPost_ret (bytes_results (unhide hB2) _ rfl) rfl ?_
                      exact said_none (unhide hN) (unhide hb2)
                  · have hend : s'.extract d s'.size = ByteArray.empty := by
                      apply size_zero; simp; omega
                    go_wp2_with fail
                    go_meet
                    exact ⟨_, g, o ++ [a / 256, a % 256], by simp, rfl, rfl, by decide, hide (fin_two (unhide hR) hn16 (unhide hL) (r_end (unhide hX) (by omega) hd4 (L_end s' d (by omega))) (G := G) (unhide hb2) (unhide hB2) (unhide hGo))⟩
end Go.Proofs.Qxb6600526a
