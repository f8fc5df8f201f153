/-
  THE WALK OF 'FnMergeIsPointwiseMax': the law returns true and writes nothing that was there. (Its prelude, the guards and the copies, is written by a small program of our own.)
-/
import Derived.Test.Qxb6600413aW3
import Derived.Test.Qxb6600413aW4
import Derived.Test.Qxb6600413aZz
import Derived.Test.Qxb6600413aMid
import Derived.Deep.DeepCutAuto
import Derived.Deep.RegionWith
namespace Go.Proofs.Qxb6600413a
open Go.RowKit

set_option maxRecDepth 100000 in
set_option maxHeartbeats 4000000 in
theorem law3 (a0 a0' : Option Addr) (n0 c0 n0' c0' : Nat) (s0 : List ByteArray) (z0 : List Int) (a1 a1' : Option Addr) (n1 c1 n1' c1' : Nat) (s1 : List ByteArray) (z1 : List Int) (w : World) (h0 : Strs w a0 n0 c0 s0) (h0' : Ints w a0' n0' c0' z0) (h1 : Strs w a1 n1 c1 s1) (h1' : Ints w a1' n1' c1' z1) :
    Calls Try.prog 3 #[.slice a0 n0 c0, .slice a0' n0' c0', .slice a1 n1 c1, .slice a1' n1' c1'] w fun e w' => e = .returned (.bool true) ∧ Below w.heap.size w w' := by
  have q22 := fun (w : World) (a : Option Addr) (n c n' c' : Nat) => run_neq_slice_nil_any (P := Try.prog) w 22 9 a n c n' c' Try.underlying22
  have q23 := fun (w : World) (a : Option Addr) (n c n' c' : Nat) => run_neq_slice_nil_any (P := Try.prog) w 23 34 a n c n' c' Try.underlying23
  obtain ⟨i9, hi9, hz9, hs9, hy9⟩ := info_parts Try.info9
  obtain ⟨i34, hi34, hz34, hs34, hy34⟩ := info_parts Try.info34
  go_enter Try.func3, Try.ntmps3
  go_wp2_with fail
  refine (zzBytes11 a0 a0' n0 c0 n0' c0' s0 z0 a1 a1' n1 c1 n1' c1' s1 z1 w h0 h0' h1 h1').mono ?_
  rintro e wx ⟨rfl | rfl, hwx⟩ <;> obtain rfl := hwx.symm
  case inr =>
    go_wp2
    go_ret
    exact ⟨rfl, Below.refl _ _⟩
  go_wp2_with fail
  refine (zSize_any a0 a0' n0 c0 n0' c0' s0 z0 _ h0 h0').mono ?_
  rintro e wx ⟨t0, rfl, ht0, hb0, hwx⟩
  obtain rfl := hwx.symm
  go_wp2_with fail
  refine (zSize_any a1 a1' n1 c1 n1' c1' s1 z1 _ h1 h1').mono ?_
  rintro e wx ⟨t1, rfl, ht1, hb1, hwx⟩
  obtain rfl := hwx.symm
  by_cases hbig : (1048576 : Int) < (t0 : Int) + (t1 : Int)
  · go_wp2
    go_ret
    exact ⟨rfl, Below.refl _ _⟩
  have B0 := hb0 (by omega)
  have B1 := hb1 (by omega)
  have hbx : Below w.heap.size w w := Below.refl _ _
  have hbx0 := hbx
  go_wp2_with fail
  refine (zWellFormed_any a0 a0' n0 c0 n0' c0' s0 z0 _ (h0.below hbx (Nat.le_refl _)) (h0'.below hbx (Nat.le_refl _))).mono ?_
  rintro e wx ⟨b0, rfl, hw0, q0, hwx⟩
  replace hbx : Below w.heap.size w wx := by rw [hwx]; exact below_drewN hbx _
  clear hwx
  cases b0
  · go_wp2
    go_ret
    exact ⟨rfl, hbx⟩
  have W0 := hw0.1 rfl
  clear hw0
  go_wp2_with fail
  refine (zWellFormed_any a1 a1' n1 c1 n1' c1' s1 z1 _ (h1.below hbx (Nat.le_refl _)) (h1'.below hbx (Nat.le_refl _))).mono ?_
  rintro e wx ⟨b1, rfl, hw1, q1, hwx⟩
  replace hbx : Below w.heap.size w wx := by rw [hwx]; exact below_drewN hbx _
  clear hwx
  cases b1
  · go_wp2
    go_ret
    exact ⟨rfl, hbx⟩
  have W1 := hw1.1 rfl
  clear hw1
  have E0 := W0.1
  rw [h0.len, h0'.len] at E0
  have E1 := W1.1
  rw [h1.len, h1'.len] at E1
  subst E0 E1
  clear hbig hbx0 ht0 hb0 ht1 hb1
  go_upto_if 44 with fail
  go_cut [0] (fun v wc => ∃ a c, v = .slice a n0 c ∧ Strs wc a n0 c s0 ∧ Below w.heap.size w wc)
  case first =>
    go_wp2_with (first | (at_make; refine wpList_make_full _ rfl _ _ 22 rfl wx.heap.size 9 i9 _ 1 Try.underlying22 hi9 hz9 hs9 _ _ _ _ n0 rfl rfl rfl rfl (by rw [hy9]; omega) (by unfold maxLen; omega) (Nat.le_refl _) ?_; intro w1 hown hgrow; have hb1 := (Below.refl wx.heap.size wx).grown hgrow (Nat.le_refl _) (fun k h => by cases h)) | (refine wpList_copy_row rfl (.tmp 48) (.tmp 49) 22 rfl 9 Try.underlying22 Try.one9 wx.heap.size n0 c0 a0 rfl rfl wx.heap.size _ hown (strV s0) (by rw [strV_len, h0.len]) ((h0.below (hbx.trans (hb1.mono hbx.size)) (Nat.le_refl _)).row) (strV_one _) wx.heap.size wx hb1 (Nat.le_refl _) ?_; intro w2 hr hb2))
    · go_meet
      case rel => exact ⟨_, _, rfl, h0.copied hr, hbx.trans (hb2.mono hbx.size)⟩
    · go_meet
      case rel => exact ⟨a0, c0, rfl, h0.below hbx (Nat.le_refl _), hbx⟩
  case' rest =>
    clear hbx 
    obtain ⟨d0, e0, rfl, k0, hbx⟩ := hcut
  go_upto_if 53 with fail
  go_cut [1] (fun v wc => ∃ a c, v = .slice a n0 c ∧ Ints wc a n0 c z0 ∧ Strs wc d0 n0 e0 s0 ∧ Below w.heap.size w wc)
  case first =>
    go_wp2_with (first | (at_make; refine wpList_make_full _ rfl _ _ 23 rfl wc.heap.size 34 i34 _ 1 Try.underlying23 hi34 hz34 hs34 _ _ _ _ n0 rfl rfl rfl rfl (by rw [hy34]; omega) (by unfold maxLen; omega) (Nat.le_refl _) ?_; intro w1 hown hgrow; have hb1 := (Below.refl wc.heap.size wc).grown hgrow (Nat.le_refl _) (fun k h => by cases h)) | (refine wpList_copy_row rfl (.tmp 57) (.tmp 58) 23 rfl 34 Try.underlying23 Try.one34 wc.heap.size n0 c0' a0' rfl rfl wc.heap.size _ hown (intV z0) (by rw [intV_len, h0'.len]) ((h0'.below (hbx.trans (hb1.mono hbx.size)) (Nat.le_refl _)).row) (intV_one _) wc.heap.size wc hb1 (Nat.le_refl _) ?_; intro w2 hr hb2))
    · go_meet
      case rel => exact ⟨_, _, rfl, h0'.copied hr, k0.below hb2 (Nat.le_refl _), hbx.trans (hb2.mono hbx.size)⟩
    · go_meet
      case rel => exact ⟨a0', c0', rfl, h0'.below hbx (Nat.le_refl _), k0, hbx⟩
  case' rest =>
    clear hbx k0
    obtain ⟨d1, e1, rfl, k1, k0, hbx⟩ := hcut
  go_upto_if 62 with fail
  go_cut [2] (fun v wc => ∃ a c, v = .slice a n1 c ∧ Strs wc a n1 c s1 ∧ Strs wc d0 n0 e0 s0 ∧ Ints wc d1 n0 e1 z0 ∧ Below w.heap.size w wc)
  case first =>
    go_wp2_with (first | (at_make; refine wpList_make_full _ rfl _ _ 22 rfl wc.heap.size 9 i9 _ 1 Try.underlying22 hi9 hz9 hs9 _ _ _ _ n1 rfl rfl rfl rfl (by rw [hy9]; omega) (by unfold maxLen; omega) (Nat.le_refl _) ?_; intro w1 hown hgrow; have hb1 := (Below.refl wc.heap.size wc).grown hgrow (Nat.le_refl _) (fun k h => by cases h)) | (refine wpList_copy_row rfl (.tmp 66) (.tmp 67) 22 rfl 9 Try.underlying22 Try.one9 wc.heap.size n1 c1 a1 rfl rfl wc.heap.size _ hown (strV s1) (by rw [strV_len, h1.len]) ((h1.below (hbx.trans (hb1.mono hbx.size)) (Nat.le_refl _)).row) (strV_one _) wc.heap.size wc hb1 (Nat.le_refl _) ?_; intro w2 hr hb2))
    · go_meet
      case rel => exact ⟨_, _, rfl, h1.copied hr, k0.below hb2 (Nat.le_refl _), k1.below hb2 (Nat.le_refl _), hbx.trans (hb2.mono hbx.size)⟩
    · go_meet
      case rel => exact ⟨a1, c1, rfl, h1.below hbx (Nat.le_refl _), k0, k1, hbx⟩
  case' rest =>
    clear hbx k0 k1
    obtain ⟨d2, e2, rfl, k2, k0, k1, hbx⟩ := hcut
  go_upto_if 71 with fail
  go_cut [3] (fun v wc => ∃ a c, v = .slice a n1 c ∧ Ints wc a n1 c z1 ∧ Strs wc d0 n0 e0 s0 ∧ Ints wc d1 n0 e1 z0 ∧ Strs wc d2 n1 e2 s1 ∧ Below w.heap.size w wc)
  case first =>
    go_wp2_with (first | (at_make; refine wpList_make_full _ rfl _ _ 23 rfl wc.heap.size 34 i34 _ 1 Try.underlying23 hi34 hz34 hs34 _ _ _ _ n1 rfl rfl rfl rfl (by rw [hy34]; omega) (by unfold maxLen; omega) (Nat.le_refl _) ?_; intro w1 hown hgrow; have hb1 := (Below.refl wc.heap.size wc).grown hgrow (Nat.le_refl _) (fun k h => by cases h)) | (refine wpList_copy_row rfl (.tmp 75) (.tmp 76) 23 rfl 34 Try.underlying23 Try.one34 wc.heap.size n1 c1' a1' rfl rfl wc.heap.size _ hown (intV z1) (by rw [intV_len, h1'.len]) ((h1'.below (hbx.trans (hb1.mono hbx.size)) (Nat.le_refl _)).row) (intV_one _) wc.heap.size wc hb1 (Nat.le_refl _) ?_; intro w2 hr hb2))
    · go_meet
      case rel => exact ⟨_, _, rfl, h1'.copied hr, k0.below hb2 (Nat.le_refl _), k1.below hb2 (Nat.le_refl _), k2.below hb2 (Nat.le_refl _), hbx.trans (hb2.mono hbx.size)⟩
    · go_meet
      case rel => exact ⟨a1', c1', rfl, h1'.below hbx (Nat.le_refl _), k0, k1, k2, hbx⟩
  case' rest =>
    clear hbx k0 k1 k2
    obtain ⟨d3, e3, rfl, k3, k0, k1, k2, hbx⟩ := hcut
  clear hi9 hz9 hs9 hy9 hi34 hz34 hs34 hy34 q22 q23
  have M0 := k0.len
  have M1 := k2.len
  have P0 := k1.each
  have P1 := k3.each
  go_wp2_with fail
  refine (zzVector_any d0 d1 n0 e0 n0 e1 s0 z0 wc k0 k1 rfl (by omega)).mono ?_
  rintro e w1 ⟨g0, rfl, G0, hg0, hB1⟩
  go_wp2_with fail
  refine (zzVector_any d2 d3 n1 e2 n1 e3 s1 z1 w1 (k2.below hB1 (Nat.le_refl _)) (k3.below hB1 (Nat.le_refl _)) rfl (by omega)).mono ?_
  rintro e w2 ⟨g1, rfl, G1, hg1, hB2⟩
  go_wp2_with fail
  refine (merge_any g0 0 n0 n0 g1 0 n1 n1 _ _ w2 (G0.below hB2 (Nat.le_refl _)) G1 (by omega)).mono ?_
  rintro e w3 ⟨g2, m, c2, rfl, G2, hg2, hB3⟩
  have hml : m ≤ n0 + n1 := by
    have h1 := G2.len
    have h2 := mrg_len (vec s0 z0) (vec s1 z1)
    rw [vec_len W0.1, vec_len W1.1, M0, M1] at h2
    omega
  have hb13 : Below wc.heap.size wc w3 := hB1.trans ((hB2.mono hB1.size).trans (hB3.mono (Nat.le_trans hB1.size hB2.size)))
  clear hB1 hB2 hB3 G0 G1 hg0 hg1
  go_wp2_with fail
  refine (zzVectorIDs_any g2 0 m c2 (Pl.mrg (vec s0 z0) (vec s1 z1)) _ ?_ (by omega)).mono ?_
  · exact G2.below ((Below.refl _ _).alloc (Nat.le_refl _) _) (Nat.le_refl _)
  rintro e w4 ⟨u1, rfl, U1, hB4⟩
  have cl4 : w4.cell? ⟨w3.heap.size, 0, none⟩ = some (.slice (some ⟨g2, 0, none⟩) m c2) := (hB4.cell (by simp)).trans (by simp)
  go_wp2_with fail
  have hb34 : Below w3.heap.size w3 w4 := ((Below.refl _ _).alloc (Nat.le_refl _) _).trans (hB4.mono (by simp))
  refine (zzVectorCounts_any g2 0 m c2 (Pl.mrg (vec s0 z0) (vec s1 z1)) _ (G2.below hb34 (Nat.le_refl _)) (by omega)).mono ?_
  rintro e w5 ⟨u2, rfl, U2, hB5⟩
  have V1 := U1.below hB5 (Nat.le_refl _)
  obtain ⟨ids, hids⟩ : ∃ ids, ids = (Pl.mrg (vec s0 z0) (vec s1 z1)).map Prod.fst := ⟨_, rfl⟩
  obtain ⟨cs, hcs⟩ : ∃ cs, cs = (Pl.mrg (vec s0 z0) (vec s1 z1)).map Prod.snd := ⟨_, rfl⟩
  rw [← hids] at V1
  rw [← hcs] at U2
  have Wm : WF ids cs := by rw [hids, hcs]; exact wf_cols (Pl.mrg_srt _ _ W0.srt W1.srt) (Pl.mrg_pos _ _ (W0.pos P0) (W1.pos P1))
  have F1 : Hid (∀ k (h : k < ids.length) (h' : k < cs.length), cs[k] = max (Pl.get (vec s0 z0) ids[k]) (Pl.get (vec s1 z1) ids[k])) := pm1 W0.srt W1.srt (W0.pos P0) (W1.pos P1) hids hcs
  have F2 : Hid (∀ id, (0 < Pl.get (vec s0 z0) id ∨ 0 < Pl.get (vec s1 z1) id) → Pl.get (vec ids cs) id ≠ 0) := fun id h => pm2 W0.srt W1.srt (W0.pos P0) (W1.pos P1) hids hcs h
  clear hids hcs cl4 U1 G2
  go_wp2_with fail
  refine (zWellFormed_any u1 u2 m m m m ids cs w5 V1 U2).mono ?_
  rintro e wz ⟨b, rfl, hb, q, hwz⟩
  obtain rfl : b = true := hb.2 Wm
  have Z0 : Below w5.heap.size w5 wz := by rw [hwz]; exact below_bytes rfl
  have hbz : Below wc.heap.size wc wz := hb13.trans ((hb34.mono hb13.size).trans ((hB5.mono (Nat.le_trans hb13.size hb34.size)).trans (Z0.mono (Nat.le_trans hb13.size (Nat.le_trans hb34.size hB5.size)))))
  have X1 := V1.below Z0 (Nat.le_refl _)
  have X2 := U2.below Z0 (Nat.le_refl _)
  have Y0 := k0.below hbz (Nat.le_refl _)
  have Y1 := k1.below hbz (Nat.le_refl _)
  have Y2 := k2.below hbz (Nat.le_refl _)
  have Y3 := k3.below hbz (Nat.le_refl _)
  have hbw : Below w.heap.size w wz := hbx.trans (hbz.mono hbx.size)
  clear hwz hb hb13 hb34 hB4 hB5 V1 U2 k0 k1 k2 k3 hbz Z0 hbx h0 h0' h1 h1'
  have lm := X1.len
  have lc := X2.len
  go_wp2_with fail
  go_loopw [16] (fun i wr => ∃ k : Nat, k ≤ m ∧ i = .int .i64 k ∧ Below wz.heap.size wz wr) (fun i _ => m - (intOf i).toNat)
  case atStart => exact ⟨0, by omega, rfl, Below.refl _ _⟩
  case round =>
    obtain ⟨k, hk, rfl, hbr⟩ := hrel
    have A1 := X1.below hbr (Nat.le_refl _)
    have A2 := X2.below hbr (Nat.le_refl _)
    have A3 := Y0.below hbr (Nat.le_refl _)
    have A4 := Y1.below hbr (Nat.le_refl _)
    have A5 := Y2.below hbr (Nat.le_refl _)
    have A6 := Y3.below hbr (Nat.le_refl _)
    by_cases hlt : k < m
    · obtain ⟨bu, ou, rfl, hlu, hcu⟩ := A1.at (by omega)
      obtain ⟨bv, ov, rfl, hlv, hcv⟩ := A2.at (by omega)
      have hcell := hcu k (by omega)
      have hcell' := hcv k (by omega)
      have f1 : Hid _ := F1.out k (by omega) (by omega)
      have hi1 : (k : Int) < (m : Int) := by omega
      clear hcu hcv X1 X2 Y0 Y1 Y2 Y3 A1 A2
      go_wp2
      go_quiet ((first | (go_at_call_of 19 d0; exact Calls.quiet_of_same (zFind_any d0 d1 n0 e0 n0 e1 s0 z0 _ _ (by exact A3.drewN _) (by exact A4.drewN _) rfl W0.srtS)) | (go_at_call_of 19 d2; exact Calls.quiet_of_same (zFind_any d2 d3 n1 e2 n1 e3 s1 z1 _ _ (by exact A5.drewN _) (by exact A6.drewN _) rfl W1.srtS)) | (go_at_call 18; exact Calls.quiet_of_same (zMax_any _ _ _))))
      have f2 := f1.out
      go_wp2
      go_roundw
      case rel => exact ⟨k + 1, by omega, by go_num, below_drewN hbr _⟩
      case measure => simp [intOf]; omega
    · clear X1 X2 Y0 Y1 Y2 Y3
      go_wp2_with fail
      go_loop [17] (fun i => ∃ k : Nat, k ≤ n0 ∧ i = .int .i64 k) (fun i => n0 - (intOf i).toNat)
      case atStart => exact ⟨0, by omega, rfl⟩
      case round =>
        obtain ⟨j, hj, rfl⟩ := hrel
        by_cases hlj : j < n0
        · obtain ⟨bu, ou, rfl, hlu, hcu⟩ := A3.at (by omega)
          have hcell := hcu j (by omega)
          have f3 := F2.out _ (.inl (get_pos_at W0 P0 j (by omega)))
          have f4 : (Pl.get (vec ids cs) (s0[j]'(by omega)) == 0) = false := by simpa using f3
          clear hcu f3 A3 A4 A5 A6
          go_wp2_with (go_at_call 19; refine (zFind_any u1 u2 m m m m ids cs _ _ A1 A2 rfl Wm.srtS).mono ?_; rintro e wy ⟨rfl, hwy⟩; obtain rfl := hwy.symm)
          go_round
          case rel => exact ⟨j + 1, by omega, by go_num⟩
          case measure => simp [intOf]; omega
        · go_wp2_with fail
          go_loop [18] (fun i => ∃ k : Nat, k ≤ n1 ∧ i = .int .i64 k) (fun i => n1 - (intOf i).toNat)
          case atStart => exact ⟨0, by omega, rfl⟩
          case round =>
            obtain ⟨l, hl, rfl⟩ := hrel
            by_cases hll : l < n1
            · obtain ⟨bu, ou, rfl, hlu, hcu⟩ := A5.at (by omega)
              have hcell := hcu l (by omega)
              have f3 := F2.out _ (.inr (get_pos_at W1 P1 l (by omega)))
              have f4 : (Pl.get (vec ids cs) (s1[l]'(by omega)) == 0) = false := by simpa using f3
              clear hcu f3 A3 A4 A5 A6
              go_wp2_with (go_at_call 19; refine (zFind_any u1 u2 m m m m ids cs _ _ A1 A2 rfl Wm.srtS).mono ?_; rintro e wy ⟨rfl, hwy⟩; obtain rfl := hwy.symm)
              go_round
              case rel => exact ⟨l + 1, by omega, by go_num⟩
              case measure => simp [intOf]; omega
            · go_wp2
              go_ret
              exact ⟨rfl, hbw.trans (hbr.mono hbw.size)⟩

end Go.Proofs.Qxb6600413a
