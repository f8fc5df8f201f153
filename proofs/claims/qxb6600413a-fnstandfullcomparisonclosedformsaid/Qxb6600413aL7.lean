/-
  THE WALK OF 'FnStandFullComparisonClosedForm': the law returns true and writes nothing that was there. (Its prelude, the guards and the copies, is written by a small program of our own.)
-/
import Derived.Test.Qxb6600413aW3
import Derived.Test.Qxb6600413aW4
import Derived.Test.Qxb6600413aW2
import Derived.Test.Qxb6600413aW8
import Derived.Test.Qxb6600413aZz
import Derived.Test.Qxb6600413aMid
import Derived.Test.Qxb6600413aW1
import Derived.Deep.DeepCutAuto
import Derived.Deep.RegionWith
namespace Go.Proofs.Qxb6600413a
open Go.RowKit

theorem hi_yes {s : List ByteArray} {z : List Int} {y : List Pl.Ent} {k : Nat} (h1 : k < s.length) (h2 : k < z.length) (h : Pl.get y (s[k]'h1) < z[k]'h2) : Pl.hi ((vec s z).take (k + 1)) y = true := by
  have hk : k < (vec s z).length := by simp [vec]; omega
  have e : (vec s z)[k]'hk = (s[k]'h1, z[k]'h2) := by simp [vec]
  unfold Pl.hi
  rw [List.take_succ_eq_append_getElem hk, e]
  simp [h]
theorem hi_no {s : List ByteArray} {z : List Int} {y : List Pl.Ent} {k : Nat} (h1 : k < s.length) (h2 : k < z.length) (h : z[k]'h2 ≤ Pl.get y (s[k]'h1)) : Pl.hi ((vec s z).take (k + 1)) y = Pl.hi ((vec s z).take k) y := by
  have hk : k < (vec s z).length := by simp [vec]; omega
  have e : (vec s z)[k]'hk = (s[k]'h1, z[k]'h2) := by simp [vec]
  have h' : ¬ Pl.get y (s[k]'h1) < z[k]'h2 := by omega
  unfold Pl.hi
  rw [List.take_succ_eq_append_getElem hk, e]
  simp [h']

set_option maxRecDepth 100000 in
set_option maxHeartbeats 4000000 in
theorem law7 (a0 a0' : Option Addr) (n0 c0 n0' c0' : Nat) (s0 : List ByteArray) (z0 : List Int) (a1 a1' : Option Addr) (n1 c1 n1' c1' : Nat) (s1 : List ByteArray) (z1 : List Int) (w : World) (h0 : Strs w a0 n0 c0 s0) (h0' : Ints w a0' n0' c0' z0) (h1 : Strs w a1 n1 c1 s1) (h1' : Ints w a1' n1' c1' z1) :
    Calls Try.prog 7 #[.slice a0 n0 c0, .slice a0' n0' c0', .slice a1 n1 c1, .slice a1' n1' c1'] w fun e w' => e = .returned (.bool true) ∧ Below w.heap.size w w' := by
  have q22 := fun (w : World) (a : Option Addr) (n c n' c' : Nat) => run_neq_slice_nil_any (P := Try.prog) w 22 9 a n c n' c' Try.underlying22
  have q23 := fun (w : World) (a : Option Addr) (n c n' c' : Nat) => run_neq_slice_nil_any (P := Try.prog) w 23 34 a n c n' c' Try.underlying23
  obtain ⟨i9, hi9, hz9, hs9, hy9⟩ := info_parts Try.info9
  obtain ⟨i34, hi34, hz34, hs34, hy34⟩ := info_parts Try.info34
  go_enter Try.func7, Try.ntmps7
  go_wp2_with fail
  refine (zzBytes26 a0 a0' n0 c0 n0' c0' s0 z0 a1 a1' n1 c1 n1' c1' s1 z1 w h0 h0' h1 h1').mono ?_
  rintro e wx ⟨rfl | rfl, hwx⟩ <;> obtain rfl := hwx.symm
  case inr =>
    go_wp2
    go_ret
    exact ⟨rfl, Below.refl _ _⟩
  go_wp2_with fail
  refine (zSize_any a0 a0' n0 c0 n0' c0' s0 z0 _ h0 h0').mono ?_
  rintro e wx ⟨t0, rfl, ht0, hb0, hwx⟩
  obtain rfl := hwx.symm
  go_wp2_with fail
  refine (zSize_any a1 a1' n1 c1 n1' c1' s1 z1 _ h1 h1').mono ?_
  rintro e wx ⟨t1, rfl, ht1, hb1, hwx⟩
  obtain rfl := hwx.symm
  by_cases hbig : (1048576 : Int) < (t0 : Int) + (t1 : Int)
  · go_wp2
    go_ret
    exact ⟨rfl, Below.refl _ _⟩
  have B0 := hb0 (by omega)
  have B1 := hb1 (by omega)
  have hbx : Below w.heap.size w w := Below.refl _ _
  have hbx0 := hbx
  go_wp2_with fail
  refine (zWellFormed_any a0 a0' n0 c0 n0' c0' s0 z0 _ (h0.below hbx (Nat.le_refl _)) (h0'.below hbx (Nat.le_refl _))).mono ?_
  rintro e wx ⟨b0, rfl, hw0, q0, hwx⟩
  replace hbx : Below w.heap.size w wx := by rw [hwx]; exact below_drewN hbx _
  clear hwx
  cases b0
  · go_wp2
    go_ret
    exact ⟨rfl, hbx⟩
  have W0 := hw0.1 rfl
  clear hw0
  go_wp2_with fail
  refine (zWellFormed_any a1 a1' n1 c1 n1' c1' s1 z1 _ (h1.below hbx (Nat.le_refl _)) (h1'.below hbx (Nat.le_refl _))).mono ?_
  rintro e wx ⟨b1, rfl, hw1, q1, hwx⟩
  replace hbx : Below w.heap.size w wx := by rw [hwx]; exact below_drewN hbx _
  clear hwx
  cases b1
  · go_wp2
    go_ret
    exact ⟨rfl, hbx⟩
  have W1 := hw1.1 rfl
  clear hw1
  have E0 := W0.1
  rw [h0.len, h0'.len] at E0
  have E1 := W1.1
  rw [h1.len, h1'.len] at E1
  subst E0 E1
  clear hbig hbx0 ht0 hb0 ht1 hb1
  go_upto_if 42 with fail
  go_cut [0] (fun v wc => ∃ a c, v = .slice a n0 c ∧ Strs wc a n0 c s0 ∧ Below w.heap.size w wc)
  case first =>
    go_wp2_with (first | (at_make; refine wpList_make_full _ rfl _ _ 22 rfl wx.heap.size 9 i9 _ 1 Try.underlying22 hi9 hz9 hs9 _ _ _ _ n0 rfl rfl rfl rfl (by rw [hy9]; omega) (by unfold maxLen; omega) (Nat.le_refl _) ?_; intro w1 hown hgrow; have hb1 := (Below.refl wx.heap.size wx).grown hgrow (Nat.le_refl _) (fun k h => by cases h)) | (refine wpList_copy_row rfl (.tmp 46) (.tmp 47) 22 rfl 9 Try.underlying22 Try.one9 wx.heap.size n0 c0 a0 rfl rfl wx.heap.size _ hown (strV s0) (by rw [strV_len, h0.len]) ((h0.below (hbx.trans (hb1.mono hbx.size)) (Nat.le_refl _)).row) (strV_one _) wx.heap.size wx hb1 (Nat.le_refl _) ?_; intro w2 hr hb2))
    · go_meet
      case rel => exact ⟨_, _, rfl, h0.copied hr, hbx.trans (hb2.mono hbx.size)⟩
    · go_meet
      case rel => exact ⟨a0, c0, rfl, h0.below hbx (Nat.le_refl _), hbx⟩
  case' rest =>
    clear hbx 
    obtain ⟨d0, e0, rfl, k0, hbx⟩ := hcut
  go_upto_if 51 with fail
  go_cut [1] (fun v wc => ∃ a c, v = .slice a n0 c ∧ Ints wc a n0 c z0 ∧ Strs wc d0 n0 e0 s0 ∧ Below w.heap.size w wc)
  case first =>
    go_wp2_with (first | (at_make; refine wpList_make_full _ rfl _ _ 23 rfl wc.heap.size 34 i34 _ 1 Try.underlying23 hi34 hz34 hs34 _ _ _ _ n0 rfl rfl rfl rfl (by rw [hy34]; omega) (by unfold maxLen; omega) (Nat.le_refl _) ?_; intro w1 hown hgrow; have hb1 := (Below.refl wc.heap.size wc).grown hgrow (Nat.le_refl _) (fun k h => by cases h)) | (refine wpList_copy_row rfl (.tmp 55) (.tmp 56) 23 rfl 34 Try.underlying23 Try.one34 wc.heap.size n0 c0' a0' rfl rfl wc.heap.size _ hown (intV z0) (by rw [intV_len, h0'.len]) ((h0'.below (hbx.trans (hb1.mono hbx.size)) (Nat.le_refl _)).row) (intV_one _) wc.heap.size wc hb1 (Nat.le_refl _) ?_; intro w2 hr hb2))
    · go_meet
      case rel => exact ⟨_, _, rfl, h0'.copied hr, k0.below hb2 (Nat.le_refl _), hbx.trans (hb2.mono hbx.size)⟩
    · go_meet
      case rel => exact ⟨a0', c0', rfl, h0'.below hbx (Nat.le_refl _), k0, hbx⟩
  case' rest =>
    clear hbx k0
    obtain ⟨d1, e1, rfl, k1, k0, hbx⟩ := hcut
  go_upto_if 60 with fail
  go_cut [2] (fun v wc => ∃ a c, v = .slice a n1 c ∧ Strs wc a n1 c s1 ∧ Strs wc d0 n0 e0 s0 ∧ Ints wc d1 n0 e1 z0 ∧ Below w.heap.size w wc)
  case first =>
    go_wp2_with (first | (at_make; refine wpList_make_full _ rfl _ _ 22 rfl wc.heap.size 9 i9 _ 1 Try.underlying22 hi9 hz9 hs9 _ _ _ _ n1 rfl rfl rfl rfl (by rw [hy9]; omega) (by unfold maxLen; omega) (Nat.le_refl _) ?_; intro w1 hown hgrow; have hb1 := (Below.refl wc.heap.size wc).grown hgrow (Nat.le_refl _) (fun k h => by cases h)) | (refine wpList_copy_row rfl (.tmp 64) (.tmp 65) 22 rfl 9 Try.underlying22 Try.one9 wc.heap.size n1 c1 a1 rfl rfl wc.heap.size _ hown (strV s1) (by rw [strV_len, h1.len]) ((h1.below (hbx.trans (hb1.mono hbx.size)) (Nat.le_refl _)).row) (strV_one _) wc.heap.size wc hb1 (Nat.le_refl _) ?_; intro w2 hr hb2))
    · go_meet
      case rel => exact ⟨_, _, rfl, h1.copied hr, k0.below hb2 (Nat.le_refl _), k1.below hb2 (Nat.le_refl _), hbx.trans (hb2.mono hbx.size)⟩
    · go_meet
      case rel => exact ⟨a1, c1, rfl, h1.below hbx (Nat.le_refl _), k0, k1, hbx⟩
  case' rest =>
    clear hbx k0 k1
    obtain ⟨d2, e2, rfl, k2, k0, k1, hbx⟩ := hcut
  go_upto_if 69 with fail
  go_cut [3] (fun v wc => ∃ a c, v = .slice a n1 c ∧ Ints wc a n1 c z1 ∧ Strs wc d0 n0 e0 s0 ∧ Ints wc d1 n0 e1 z0 ∧ Strs wc d2 n1 e2 s1 ∧ Below w.heap.size w wc)
  case first =>
    go_wp2_with (first | (at_make; refine wpList_make_full _ rfl _ _ 23 rfl wc.heap.size 34 i34 _ 1 Try.underlying23 hi34 hz34 hs34 _ _ _ _ n1 rfl rfl rfl rfl (by rw [hy34]; omega) (by unfold maxLen; omega) (Nat.le_refl _) ?_; intro w1 hown hgrow; have hb1 := (Below.refl wc.heap.size wc).grown hgrow (Nat.le_refl _) (fun k h => by cases h)) | (refine wpList_copy_row rfl (.tmp 73) (.tmp 74) 23 rfl 34 Try.underlying23 Try.one34 wc.heap.size n1 c1' a1' rfl rfl wc.heap.size _ hown (intV z1) (by rw [intV_len, h1'.len]) ((h1'.below (hbx.trans (hb1.mono hbx.size)) (Nat.le_refl _)).row) (intV_one _) wc.heap.size wc hb1 (Nat.le_refl _) ?_; intro w2 hr hb2))
    · go_meet
      case rel => exact ⟨_, _, rfl, h1'.copied hr, k0.below hb2 (Nat.le_refl _), k1.below hb2 (Nat.le_refl _), k2.below hb2 (Nat.le_refl _), hbx.trans (hb2.mono hbx.size)⟩
    · go_meet
      case rel => exact ⟨a1', c1', rfl, h1'.below hbx (Nat.le_refl _), k0, k1, k2, hbx⟩
  case' rest =>
    clear hbx k0 k1 k2
    obtain ⟨d3, e3, rfl, k3, k0, k1, k2, hbx⟩ := hcut
  clear hi9 hz9 hs9 hy9 hi34 hz34 hs34 hy34 q22 q23
  have M0 := k0.len
  have M1 := k2.len
  have Sx := W0.srt
  have Sy := W1.srt
  have Px := W0.pos k1.each
  have Py := W1.pos k3.each
  have P0 := vec_len W0.1
  have P1 := vec_len W1.1
  have Q0 := k1.len
  have Q1 := k3.len
  have hc0 : Pl.hi ((vec s0 z0).take 0) (vec s1 z1) = false := rfl
  have hc1 : Pl.hi ((vec s1 z1).take 0) (vec s0 z0) = false := rfl
  have HC0 : Hid _ := hc0
  have HC1 : Hid _ := hc1
  clear hc0 hc1
  go_wp2_with fail
  go_loopw [13, 14] (fun t i wr => ∃ k : Nat, k ≤ n0 ∧ i = .int .i64 k ∧ t = .int .u8 (Pl.cf (Pl.hi ((vec s0 z0).take k) (vec s1 z1)) false) ∧ Below wc.heap.size wc wr) (fun _ i _ => n0 - (intOf i).toNat)
  case atStart => exact ⟨0, by omega, rfl, by rw [HC0.out]; rfl, Below.refl _ _⟩
  case round =>
    obtain ⟨k, hk, rfl, rfl, hbr⟩ := hrel
    have A0 := k0.below hbr (Nat.le_refl _)
    have A1 := k1.below hbr (Nat.le_refl _)
    have A2 := k2.below hbr (Nat.le_refl _)
    have A3 := k3.below hbr (Nat.le_refl _)
    by_cases hlt : k < n0
    · obtain ⟨bu, ou, rfl, hlu, hcu⟩ := A0.at (by omega)
      obtain ⟨bv, ov, rfl, hlv, hcv⟩ := A1.at (by omega)
      have hcell := hcu k (by omega)
      have hcell' := hcv k (by omega)
      have hi1 : (k : Int) < (n0 : Int) := by omega
      clear hcu hcv A0 A1 k0 k1 k2 k3
      go_wp2
      go_quiet ((go_at_call 19; exact Calls.quiet_of_same (zFind_any d2 d3 n1 e2 n1 e3 s1 z1 _ _ (by exact A2.drewN _) (by exact A3.drewN _) rfl W1.srtS)))
      go_wp2
      · have ht : Pl.get (vec s1 z1) (s0[k]'(by omega)) < z0[k]'(by omega) := by assumption
        go_roundw
        case rel => exact ⟨k + 1, by omega, by go_num, by rw [hi_yes (by omega) (by omega) ht]; exact congrArg (Value.int .u8) (Pl.cf_or1 _ _), below_drewN hbr _⟩
        case measure => simp [intOf]; omega
      · have ht : z0[k]'(by omega) ≤ Pl.get (vec s1 z1) (s0[k]'(by omega)) := by assumption
        go_roundw
        case rel => exact ⟨k + 1, by omega, by go_num, by rw [hi_no (by omega) (by omega) ht], below_drewN hbr _⟩
        case measure => simp [intOf]; omega
    · obtain ⟨H, hH⟩ : ∃ H, H = Pl.hi ((vec s0 z0).take k) (vec s1 z1) := ⟨_, rfl⟩
      rw [← hH]
      have HH : Hid (H = Pl.hi (vec s0 z0) (vec s1 z1)) := by
        unfold Hid
        rw [hH, List.take_of_length_le (by omega)]
      clear hH A0 A1 A2 A3
      go_wp2_with fail
      go_loopw [13, 15] (fun t i wx => ∃ k : Nat, k ≤ n1 ∧ i = .int .i64 k ∧ t = .int .u8 (Pl.cf H (Pl.hi ((vec s1 z1).take k) (vec s0 z0))) ∧ Below wc.heap.size wc wx) (fun _ i _ => n1 - (intOf i).toNat)
      case atStart => exact ⟨0, by omega, rfl, by rw [HC1.out], hbr⟩
      case round =>
        obtain ⟨j, hj, rfl, rfl, hbx2⟩ := hrel
        have A0 := k0.below hbx2 (Nat.le_refl _)
        have A1 := k1.below hbx2 (Nat.le_refl _)
        have A2 := k2.below hbx2 (Nat.le_refl _)
        have A3 := k3.below hbx2 (Nat.le_refl _)
        by_cases hlj : j < n1
        · obtain ⟨bu, ou, rfl, hlu, hcu⟩ := A2.at (by omega)
          obtain ⟨bv, ov, rfl, hlv, hcv⟩ := A3.at (by omega)
          have hcell := hcu j (by omega)
          have hcell' := hcv j (by omega)
          have hi1 : (j : Int) < (n1 : Int) := by omega
          clear hcu hcv A2 A3 k0 k1 k2 k3
          go_wp2
          go_quiet ((go_at_call 19; exact Calls.quiet_of_same (zFind_any d0 d1 n0 e0 n0 e1 s0 z0 _ _ (by exact A0.drewN _) (by exact A1.drewN _) rfl W0.srtS)))
          go_wp2
          · have ht : Pl.get (vec s0 z0) (s1[j]'(by omega)) < z1[j]'(by omega) := by assumption
            go_roundw
            case rel => exact ⟨j + 1, by omega, by go_num, by rw [hi_yes (by omega) (by omega) ht]; exact congrArg (Value.int .u8) (Pl.cf_or2 _ _), below_drewN hbx2 _⟩
            case measure => simp [intOf]; omega
          · have ht : z1[j]'(by omega) ≤ Pl.get (vec s0 z0) (s1[j]'(by omega)) := by assumption
            go_roundw
            case rel => exact ⟨j + 1, by omega, by go_num, by rw [hi_no (by omega) (by omega) ht], below_drewN hbx2 _⟩
            case measure => simp [intOf]; omega
        · obtain ⟨G, hG⟩ : ∃ G, G = Pl.cf H (Pl.hi ((vec s1 z1).take j) (vec s0 z0)) := ⟨_, rfl⟩
          rw [← hG]
          have HG : Hid (G = Pl.wk 0 (Pl.prs (vec s0 z0) (vec s1 z1)) 0) := by
            unfold Hid
            rw [hG, HH.out, List.take_of_length_le (by omega), Pl.wk_full Sx Sy Px Py]
          clear hG
          go_wp2_with fail
          refine (zzVector_any d0 d1 n0 e0 n0 e1 s0 z0 _ A0 A1 rfl (by omega)).mono ?_
          rintro e w1 ⟨g0, rfl, G0, hg0, hB1⟩
          go_wp2_with fail
          refine (zzVector_any d2 d3 n1 e2 n1 e3 s1 z1 w1 (A2.below hB1 (Nat.le_refl _)) (A3.below hB1 (Nat.le_refl _)) rfl (by omega)).mono ?_
          rintro e w2 ⟨g1, rfl, G1, hg1, hB2⟩
          go_wp2_with fail
          refine (zzStand_any g0 0 n0 n0 g1 0 n1 n1 _ _ 0 w2 (G0.below hB2 (Nat.le_refl _)) G1 Px Py Pl.byt0).mono ?_
          rintro e w3 ⟨rfl, hB3⟩
          have hb1 := hbx2.trans (hB1.mono hbx2.size)
          have hb2 := hb1.trans (hB2.mono hb1.size)
          have hb3 := hb2.trans (hB3.mono hb2.size)
          rw [← HG.out]
          clear hB1 hB2 hB3
          go_wp2
          go_ret
          exact ⟨by simp, hbx.trans (hb3.mono hbx.size)⟩

end Go.Proofs.Qxb6600413a
