/-
  THE WALK OF 'FnStandFollowsOrderedWalk': the law returns true and writes nothing that was there. (Its prelude, the guards and the copies, is written by a small program of our own.)
-/
import Derived.Test.Qxb6600413aW3
import Derived.Test.Qxb6600413aW4
import Derived.Test.Qxb6600413aW2
import Derived.Test.Qxb6600413aW8
import Derived.Test.Qxb6600413aZz
import Derived.Test.Qxb6600413aMid
import Derived.Test.Qxb6600413aW9
import Derived.Deep.DeepCutAuto
import Derived.Deep.RegionWith
namespace Go.Proofs.Qxb6600413a
open Go.RowKit

theorem mlen6 {w : World} {g m c A B : Nat} {x y : List Pl.Ent} (h : Ents w g 0 m c (Pl.mrg x y)) (hx : x.length ≤ A) (hy : y.length ≤ B) : m ≤ A + B := by
  have h1 := h.len
  have h2 := mrg_len x y
  omega

set_option maxRecDepth 100000 in
set_option maxHeartbeats 4000000 in
theorem law6 (a0 a0' : Option Addr) (n0 c0 n0' c0' : Nat) (s0 : List ByteArray) (z0 : List Int) (a1 a1' : Option Addr) (n1 c1 n1' c1' : Nat) (s1 : List ByteArray) (z1 : List Int) (stop : Int) (bstop : Pl.Byt stop) (w : World) (h0 : Strs w a0 n0 c0 s0) (h0' : Ints w a0' n0' c0' z0) (h1 : Strs w a1 n1 c1 s1) (h1' : Ints w a1' n1' c1' z1) :
    Calls Try.prog 6 #[.slice a0 n0 c0, .slice a0' n0' c0', .slice a1 n1 c1, .slice a1' n1' c1', .int .u8 stop] w fun e w' => e = .returned (.bool true) ∧ Below w.heap.size w w' := by
  have q22 := fun (w : World) (a : Option Addr) (n c n' c' : Nat) => run_neq_slice_nil_any (P := Try.prog) w 22 9 a n c n' c' Try.underlying22
  have q23 := fun (w : World) (a : Option Addr) (n c n' c' : Nat) => run_neq_slice_nil_any (P := Try.prog) w 23 34 a n c n' c' Try.underlying23
  obtain ⟨i9, hi9, hz9, hs9, hy9⟩ := info_parts Try.info9
  obtain ⟨i34, hi34, hz34, hs34, hy34⟩ := info_parts Try.info34
  go_enter Try.func6, Try.ntmps6
  go_wp2_with fail
  refine (zzBytes24 a0 a0' n0 c0 n0' c0' s0 z0 a1 a1' n1 c1 n1' c1' s1 z1 stop w h0 h0' h1 h1').mono ?_
  rintro e wx ⟨rfl | rfl, hwx⟩ <;> obtain rfl := hwx.symm
  case inr =>
    go_wp2
    go_ret
    exact ⟨rfl, Below.refl _ _⟩
  go_wp2_with fail
  refine (zSize_any a0 a0' n0 c0 n0' c0' s0 z0 _ h0 h0').mono ?_
  rintro e wx ⟨t0, rfl, ht0, hb0, hwx⟩
  obtain rfl := hwx.symm
  go_wp2_with fail
  refine (zSize_any a1 a1' n1 c1 n1' c1' s1 z1 _ h1 h1').mono ?_
  rintro e wx ⟨t1, rfl, ht1, hb1, hwx⟩
  obtain rfl := hwx.symm
  by_cases hbig : (1048576 : Int) < (t0 : Int) + (t1 : Int)
  · go_wp2
    go_ret
    exact ⟨rfl, Below.refl _ _⟩
  have B0 := hb0 (by omega)
  have B1 := hb1 (by omega)
  have hbx : Below w.heap.size w w := Below.refl _ _
  have hbx0 := hbx
  go_wp2_with fail
  refine (zWellFormed_any a0 a0' n0 c0 n0' c0' s0 z0 _ (h0.below hbx (Nat.le_refl _)) (h0'.below hbx (Nat.le_refl _))).mono ?_
  rintro e wx ⟨b0, rfl, hw0, q0, hwx⟩
  replace hbx : Below w.heap.size w wx := by rw [hwx]; exact below_drewN hbx _
  clear hwx
  cases b0
  · go_wp2
    go_ret
    exact ⟨rfl, hbx⟩
  have W0 := hw0.1 rfl
  clear hw0
  go_wp2_with fail
  refine (zWellFormed_any a1 a1' n1 c1 n1' c1' s1 z1 _ (h1.below hbx (Nat.le_refl _)) (h1'.below hbx (Nat.le_refl _))).mono ?_
  rintro e wx ⟨b1, rfl, hw1, q1, hwx⟩
  replace hbx : Below w.heap.size w wx := by rw [hwx]; exact below_drewN hbx _
  clear hwx
  cases b1
  · go_wp2
    go_ret
    exact ⟨rfl, hbx⟩
  have W1 := hw1.1 rfl
  clear hw1
  have E0 := W0.1
  rw [h0.len, h0'.len] at E0
  have E1 := W1.1
  rw [h1.len, h1'.len] at E1
  subst E0 E1
  clear hbig hbx0 ht0 hb0 ht1 hb1
  go_upto_if 44 with fail
  go_cut [0] (fun v wc => ∃ a c, v = .slice a n0 c ∧ Strs wc a n0 c s0 ∧ Below w.heap.size w wc)
  case first =>
    go_wp2_with (first | (at_make; refine wpList_make_full _ rfl _ _ 22 rfl wx.heap.size 9 i9 _ 1 Try.underlying22 hi9 hz9 hs9 _ _ _ _ n0 rfl rfl rfl rfl (by rw [hy9]; omega) (by unfold maxLen; omega) (Nat.le_refl _) ?_; intro w1 hown hgrow; have hb1 := (Below.refl wx.heap.size wx).grown hgrow (Nat.le_refl _) (fun k h => by cases h)) | (refine wpList_copy_row rfl (.tmp 48) (.tmp 49) 22 rfl 9 Try.underlying22 Try.one9 wx.heap.size n0 c0 a0 rfl rfl wx.heap.size _ hown (strV s0) (by rw [strV_len, h0.len]) ((h0.below (hbx.trans (hb1.mono hbx.size)) (Nat.le_refl _)).row) (strV_one _) wx.heap.size wx hb1 (Nat.le_refl _) ?_; intro w2 hr hb2))
    · go_meet
      case rel => exact ⟨_, _, rfl, h0.copied hr, hbx.trans (hb2.mono hbx.size)⟩
    · go_meet
      case rel => exact ⟨a0, c0, rfl, h0.below hbx (Nat.le_refl _), hbx⟩
  case' rest =>
    clear hbx 
    obtain ⟨d0, e0, rfl, k0, hbx⟩ := hcut
  go_upto_if 53 with fail
  go_cut [1] (fun v wc => ∃ a c, v = .slice a n0 c ∧ Ints wc a n0 c z0 ∧ Strs wc d0 n0 e0 s0 ∧ Below w.heap.size w wc)
  case first =>
    go_wp2_with (first | (at_make; refine wpList_make_full _ rfl _ _ 23 rfl wc.heap.size 34 i34 _ 1 Try.underlying23 hi34 hz34 hs34 _ _ _ _ n0 rfl rfl rfl rfl (by rw [hy34]; omega) (by unfold maxLen; omega) (Nat.le_refl _) ?_; intro w1 hown hgrow; have hb1 := (Below.refl wc.heap.size wc).grown hgrow (Nat.le_refl _) (fun k h => by cases h)) | (refine wpList_copy_row rfl (.tmp 57) (.tmp 58) 23 rfl 34 Try.underlying23 Try.one34 wc.heap.size n0 c0' a0' rfl rfl wc.heap.size _ hown (intV z0) (by rw [intV_len, h0'.len]) ((h0'.below (hbx.trans (hb1.mono hbx.size)) (Nat.le_refl _)).row) (intV_one _) wc.heap.size wc hb1 (Nat.le_refl _) ?_; intro w2 hr hb2))
    · go_meet
      case rel => exact ⟨_, _, rfl, h0'.copied hr, k0.below hb2 (Nat.le_refl _), hbx.trans (hb2.mono hbx.size)⟩
    · go_meet
      case rel => exact ⟨a0', c0', rfl, h0'.below hbx (Nat.le_refl _), k0, hbx⟩
  case' rest =>
    clear hbx k0
    obtain ⟨d1, e1, rfl, k1, k0, hbx⟩ := hcut
  go_upto_if 62 with fail
  go_cut [2] (fun v wc => ∃ a c, v = .slice a n1 c ∧ Strs wc a n1 c s1 ∧ Strs wc d0 n0 e0 s0 ∧ Ints wc d1 n0 e1 z0 ∧ Below w.heap.size w wc)
  case first =>
    go_wp2_with (first | (at_make; refine wpList_make_full _ rfl _ _ 22 rfl wc.heap.size 9 i9 _ 1 Try.underlying22 hi9 hz9 hs9 _ _ _ _ n1 rfl rfl rfl rfl (by rw [hy9]; omega) (by unfold maxLen; omega) (Nat.le_refl _) ?_; intro w1 hown hgrow; have hb1 := (Below.refl wc.heap.size wc).grown hgrow (Nat.le_refl _) (fun k h => by cases h)) | (refine wpList_copy_row rfl (.tmp 66) (.tmp 67) 22 rfl 9 Try.underlying22 Try.one9 wc.heap.size n1 c1 a1 rfl rfl wc.heap.size _ hown (strV s1) (by rw [strV_len, h1.len]) ((h1.below (hbx.trans (hb1.mono hbx.size)) (Nat.le_refl _)).row) (strV_one _) wc.heap.size wc hb1 (Nat.le_refl _) ?_; intro w2 hr hb2))
    · go_meet
      case rel => exact ⟨_, _, rfl, h1.copied hr, k0.below hb2 (Nat.le_refl _), k1.below hb2 (Nat.le_refl _), hbx.trans (hb2.mono hbx.size)⟩
    · go_meet
      case rel => exact ⟨a1, c1, rfl, h1.below hbx (Nat.le_refl _), k0, k1, hbx⟩
  case' rest =>
    clear hbx k0 k1
    obtain ⟨d2, e2, rfl, k2, k0, k1, hbx⟩ := hcut
  go_upto_if 71 with fail
  go_cut [3] (fun v wc => ∃ a c, v = .slice a n1 c ∧ Ints wc a n1 c z1 ∧ Strs wc d0 n0 e0 s0 ∧ Ints wc d1 n0 e1 z0 ∧ Strs wc d2 n1 e2 s1 ∧ Below w.heap.size w wc)
  case first =>
    go_wp2_with (first | (at_make; refine wpList_make_full _ rfl _ _ 23 rfl wc.heap.size 34 i34 _ 1 Try.underlying23 hi34 hz34 hs34 _ _ _ _ n1 rfl rfl rfl rfl (by rw [hy34]; omega) (by unfold maxLen; omega) (Nat.le_refl _) ?_; intro w1 hown hgrow; have hb1 := (Below.refl wc.heap.size wc).grown hgrow (Nat.le_refl _) (fun k h => by cases h)) | (refine wpList_copy_row rfl (.tmp 75) (.tmp 76) 23 rfl 34 Try.underlying23 Try.one34 wc.heap.size n1 c1' a1' rfl rfl wc.heap.size _ hown (intV z1) (by rw [intV_len, h1'.len]) ((h1'.below (hbx.trans (hb1.mono hbx.size)) (Nat.le_refl _)).row) (intV_one _) wc.heap.size wc hb1 (Nat.le_refl _) ?_; intro w2 hr hb2))
    · go_meet
      case rel => exact ⟨_, _, rfl, h1'.copied hr, k0.below hb2 (Nat.le_refl _), k1.below hb2 (Nat.le_refl _), k2.below hb2 (Nat.le_refl _), hbx.trans (hb2.mono hbx.size)⟩
    · go_meet
      case rel => exact ⟨a1', c1', rfl, h1'.below hbx (Nat.le_refl _), k0, k1, k2, hbx⟩
  case' rest =>
    clear hbx k0 k1 k2
    obtain ⟨d3, e3, rfl, k3, k0, k1, k2, hbx⟩ := hcut
  clear hi9 hz9 hs9 hy9 hi34 hz34 hs34 hy34 q22 q23
  have M0 := k0.len
  have M1 := k2.len
  have Sx := W0.srt
  have Sy := W1.srt
  have Px := W0.pos k1.each
  have Py := W1.pos k3.each
  have L0 := vec_len W0.1
  have L1 := vec_len W1.1
  rw [M0] at L0
  rw [M1] at L1
  go_wp2_with fail
  refine (zzVector_any d0 d1 n0 e0 n0 e1 s0 z0 wc k0 k1 rfl (by omega)).mono ?_
  rintro e w1 ⟨g0, rfl, G0, hg0, hB1⟩
  go_wp2_with fail
  have hb1 : Below wc.heap.size wc (w1.alloc (.cells #[.slice (some ⟨g0, 0, none⟩) n0 n0] 29)) := hB1.alloc hB1.size _
  refine (zzVector_any d2 d3 n1 e2 n1 e3 s1 z1 _ ?_ ?_ rfl (by omega)).mono ?_
  · exact k2.below hb1 (Nat.le_refl _)
  · exact k3.below hb1 (Nat.le_refl _)
  rintro e w2 ⟨g1, rfl, G1, hg1, hB2⟩
  have t12 : Below w1.heap.size w1 w2 := ((Below.refl _ _).alloc (Nat.le_refl _) _).trans (hB2.mono (by simp))
  have sz12 : w1.heap.size < w2.heap.size := by have := hB2.size; simp at this; omega
  have cl0 : w2.cell? ⟨w1.heap.size, 0, none⟩ = some (.slice (some ⟨g0, 0, none⟩) n0 n0) := (hB2.cell (by simp)).trans (by simp)
  have A0 := G0.below t12 (Nat.le_refl _)
  have hb2 : Below wc.heap.size wc w2 := hb1.trans (hB2.mono hb1.size)
  clear hg0 hg1 hB1 hB2 G0 hb1 t12
  go_wp2_with fail
  have t2 : Below w2.heap.size w2 (w2.alloc (.cells #[.slice (some ⟨g1, 0, none⟩) n1 n1] 29)) := (Below.refl _ _).alloc (Nat.le_refl _) _
  refine (merge_any g0 0 n0 n0 g1 0 n1 n1 (vec s0 z0) (vec s1 z1) _ ?_ ?_ (by omega)).mono ?_
  · exact A0.below t2 (Nat.le_refl _)
  · exact G1.below t2 (Nat.le_refl _)
  rintro e w3 ⟨g2, m, c2, rfl, G2, hg2, hB3⟩
  have hm := mlen6 G2 (Nat.le_of_eq L0) (Nat.le_of_eq L1)
  go_wp2_with fail
  refine (zzVectorIDs_any g2 0 m c2 (Pl.mrg (vec s0 z0) (vec s1 z1)) _ G2 (by omega)).mono ?_
  rintro e w4 ⟨u1, rfl, U1, hB4⟩
  have t23 : Below w2.heap.size w2 w3 := t2.trans (hB3.mono t2.size)
  have t24 : Below w2.heap.size w2 w4 := t23.trans (hB4.mono t23.size)
  have cl1 : w4.cell? ⟨w2.heap.size, 0, none⟩ = some (.slice (some ⟨g1, 0, none⟩) n1 n1) := (hB4.cell (by have := hB3.size; simp at this; show w2.heap.size < w3.heap.size; omega)).trans ((hB3.cell (by simp)).trans (by simp))
  have cl0' : w4.cell? ⟨w1.heap.size, 0, none⟩ = some (.slice (some ⟨g0, 0, none⟩) n0 n0) := (t24.cell (by exact sz12)).trans cl0
  have B0 := A0.below t24 (Nat.le_refl _)
  have B1 := G1.below t24 (Nat.le_refl _)
  have hb4 : Below wc.heap.size wc w4 := hb2.trans (t24.mono hb2.size)
  clear hB3 hb2 hB4 A0 G1 G2 hg2 t2 t23 t24 cl0
  go_wp2_with fail
  refine (zzStand_any g0 0 n0 n0 g1 0 n1 n1 _ _ stop w4 B0 B1 Px Py bstop).mono ?_
  rintro e w5 ⟨rfl, hB5⟩
  have hb5 : Below wc.heap.size wc w5 := hb4.trans (hB5.mono hb4.size)
  go_wp2_with fail
  refine (zWalk_any u1 d0 d1 d2 d3 m m n0 e0 e1 n1 e2 e3 _ s0 s1 z0 z1 0 stop w5 (U1.below hB5 (Nat.le_refl _)) (k0.below hb5 (Nat.le_refl _)) (k1.below hb5 (Nat.le_refl _)) (k2.below hb5 (Nat.le_refl _)) (k3.below hb5 (Nat.le_refl _)) W0.srtS W1.srtS).mono ?_
  rintro e w6 ⟨rfl, hw6⟩
  obtain rfl := hw6.symm
  rw [lk_mrg Sx Sy]
  go_wp2
  go_ret
  exact ⟨by simp, hbx.trans (hb5.mono hbx.size)⟩

end Go.Proofs.Qxb6600413a
