/-
  THE WALK OF 'FnMergeIsSemilattice': the law returns true and writes nothing that was there. (Its prelude, the guards and the copies, is written by a small program of our own.)
-/
import Derived.Test.Qxb6600413aW3
import Derived.Test.Qxb6600413aW4
import Derived.Test.Qxb6600413aW6
import Derived.Test.Qxb6600413aZz
import Derived.Test.Qxb6600413aMid
import Derived.Deep.DeepCutAuto
import Derived.Deep.RegionWith
import Derived.Deep.RegionHeld3
namespace Go.Proofs.Qxb6600413a
open Go.RowKit

theorem mlen {w : World} {g m c A B : Nat} {x y : List Pl.Ent} (h : Ents w g 0 m c (Pl.mrg x y)) (hx : x.length ≤ A) (hy : y.length ≤ B) : m ≤ A + B := by
  have h1 := h.len
  have h2 := mrg_len x y
  omega
theorem keep4 {V X Y : World} {p q r s : Addr} {v1 v2 v3 v4 : Value} (c1 : V.cell? p = some v1) (c2 : V.cell? q = some v2) (c3 : V.cell? r = some v3) (c4 : V.cell? s = some v4) (hb : Below V.heap.size V X) (hY : Below X.heap.size X Y) :
    Y.cell? p = some v1 ∧ Y.cell? q = some v2 ∧ Y.cell? r = some v3 ∧ Y.cell? s = some v4 ∧ Below V.heap.size V Y := by
  have h : Below V.heap.size V Y := hb.trans (hY.mono hb.size)
  exact ⟨(h.cell (World.block_lt_of_cell? V _ c1)).trans c1, (h.cell (World.block_lt_of_cell? V _ c2)).trans c2, (h.cell (World.block_lt_of_cell? V _ c3)).trans c3, (h.cell (World.block_lt_of_cell? V _ c4)).trans c4, h⟩
theorem keep4D {V X : World} {p q r s : Addr} {v1 v2 v3 v4 : Value} (c1 : V.cell? p = some v1) (c2 : V.cell? q = some v2) (c3 : V.cell? r = some v3) (c4 : V.cell? s = some v4) (hb : Below V.heap.size V X) :
    X.drew.cell? p = some v1 ∧ X.drew.cell? q = some v2 ∧ X.drew.cell? r = some v3 ∧ X.drew.cell? s = some v4 ∧ Below V.heap.size V X.drew :=
  keep4 c1 c2 c3 c4 hb (Below.refl _ _).drew

set_option maxRecDepth 100000 in
set_option maxHeartbeats 4000000 in
theorem law4 (a0 a0' : Option Addr) (n0 c0 n0' c0' : Nat) (s0 : List ByteArray) (z0 : List Int) (a1 a1' : Option Addr) (n1 c1 n1' c1' : Nat) (s1 : List ByteArray) (z1 : List Int) (a2 a2' : Option Addr) (n2 c2 n2' c2' : Nat) (s2 : List ByteArray) (z2 : List Int) (w : World) (h0 : Strs w a0 n0 c0 s0) (h0' : Ints w a0' n0' c0' z0) (h1 : Strs w a1 n1 c1 s1) (h1' : Ints w a1' n1' c1' z1) (h2 : Strs w a2 n2 c2 s2) (h2' : Ints w a2' n2' c2' z2) :
    Calls Try.prog 4 #[.slice a0 n0 c0, .slice a0' n0' c0', .slice a1 n1 c1, .slice a1' n1' c1', .slice a2 n2 c2, .slice a2' n2' c2'] w fun e w' => e = .returned (.bool true) ∧ Below w.heap.size w w' := by
  have q22 := fun (w : World) (a : Option Addr) (n c n' c' : Nat) => run_neq_slice_nil_any (P := Try.prog) w 22 9 a n c n' c' Try.underlying22
  have q23 := fun (w : World) (a : Option Addr) (n c n' c' : Nat) => run_neq_slice_nil_any (P := Try.prog) w 23 34 a n c n' c' Try.underlying23
  obtain ⟨i9, hi9, hz9, hs9, hy9⟩ := info_parts Try.info9
  obtain ⟨i34, hi34, hz34, hs34, hy34⟩ := info_parts Try.info34
  go_enter Try.func4, Try.ntmps4
  go_wp2_with fail
  refine (zzBytes20 a0 a0' n0 c0 n0' c0' s0 z0 a1 a1' n1 c1 n1' c1' s1 z1 a2 a2' n2 c2 n2' c2' s2 z2 w h0 h0' h1 h1' h2 h2').mono ?_
  rintro e wx ⟨rfl | rfl, hwx⟩ <;> obtain rfl := hwx.symm
  case inr =>
    go_wp2
    go_ret
    exact ⟨rfl, Below.refl _ _⟩
  go_wp2_with fail
  refine (zSize_any a0 a0' n0 c0 n0' c0' s0 z0 _ h0 h0').mono ?_
  rintro e wx ⟨t0, rfl, ht0, hb0, hwx⟩
  obtain rfl := hwx.symm
  go_wp2_with fail
  refine (zSize_any a1 a1' n1 c1 n1' c1' s1 z1 _ h1 h1').mono ?_
  rintro e wx ⟨t1, rfl, ht1, hb1, hwx⟩
  obtain rfl := hwx.symm
  go_wp2_with fail
  refine (zSize_any a2 a2' n2 c2 n2' c2' s2 z2 _ h2 h2').mono ?_
  rintro e wx ⟨t2, rfl, ht2, hb2, hwx⟩
  obtain rfl := hwx.symm
  by_cases hbig : (1048576 : Int) < (t0 : Int) + (t1 : Int) + (t2 : Int)
  · go_wp2
    go_ret
    exact ⟨rfl, Below.refl _ _⟩
  have B0 := hb0 (by omega)
  have B1 := hb1 (by omega)
  have B2 := hb2 (by omega)
  have hbx : Below w.heap.size w w := Below.refl _ _
  have hbx0 := hbx
  go_wp2_with fail
  refine (zWellFormed_any a0 a0' n0 c0 n0' c0' s0 z0 _ (h0.below hbx (Nat.le_refl _)) (h0'.below hbx (Nat.le_refl _))).mono ?_
  rintro e wx ⟨b0, rfl, hw0, q0, hwx⟩
  replace hbx : Below w.heap.size w wx := by rw [hwx]; exact below_drewN hbx _
  clear hwx
  cases b0
  · go_wp2
    go_ret
    exact ⟨rfl, hbx⟩
  have W0 := hw0.1 rfl
  clear hw0
  go_wp2_with fail
  refine (zWellFormed_any a1 a1' n1 c1 n1' c1' s1 z1 _ (h1.below hbx (Nat.le_refl _)) (h1'.below hbx (Nat.le_refl _))).mono ?_
  rintro e wx ⟨b1, rfl, hw1, q1, hwx⟩
  replace hbx : Below w.heap.size w wx := by rw [hwx]; exact below_drewN hbx _
  clear hwx
  cases b1
  · go_wp2
    go_ret
    exact ⟨rfl, hbx⟩
  have W1 := hw1.1 rfl
  clear hw1
  go_wp2_with fail
  refine (zWellFormed_any a2 a2' n2 c2 n2' c2' s2 z2 _ (h2.below hbx (Nat.le_refl _)) (h2'.below hbx (Nat.le_refl _))).mono ?_
  rintro e wx ⟨b2, rfl, hw2, q2, hwx⟩
  replace hbx : Below w.heap.size w wx := by rw [hwx]; exact below_drewN hbx _
  clear hwx
  cases b2
  · go_wp2
    go_ret
    exact ⟨rfl, hbx⟩
  have W2 := hw2.1 rfl
  clear hw2
  have E0 := W0.1
  rw [h0.len, h0'.len] at E0
  have E1 := W1.1
  rw [h1.len, h1'.len] at E1
  have E2 := W2.1
  rw [h2.len, h2'.len] at E2
  subst E0 E1 E2
  clear hbig hbx0 ht0 hb0 ht1 hb1 ht2 hb2
  go_upto_if 60 with fail
  go_cut [0] (fun v wc => ∃ a c, v = .slice a n0 c ∧ Strs wc a n0 c s0 ∧ Below w.heap.size w wc)
  case first =>
    go_wp2_with (first | (at_make; refine wpList_make_full _ rfl _ _ 22 rfl wx.heap.size 9 i9 _ 1 Try.underlying22 hi9 hz9 hs9 _ _ _ _ n0 rfl rfl rfl rfl (by rw [hy9]; omega) (by unfold maxLen; omega) (Nat.le_refl _) ?_; intro w1 hown hgrow; have hb1 := (Below.refl wx.heap.size wx).grown hgrow (Nat.le_refl _) (fun k h => by cases h)) | (refine wpList_copy_row rfl (.tmp 64) (.tmp 65) 22 rfl 9 Try.underlying22 Try.one9 wx.heap.size n0 c0 a0 rfl rfl wx.heap.size _ hown (strV s0) (by rw [strV_len, h0.len]) ((h0.below (hbx.trans (hb1.mono hbx.size)) (Nat.le_refl _)).row) (strV_one _) wx.heap.size wx hb1 (Nat.le_refl _) ?_; intro w2 hr hb2))
    · go_meet
      case rel => exact ⟨_, _, rfl, h0.copied hr, hbx.trans (hb2.mono hbx.size)⟩
    · go_meet
      case rel => exact ⟨a0, c0, rfl, h0.below hbx (Nat.le_refl _), hbx⟩
  case' rest =>
    clear hbx 
    obtain ⟨d0, e0, rfl, k0, hbx⟩ := hcut
  go_upto_if 69 with fail
  go_cut [1] (fun v wc => ∃ a c, v = .slice a n0 c ∧ Ints wc a n0 c z0 ∧ Strs wc d0 n0 e0 s0 ∧ Below w.heap.size w wc)
  case first =>
    go_wp2_with (first | (at_make; refine wpList_make_full _ rfl _ _ 23 rfl wc.heap.size 34 i34 _ 1 Try.underlying23 hi34 hz34 hs34 _ _ _ _ n0 rfl rfl rfl rfl (by rw [hy34]; omega) (by unfold maxLen; omega) (Nat.le_refl _) ?_; intro w1 hown hgrow; have hb1 := (Below.refl wc.heap.size wc).grown hgrow (Nat.le_refl _) (fun k h => by cases h)) | (refine wpList_copy_row rfl (.tmp 73) (.tmp 74) 23 rfl 34 Try.underlying23 Try.one34 wc.heap.size n0 c0' a0' rfl rfl wc.heap.size _ hown (intV z0) (by rw [intV_len, h0'.len]) ((h0'.below (hbx.trans (hb1.mono hbx.size)) (Nat.le_refl _)).row) (intV_one _) wc.heap.size wc hb1 (Nat.le_refl _) ?_; intro w2 hr hb2))
    · go_meet
      case rel => exact ⟨_, _, rfl, h0'.copied hr, k0.below hb2 (Nat.le_refl _), hbx.trans (hb2.mono hbx.size)⟩
    · go_meet
      case rel => exact ⟨a0', c0', rfl, h0'.below hbx (Nat.le_refl _), k0, hbx⟩
  case' rest =>
    clear hbx k0
    obtain ⟨d1, e1, rfl, k1, k0, hbx⟩ := hcut
  go_upto_if 78 with fail
  go_cut [2] (fun v wc => ∃ a c, v = .slice a n1 c ∧ Strs wc a n1 c s1 ∧ Strs wc d0 n0 e0 s0 ∧ Ints wc d1 n0 e1 z0 ∧ Below w.heap.size w wc)
  case first =>
    go_wp2_with (first | (at_make; refine wpList_make_full _ rfl _ _ 22 rfl wc.heap.size 9 i9 _ 1 Try.underlying22 hi9 hz9 hs9 _ _ _ _ n1 rfl rfl rfl rfl (by rw [hy9]; omega) (by unfold maxLen; omega) (Nat.le_refl _) ?_; intro w1 hown hgrow; have hb1 := (Below.refl wc.heap.size wc).grown hgrow (Nat.le_refl _) (fun k h => by cases h)) | (refine wpList_copy_row rfl (.tmp 82) (.tmp 83) 22 rfl 9 Try.underlying22 Try.one9 wc.heap.size n1 c1 a1 rfl rfl wc.heap.size _ hown (strV s1) (by rw [strV_len, h1.len]) ((h1.below (hbx.trans (hb1.mono hbx.size)) (Nat.le_refl _)).row) (strV_one _) wc.heap.size wc hb1 (Nat.le_refl _) ?_; intro w2 hr hb2))
    · go_meet
      case rel => exact ⟨_, _, rfl, h1.copied hr, k0.below hb2 (Nat.le_refl _), k1.below hb2 (Nat.le_refl _), hbx.trans (hb2.mono hbx.size)⟩
    · go_meet
      case rel => exact ⟨a1, c1, rfl, h1.below hbx (Nat.le_refl _), k0, k1, hbx⟩
  case' rest =>
    clear hbx k0 k1
    obtain ⟨d2, e2, rfl, k2, k0, k1, hbx⟩ := hcut
  go_upto_if 87 with fail
  go_cut [3] (fun v wc => ∃ a c, v = .slice a n1 c ∧ Ints wc a n1 c z1 ∧ Strs wc d0 n0 e0 s0 ∧ Ints wc d1 n0 e1 z0 ∧ Strs wc d2 n1 e2 s1 ∧ Below w.heap.size w wc)
  case first =>
    go_wp2_with (first | (at_make; refine wpList_make_full _ rfl _ _ 23 rfl wc.heap.size 34 i34 _ 1 Try.underlying23 hi34 hz34 hs34 _ _ _ _ n1 rfl rfl rfl rfl (by rw [hy34]; omega) (by unfold maxLen; omega) (Nat.le_refl _) ?_; intro w1 hown hgrow; have hb1 := (Below.refl wc.heap.size wc).grown hgrow (Nat.le_refl _) (fun k h => by cases h)) | (refine wpList_copy_row rfl (.tmp 91) (.tmp 92) 23 rfl 34 Try.underlying23 Try.one34 wc.heap.size n1 c1' a1' rfl rfl wc.heap.size _ hown (intV z1) (by rw [intV_len, h1'.len]) ((h1'.below (hbx.trans (hb1.mono hbx.size)) (Nat.le_refl _)).row) (intV_one _) wc.heap.size wc hb1 (Nat.le_refl _) ?_; intro w2 hr hb2))
    · go_meet
      case rel => exact ⟨_, _, rfl, h1'.copied hr, k0.below hb2 (Nat.le_refl _), k1.below hb2 (Nat.le_refl _), k2.below hb2 (Nat.le_refl _), hbx.trans (hb2.mono hbx.size)⟩
    · go_meet
      case rel => exact ⟨a1', c1', rfl, h1'.below hbx (Nat.le_refl _), k0, k1, k2, hbx⟩
  case' rest =>
    clear hbx k0 k1 k2
    obtain ⟨d3, e3, rfl, k3, k0, k1, k2, hbx⟩ := hcut
  go_upto_if 96 with fail
  go_cut [4] (fun v wc => ∃ a c, v = .slice a n2 c ∧ Strs wc a n2 c s2 ∧ Strs wc d0 n0 e0 s0 ∧ Ints wc d1 n0 e1 z0 ∧ Strs wc d2 n1 e2 s1 ∧ Ints wc d3 n1 e3 z1 ∧ Below w.heap.size w wc)
  case first =>
    go_wp2_with (first | (at_make; refine wpList_make_full _ rfl _ _ 22 rfl wc.heap.size 9 i9 _ 1 Try.underlying22 hi9 hz9 hs9 _ _ _ _ n2 rfl rfl rfl rfl (by rw [hy9]; omega) (by unfold maxLen; omega) (Nat.le_refl _) ?_; intro w1 hown hgrow; have hb1 := (Below.refl wc.heap.size wc).grown hgrow (Nat.le_refl _) (fun k h => by cases h)) | (refine wpList_copy_row rfl (.tmp 100) (.tmp 101) 22 rfl 9 Try.underlying22 Try.one9 wc.heap.size n2 c2 a2 rfl rfl wc.heap.size _ hown (strV s2) (by rw [strV_len, h2.len]) ((h2.below (hbx.trans (hb1.mono hbx.size)) (Nat.le_refl _)).row) (strV_one _) wc.heap.size wc hb1 (Nat.le_refl _) ?_; intro w2 hr hb2))
    · go_meet
      case rel => exact ⟨_, _, rfl, h2.copied hr, k0.below hb2 (Nat.le_refl _), k1.below hb2 (Nat.le_refl _), k2.below hb2 (Nat.le_refl _), k3.below hb2 (Nat.le_refl _), hbx.trans (hb2.mono hbx.size)⟩
    · go_meet
      case rel => exact ⟨a2, c2, rfl, h2.below hbx (Nat.le_refl _), k0, k1, k2, k3, hbx⟩
  case' rest =>
    clear hbx k0 k1 k2 k3
    obtain ⟨d4, e4, rfl, k4, k0, k1, k2, k3, hbx⟩ := hcut
  go_upto_if 105 with fail
  go_cut [5] (fun v wc => ∃ a c, v = .slice a n2 c ∧ Ints wc a n2 c z2 ∧ Strs wc d0 n0 e0 s0 ∧ Ints wc d1 n0 e1 z0 ∧ Strs wc d2 n1 e2 s1 ∧ Ints wc d3 n1 e3 z1 ∧ Strs wc d4 n2 e4 s2 ∧ Below w.heap.size w wc)
  case first =>
    go_wp2_with (first | (at_make; refine wpList_make_full _ rfl _ _ 23 rfl wc.heap.size 34 i34 _ 1 Try.underlying23 hi34 hz34 hs34 _ _ _ _ n2 rfl rfl rfl rfl (by rw [hy34]; omega) (by unfold maxLen; omega) (Nat.le_refl _) ?_; intro w1 hown hgrow; have hb1 := (Below.refl wc.heap.size wc).grown hgrow (Nat.le_refl _) (fun k h => by cases h)) | (refine wpList_copy_row rfl (.tmp 109) (.tmp 110) 23 rfl 34 Try.underlying23 Try.one34 wc.heap.size n2 c2' a2' rfl rfl wc.heap.size _ hown (intV z2) (by rw [intV_len, h2'.len]) ((h2'.below (hbx.trans (hb1.mono hbx.size)) (Nat.le_refl _)).row) (intV_one _) wc.heap.size wc hb1 (Nat.le_refl _) ?_; intro w2 hr hb2))
    · go_meet
      case rel => exact ⟨_, _, rfl, h2'.copied hr, k0.below hb2 (Nat.le_refl _), k1.below hb2 (Nat.le_refl _), k2.below hb2 (Nat.le_refl _), k3.below hb2 (Nat.le_refl _), k4.below hb2 (Nat.le_refl _), hbx.trans (hb2.mono hbx.size)⟩
    · go_meet
      case rel => exact ⟨a2', c2', rfl, h2'.below hbx (Nat.le_refl _), k0, k1, k2, k3, k4, hbx⟩
  case' rest =>
    clear hbx k0 k1 k2 k3 k4
    obtain ⟨d5, e5, rfl, k5, k0, k1, k2, k3, k4, hbx⟩ := hcut
  clear hi9 hz9 hs9 hy9 hi34 hz34 hs34 hy34 q22 q23
  have M0 := k0.len
  have M1 := k2.len
  have M2 := k4.len
  have Sx := W0.srt
  have Sy := W1.srt
  have Sz := W2.srt
  have Px := W0.pos k1.each
  have Py := W1.pos k3.each
  have Pz := W2.pos k5.each
  have Lx := vec_len W0.1
  have Ly := vec_len W1.1
  have Lz := vec_len W2.1
  rw [M0] at Lx
  rw [M1] at Ly
  rw [M2] at Lz
  go_wp2_with fail
  refine (zzVector_any d0 d1 n0 e0 n0 e1 s0 z0 wc k0 k1 rfl (by omega)).mono ?_
  rintro e w1 ⟨g0, rfl, G0, hg0, hB1⟩
  go_wp2_with fail
  have hb1 : Below wc.heap.size wc (w1.alloc (.cells #[.slice (some ⟨g0, 0, none⟩) n0 n0] 29)) := hB1.alloc hB1.size _
  refine (zzVector_any d2 d3 n1 e2 n1 e3 s1 z1 _ ?_ ?_ rfl (by omega)).mono ?_
  · exact k2.below hb1 (Nat.le_refl _)
  · exact k3.below hb1 (Nat.le_refl _)
  rintro e w2 ⟨g1, rfl, G1, hg1, hB2⟩
  go_wp2_with fail
  have hb2 : Below wc.heap.size wc (w2.alloc (.cells #[.slice (some ⟨g1, 0, none⟩) n1 n1] 29)) := (hb1.trans (hB2.mono hb1.size)).alloc (Nat.le_trans hb1.size hB2.size) _
  refine (zzVector_any d4 d5 n2 e4 n2 e5 s2 z2 _ ?_ ?_ rfl (by omega)).mono ?_
  · exact k4.below hb2 (Nat.le_refl _)
  · exact k5.below hb2 (Nat.le_refl _)
  rintro e w3 ⟨g2, rfl, G2, hg2, hB3⟩
  obtain ⟨x, ex⟩ : ∃ x, x = vec s0 z0 := ⟨_, rfl⟩
  obtain ⟨y, ey⟩ : ∃ y, y = vec s1 z1 := ⟨_, rfl⟩
  obtain ⟨z, ez⟩ : ∃ z, z = vec s2 z2 := ⟨_, rfl⟩
  rw [← ex] at Sx Px Lx G0
  rw [← ey] at Sy Py Ly G1
  rw [← ez] at Sz Pz Lz G2
  have sz1 := hB2.size
  have sz2 := hB3.size
  simp at sz1 sz2
  -- each step from w1 on, as one
  have t12 : Below w1.heap.size w1 w2 := ((Below.refl _ _).alloc (Nat.le_refl _) _).trans (hB2.mono (by simp))
  have t23 : Below w2.heap.size w2 w3 := ((Below.refl _ _).alloc (Nat.le_refl _) _).trans (hB3.mono (by simp))
  have cl0 : w3.cell? ⟨w1.heap.size, 0, none⟩ = some (.slice (some ⟨g0, 0, none⟩) n0 n0) := (t23.cell (by show w1.heap.size < w2.heap.size; omega)).trans ((hB2.cell (by simp)).trans (by simp))
  have cl1 : w3.cell? ⟨w2.heap.size, 0, none⟩ = some (.slice (some ⟨g1, 0, none⟩) n1 n1) := (hB3.cell (by simp)).trans (by simp)
  have A0 := (G0.below t12 (Nat.le_refl _)).below t23 (Nat.le_refl _)
  have A1 := G1.below t23 (Nat.le_refl _)
  have hb3 : Below wc.heap.size wc w3 := hb2.trans (hB3.mono hb2.size)
  have hs3 := hb3.size
  clear hb1 hb2 hB1 hB2 hB3 t12 t23 G0 G1 hg0 hg1 hg2 ex ey ez k0 k1 k2 k3 k4 k5 W0 W1 W2
  obtain ⟨p0, hp0⟩ : ∃ p, p = w1.heap.size := ⟨_, rfl⟩
  obtain ⟨p1, hp1⟩ : ∃ p, p = w2.heap.size := ⟨_, rfl⟩
  rw [← hp0] at cl0 ⊢
  rw [← hp1] at cl1 ⊢
  clear hp0 hp1 sz1 sz2
  have lt0 := World.block_lt_of_cell? _ _ cl0
  have lt1 := World.block_lt_of_cell? _ _ cl1
  simp only at lt0 lt1
  go_wp2_with fail
  have t3 : Below w3.heap.size w3 (w3.alloc (.cells #[.slice (some ⟨g2, 0, none⟩) n2 n2] 29)) := (Below.refl _ _).alloc (Nat.le_refl _) _
  refine (merge_any g0 0 n0 n0 g1 0 n1 n1 x y _ ?_ ?_ (by omega)).mono ?_
  · exact A0.below t3 (Nat.le_refl _)
  · exact A1.below t3 (Nat.le_refl _)
  rintro e w4 ⟨g3, m3, c3, rfl, G3, hg3, hB4⟩
  have hm3 := mlen G3 (Nat.le_of_eq Lx) (Nat.le_of_eq Ly)
  go_upto_region 35 with fail
  have t34 : Below w3.heap.size w3 w4 := t3.trans (hB4.mono t3.size)
  obtain ⟨V, hV⟩ : ∃ V, V = w4.alloc (.cells #[.slice (some ⟨g3, 0, none⟩) m3 c3] 29) := ⟨_, rfl⟩
  have t4 : Below w4.heap.size w4 V := by rw [hV]; exact (Below.refl _ _).alloc (Nat.le_refl _) _
  have t3V : Below w3.heap.size w3 V := t34.trans (t4.mono t34.size)
  have C0 : V.cell? ⟨p0, 0, none⟩ = _ := (t3V.cell (by exact lt0)).trans cl0
  have C1 : V.cell? ⟨p1, 0, none⟩ = _ := (t3V.cell (by exact lt1)).trans cl1
  have C2 : V.cell? ⟨w3.heap.size, 0, none⟩ = some (.slice (some ⟨g2, 0, none⟩) n2 n2) := (t4.cell (by have := hB4.size; simp at this; show w3.heap.size < _; omega)).trans ((hB4.cell (by simp)).trans (by simp))
  have C3 : V.cell? ⟨w4.heap.size, 0, none⟩ = some (.slice (some ⟨g3, 0, none⟩) m3 c3) := by rw [hV]; simp
  have F0 := A0.below t3V (Nat.le_refl _)
  have F1 := A1.below t3V (Nat.le_refl _)
  have F2 := G2.below t3V (Nat.le_refl _)
  have F3 := G3.below t4 (Nat.le_refl _)
  have hbV : Below wc.heap.size wc V := hb3.trans (t3V.mono hs3)
  rw [← hV]
  obtain ⟨p2, hp2⟩ : ∃ p, p = w3.heap.size := ⟨_, rfl⟩
  obtain ⟨p3, hp3⟩ : ∃ p, p = w4.heap.size := ⟨_, rfl⟩
  rw [← hp2] at C2 ⊢
  rw [← hp3] at C3 ⊢
  have hbw : Below w.heap.size w V := hbx.trans (hbV.mono hbx.size)
  have bV : Below V.heap.size V V := Below.refl _ _
  clear hp2 hp3 hV hB4 A0 A1 G2 G3 t3 t34 t4 t3V cl0 cl1 lt0 lt1 hb3 hs3 hbx h0 h0' h1 h1' h2 h2' hg3 hbV
  -- commutative
  have LX := Nat.le_of_eq Lx
  have LY := Nat.le_of_eq Ly
  have LZ := Nat.le_of_eq Lz
  have LM : (Pl.mrg x y).length ≤ n0 + n1 := by have := mrg_len x y; omega
  go_region_held3 (fun w' => w'.cell? ⟨p0, 0, none⟩ = some (.slice (some ⟨g0, 0, none⟩) n0 n0) ∧ w'.cell? ⟨p1, 0, none⟩ = some (.slice (some ⟨g1, 0, none⟩) n1 n1) ∧ w'.cell? ⟨p2, 0, none⟩ = some (.slice (some ⟨g2, 0, none⟩) n2 n2) ∧ w'.cell? ⟨p3, 0, none⟩ = some (.slice (some ⟨g3, 0, none⟩) m3 c3) ∧ Below V.heap.size V w')
    (first | exact keep4D C0 C1 C2 C3 (by assumption) | go_keep | (go_split_ands; first | exact keep4 C0 C1 C2 C3 (by assumption) Ba | exact keep4 C0 C1 C2 C3 (by assumption) Bb))
    (first | (go_at_call 15; go_split_ands; refine (merge_any g1 0 n1 n1 g0 0 n0 n0 y x _ (by exact F1.below (by assumption) (Nat.le_refl _)) (by exact F0.below (by assumption) (Nat.le_refl _)) (by omega)).mono ?_; rintro e wa ⟨ga, ma, ca, rfl, Ea, hga, Ba⟩; have hla := mlen Ea LY LX) | (go_at_call 21; go_split_ands; refine (zSameVector_any g3 0 m3 c3 ga 0 ma ca (Pl.mrg x y) (Pl.mrg y x) _ (by exact F3.below (by assumption) (Nat.le_refl _)) Ea (by omega) (by omega)).mono ?_; rintro e wb ⟨bb, rfl, hbb, Bb⟩; have kbb : Hid (bb = true) := hbb.2 (Pl.mrg_comm Sx Sy Px Py); clear hbb))
  go_split_ands
  obtain rfl := kbb.out
  clear Ea Ba hga hla kbb Bb
  go_upto_region 37 with fail
  -- idempotent
  go_region_held3 (fun w' => w'.cell? ⟨p0, 0, none⟩ = some (.slice (some ⟨g0, 0, none⟩) n0 n0) ∧ w'.cell? ⟨p1, 0, none⟩ = some (.slice (some ⟨g1, 0, none⟩) n1 n1) ∧ w'.cell? ⟨p2, 0, none⟩ = some (.slice (some ⟨g2, 0, none⟩) n2 n2) ∧ w'.cell? ⟨p3, 0, none⟩ = some (.slice (some ⟨g3, 0, none⟩) m3 c3) ∧ Below V.heap.size V w')
    (first | exact keep4D C0 C1 C2 C3 (by assumption) | go_keep | (go_split_ands; first | exact keep4 C0 C1 C2 C3 (by assumption) Bc | exact keep4 C0 C1 C2 C3 (by assumption) Bd))
    (first | (go_at_call 15; go_split_ands; refine (merge_any g0 0 n0 n0 g0 0 n0 n0 x x _ (by exact F0.below (by assumption) (Nat.le_refl _)) (by exact F0.below (by assumption) (Nat.le_refl _)) (by omega)).mono ?_; rintro e wc ⟨gc, mc, cc, rfl, Ec, hgc, Bc⟩; have hlc := mlen Ec LX LX) | (go_at_call 21; go_split_ands; refine (zSameVector_any gc 0 mc cc g0 0 n0 n0 (Pl.mrg x x) x _ Ec (by exact F0.below (by assumption) (Nat.le_refl _)) (by omega) (by omega)).mono ?_; rintro e wd ⟨bd, rfl, hbd, Bd⟩; have kbd : Hid (bd = true) := hbd.2 (Pl.mrg_idem Sx Px); clear hbd))
  go_split_ands
  obtain rfl := kbd.out
  clear Ec Bc hgc hlc kbd Bd
  go_upto_region 39 with fail
  -- absorbing
  go_region_held3 (fun w' => w'.cell? ⟨p0, 0, none⟩ = some (.slice (some ⟨g0, 0, none⟩) n0 n0) ∧ w'.cell? ⟨p1, 0, none⟩ = some (.slice (some ⟨g1, 0, none⟩) n1 n1) ∧ w'.cell? ⟨p2, 0, none⟩ = some (.slice (some ⟨g2, 0, none⟩) n2 n2) ∧ w'.cell? ⟨p3, 0, none⟩ = some (.slice (some ⟨g3, 0, none⟩) m3 c3) ∧ Below V.heap.size V w')
    (first | exact keep4D C0 C1 C2 C3 (by assumption) | go_keep | (go_split_ands; first | exact keep4 C0 C1 C2 C3 (by assumption) Be | exact keep4 C0 C1 C2 C3 (by assumption) Bf))
    (first | (go_at_call 15; go_split_ands; refine (merge_any g3 0 m3 c3 g0 0 n0 n0 (Pl.mrg x y) x _ (by exact F3.below (by assumption) (Nat.le_refl _)) (by exact F0.below (by assumption) (Nat.le_refl _)) (by omega)).mono ?_; rintro e we ⟨ge, me, ce, rfl, Ee, hge, Be⟩; have hle := mlen Ee LM LX) | (go_at_call 21; go_split_ands; refine (zSameVector_any ge 0 me ce g3 0 m3 c3 (Pl.mrg (Pl.mrg x y) x) (Pl.mrg x y) _ Ee (by exact F3.below (by assumption) (Nat.le_refl _)) (by omega) (by omega)).mono ?_; rintro e wf ⟨bf, rfl, hbf, Bf⟩; have kbf : Hid (bf = true) := hbf.2 (Pl.mrg_absorb Sx Sy Px Py); clear hbf))
  go_split_ands
  obtain rfl := kbf.out
  clear Ee Be hge hle kbf Bf
  go_upto_region 41 with fail
  -- associative
  go_region_held3 (fun w' => w'.cell? ⟨p0, 0, none⟩ = some (.slice (some ⟨g0, 0, none⟩) n0 n0) ∧ w'.cell? ⟨p1, 0, none⟩ = some (.slice (some ⟨g1, 0, none⟩) n1 n1) ∧ w'.cell? ⟨p2, 0, none⟩ = some (.slice (some ⟨g2, 0, none⟩) n2 n2) ∧ w'.cell? ⟨p3, 0, none⟩ = some (.slice (some ⟨g3, 0, none⟩) m3 c3) ∧ Below V.heap.size V w')
    (first | exact keep4D C0 C1 C2 C3 (by assumption) | go_keep | (go_split_ands; first | exact keep4 C0 C1 C2 C3 (by assumption) Bg | exact keep4 C0 C1 C2 C3 (by assumption) Bh | exact keep4 C0 C1 C2 C3 (by assumption) Bi | exact keep4 C0 C1 C2 C3 (by assumption) Bj))
    (first | (go_at_call_of 15 g3; go_split_ands; refine (merge_any g3 0 m3 c3 g2 0 n2 n2 (Pl.mrg x y) z _ (by exact F3.below (by assumption) (Nat.le_refl _)) (by exact F2.below (by assumption) (Nat.le_refl _)) (by omega)).mono ?_; rintro e wg ⟨gg, mg, cg, rfl, Eg, hgg, Bg⟩; have hlg := mlen Eg LM LZ) | (go_at_call_of 15 g0; go_split_ands; refine (merge_any g0 0 n0 n0 gh 0 mh ch x (Pl.mrg y z) _ (by exact F0.below (by assumption) (Nat.le_refl _)) Eh (by omega)).mono ?_; rintro e wi ⟨gi, mi, ci, rfl, Ei, hgi, Bi⟩; have hli := mlen Ei LX (by have := mrg_len y z; exact Nat.le_trans this (Nat.add_le_add LY LZ))) | (go_at_call 15; go_split_ands; refine (merge_any g1 0 n1 n1 g2 0 n2 n2 y z _ (by exact F1.below (by assumption) (Nat.le_refl _)) (by exact F2.below (by assumption) (Nat.le_refl _)) (by omega)).mono ?_; rintro e wh ⟨gh, mh, ch, rfl, Eh, hgh, Bh⟩; have hlh := mlen Eh LY LZ) | (go_at_call 21; go_split_ands; refine (zSameVector_any gg 0 mg cg gi 0 mi ci (Pl.mrg (Pl.mrg x y) z) (Pl.mrg x (Pl.mrg y z)) _ (by exact (Eg.below Bh (Nat.le_refl _)).below Bi (Nat.le_refl _)) Ei (by omega) (by omega)).mono ?_; rintro e wj ⟨bj, rfl, hbj, Bj⟩; have kbj : Hid (bj = true) := hbj.2 (Pl.mrg_assoc Sx Sy Sz Px Py Pz); clear hbj))
  go_split_ands
  obtain rfl := kbj.out
  go_wp2
  go_ret
  exact ⟨rfl, hbw.trans (Below.mono (by assumption) hbw.size)⟩

end Go.Proofs.Qxb6600413a
