/-
  stand, ZZStand, ZZStandRest.
-/
import Derived.Test.Qxb6600413aW7
import Derived.Test.Qxb6600413aW3
import Derived.Deep.DeepCutAuto
namespace Go.Proofs.Qxb6600413a
open Go.RowKit

theorem Ents.drop {w : World} {b off n c : Nat} {es : List Pl.Ent} (h : Ents w b off n c es) (p : Nat) (hp : p ≤ n) : Ents w b (off + p * 2) (n - p) (c - p) (es.drop p) := by
  have h1 := h.len
  have h2 := h.lec
  have h3 := h.max
  refine ⟨by simp; omega, by omega, by omega, h.lt, fun i v hi => ?_, fun e he => h.each e (List.mem_of_mem_drop he)⟩
  rw [entV_drop, List.getElem?_drop] at hi
  rw [Nat.add_assoc]
  exact h.cell _ _ hi

theorem beq_le {a b : Int} (h : (a == b) = true) : a ≤ b := by simp at h; omega
theorem beq_ge {a b : Int} (h : (a == b) = true) : b ≤ a := by simp at h; omega
theorem beq_lt {a b : Int} (h : (a == b) = false) (h2 : b ≤ a) : b < a := by simp at h; omega
theorem stand_lev {stop g T a b : Int} {l r : List (Int × Int)} (R : Hid (Pl.wk stop l g = T)) (P : Hid (l = (a, b) :: r)) (h : (a == b) = true) (h4 : (bits .and .u8 stop 4 != 0) = true) (bg : Hid (Pl.Byt g)) (bs : Hid (Pl.Byt stop)) : bits .or .u8 g 4 = T :=
  wk_ret R P (wk_lev (beq_le h) (beq_ge h) h4) (Pl.stl_level bg.out bs.out h4)
theorem Ents.drewN' {w : World} {b off n c : Nat} {es : List Pl.Ent} (h : Ents w b off n c es) (q : Nat) : Ents (w.drewN q) b off n c es := h.below (below_bytes rfl) (Nat.le_refl _)

set_option maxRecDepth 100000 in
set_option maxHeartbeats 4000000 in
theorem stand_any (b1 o1 n1 c1 b2 o2 n2 c2 : Nat) (x y : List Pl.Ent) (stop : Int) (w : World) (hx : Ents w b1 o1 n1 c1 x) (hy : Ents w b2 o2 n2 c2 y) (px : Pl.Pos x) (py : Pl.Pos y) (bs : Pl.Byt stop) :
    Calls Try.prog 34 #[.agg #[.slice (some ⟨b1, o1, none⟩) n1 c1], .agg #[.slice (some ⟨b2, o2, none⟩) n2 c2], .int .u8 stop] w fun e w' =>
      e = .returned (.int .u8 (Pl.wk stop (Pl.prs x y) 0)) ∧ Below w.heap.size w w' := by
  have l1 := hx.len
  have l2 := hy.len
  have m1 := hx.lec
  have m2 := hx.max
  have m3 := hy.lec
  have m4 := hy.max
  unfold maxLen at m2 m4
  have BS : Hid _ := bs
  clear bs
  obtain ⟨N, hN1, hN2, hN3⟩ : ∃ N : Nat, N ≤ n1 ∧ N ≤ n2 ∧ (n1 ≤ N ∨ n2 ≤ N) := ⟨min n1 n2, by omega, by omega, by omega⟩
  go_enter Try.func34, Try.ntmps34
  go_wp2
  go_quiet (fail)
  go_upto_region 2 with fail
  obtain ⟨W, hW⟩ : ∃ W, W = (((w.alloc (.cells #[.slice (some ⟨b1, o1, none⟩) n1 c1] 29)).alloc (.cells #[.slice (some ⟨b2, o2, none⟩) n2 c2] 29)).drewN nq) := ⟨_, rfl⟩
  have HWb : Below w.heap.size w W := by
    rw [hW]
    exact below_drewN (((Below.refl _ _).alloc (Nat.le_refl _) _).alloc (by simp) _) _
  rw [← hW]
  clear hW
  have hxW := hx.below HWb (Nat.le_refl _)
  have hyW := hy.below HWb (Nat.le_refl _)
  clear hx hy
  go_cut [9] (fun v wc => v = .int .i64 N ∧ wc = W)
  case first =>
    go_wp2
    all_goals
      go_meet
      case rel => exact ⟨by first | (have h : N = n1 := by omega
                                     rw [h]) | (have h : N = n2 := by omega
                                                rw [h]), rfl⟩
  case rest =>
    obtain ⟨rfl, hwc⟩ := hcut
    subst hwc
    have hN1' : (N : Int) ≤ n1 := by omega
    have hN2' : (N : Int) ≤ n2 := by omega
    have hc1' : (N : Int) ≤ c1 := by omega
    have hc2' : (N : Int) ≤ c2 := by omega
    go_upto_region 3 with fail
    go_quiet (fail)
    go_wp2_with fail
    clear hN1' hN2' hc1' hc2'
    go_loopw [12, 13] (fun f i wr => ∃ (p : Nat) (g : Int), p ≤ N ∧ f = .int .u8 g ∧ i = .int .i64 p ∧ Hid (Pl.Byt g) ∧ Hid (Pl.wk stop (Pl.prs (x.drop p) (y.drop p)) g = Pl.wk stop (Pl.prs x y) 0) ∧ Below wc.heap.size wc wr)
      (fun _ i _ => N - (intOf i).toNat)
    case atStart => exact ⟨0, 0, by omega, rfl, rfl, Pl.byt0, rfl, below_drewN (Below.refl _ _) _⟩
    case round =>
      obtain ⟨p, g, hp, rfl, rfl, bg, R, hbr⟩ := hrel
      have ex := hxW.below hbr (Nat.le_refl _)
      have ey := hyW.below hbr (Nat.le_refl _)
      by_cases hlt : p < N
      · obtain ⟨k1, k2⟩ := ex.at p (by omega)
        obtain ⟨k3, k4⟩ := ey.at p (by omega)
        have hi1 : (p : Int) < (N : Int) := by omega
        by_cases he : ((x[p]'(by omega)).1.toList == (y[p]'(by omega)).1.toList) = true
        · have HP : Hid _ := prs_eqv (by omega) (by omega) he
          go_wp2
          go_quiet (fail)
          go_wp2_with fail
          go_quiet (fail)
          go_wp2_with (go_at_call 37; refine (settled_any _ _ _).mono ?_; rintro e wx ⟨rfl, hwx⟩; obtain rfl := hwx.symm)
          · have h2 : ((x[p]'(by omega)).2 == (y[p]'(by omega)).2) = true := by assumption
            have h4 : (bits BinOp.and IntKind.u8 stop 4 != 0) = true := by assumption
            go_ret
            exact ⟨ret_int (stand_lev R HP h2 h4 bg BS), HWb.trans (below_drewN (hbr.mono HWb.size) _)⟩
          · have h2 : ((x[p]'(by omega)).2 == (y[p]'(by omega)).2) = true := by assumption
            have h4 : (bits BinOp.and IntKind.u8 stop 4 != 0) = false := by assumption
            go_roundw
            case rel => exact ⟨p + 1, g, by omega, rfl, by go_num, bg, wk_skip R HP (beq_le h2) (beq_ge h2) h4, below_drewN hbr _⟩
            case measure => simp [intOf]; omega
          · have hlt' : (x[p]'(by omega)).2 < (y[p]'(by omega)).2 := by assumption
            have hst : Pl.stl (bits BinOp.or IntKind.u8 g 2) stop = true := by assumption
            go_ret
            exact ⟨ret_int (wk_ret R HP (wk_step2 hlt') hst), HWb.trans (below_drewN (hbr.mono HWb.size) _)⟩
          · have hlt' : (x[p]'(by omega)).2 < (y[p]'(by omega)).2 := by assumption
            have hst : Pl.stl (bits BinOp.or IntKind.u8 g 2) stop = false := by assumption
            go_roundw
            case rel => exact ⟨p + 1, _, by omega, rfl, by go_num, byt_or bg Pl.byt2, wk_on R HP (wk_step2 hlt') hst, below_drewN hbr _⟩
            case measure => simp [intOf]; omega
          · have h2 : ((x[p]'(by omega)).2 == (y[p]'(by omega)).2) = false := by assumption
            have h3 : (y[p]'(by omega)).2 ≤ (x[p]'(by omega)).2 := by assumption
            have hst : Pl.stl (bits BinOp.or IntKind.u8 g 1) stop = true := by assumption
            go_ret
            exact ⟨ret_int (wk_ret R HP (wk_step1 (beq_lt h2 h3)) hst), HWb.trans (below_drewN (hbr.mono HWb.size) _)⟩
          · have h2 : ((x[p]'(by omega)).2 == (y[p]'(by omega)).2) = false := by assumption
            have h3 : (y[p]'(by omega)).2 ≤ (x[p]'(by omega)).2 := by assumption
            have hst : Pl.stl (bits BinOp.or IntKind.u8 g 1) stop = false := by assumption
            go_roundw
            case rel => exact ⟨p + 1, _, by omega, rfl, by go_num, byt_or bg Pl.byt1, wk_on R HP (wk_step1 (beq_lt h2 h3)) hst, below_drewN hbr _⟩
            case measure => simp [intOf]; omega
        · have he' : ((x[p]'(by omega)).1.toList == (y[p]'(by omega)).1.toList) = false := by simpa using he
          clear he
          go_wp2
          go_quiet (fail)
          go_upto_region 20 with fail
          obtain ⟨wq, hwq⟩ : ∃ wq, wq = wr.drewN nq := ⟨_, rfl⟩
          have hbq : Below wc.heap.size wc wq := by rw [hwq]; exact below_drewN hbr _
          rw [← hwq]
          have dx := (hxW.below hbq (Nat.le_refl _)).drop p (by omega)
          have dy := (hyW.below hbq (Nat.le_refl _)).drop p (by omega)
          have hp1 : (p : Int) ≤ n1 := by omega
          have hp2 : (p : Int) ≤ n2 := by omega
          have hp3 : (n1 : Int) ≤ c1 := by omega
          have hp4 : (n2 : Int) ≤ c2 := by omega
          have hp5 : ¬ c1 = p := by omega
          have hp6 : ¬ c2 = p := by omega
          clear hwq k1 k2 k3 k4 ex ey hxW hyW hbr
          go_quiet ((go_at_call 36; exact Calls.quiet_of (standRest_any b1 (o1 + p * 2) (n1 - p) (c1 - p) b2 (o2 + p * 2) (n2 - p) (c2 - p) (x.drop p) (y.drop p) g stop _ (by exact dx.drewN' _) (by exact dy.drewN' _) (pos_drop px p) (pos_drop py p) bg.out)))
          go_wp2
          go_ret
          exact ⟨ret_int R.out, HWb.trans (below_drewN (hbq.mono HWb.size) _)⟩
      · have hpN : p = N := by omega
        subst hpN
        clear ex ey
        go_wp2
        · go_ret
          exact ⟨ret_int (wk_endL R bg px (by omega) (by omega)), HWb.trans (hbr.mono HWb.size)⟩
        · go_ret
          exact ⟨ret_int (wk_endR R bg py (by omega) (by omega)), HWb.trans (hbr.mono HWb.size)⟩
        · go_ret
          exact ⟨ret_int (wk_endN R (by omega) (by omega)), HWb.trans (hbr.mono HWb.size)⟩

theorem zzStand_any (b1 o1 n1 c1 b2 o2 n2 c2 : Nat) (x y : List Pl.Ent) (stop : Int) (w : World) (hx : Ents w b1 o1 n1 c1 x) (hy : Ents w b2 o2 n2 c2 y) (px : Pl.Pos x) (py : Pl.Pos y) (bs : Pl.Byt stop) :
    Calls Try.prog 23 #[.agg #[.slice (some ⟨b1, o1, none⟩) n1 c1], .agg #[.slice (some ⟨b2, o2, none⟩) n2 c2], .int .u8 stop] w fun e w' =>
      e = .returned (.int .u8 (Pl.wk stop (Pl.prs x y) 0)) ∧ Below w.heap.size w w' := by
  go_enter Try.func23, Try.ntmps23
  go_wp2_with fail
  have hb : Below w.heap.size w ((w.alloc (.cells #[.slice (some ⟨b1, o1, none⟩) n1 c1] 29)).alloc (.cells #[.slice (some ⟨b2, o2, none⟩) n2 c2] 29)) := ((Below.refl _ _).alloc (Nat.le_refl _) _).alloc (by simp) _
  refine (stand_any b1 o1 n1 c1 b2 o2 n2 c2 x y stop _ ?_ ?_ px py bs).mono ?_
  · exact hx.below hb (Nat.le_refl _)
  · exact hy.below hb (Nat.le_refl _)
  rintro e w1 ⟨rfl, hb1⟩
  go_wp2
  go_ret
  exact ⟨rfl, hb.trans (hb1.mono hb.size)⟩

theorem zzStandRest_any (a0 a0' a1 a1' : Option Addr) (n0 c0 c0' n1 c1 c1' : Nat) (s0 s1 : List ByteArray) (z0 z1 : List Int) (found stop : Int) (w : World) (h0 : Strs w a0 n0 c0 s0) (h0' : Ints w a0' n0 c0' z0) (h1 : Strs w a1 n1 c1 s1) (h1' : Ints w a1' n1 c1' z1)
    (p0 : Pl.Pos (vec s0 z0)) (p1 : Pl.Pos (vec s1 z1)) (bf : Pl.Byt found) (H0 : n0 ≤ 1048576) (H1 : n1 ≤ 1048576) :
    Calls Try.prog 30 #[.slice a0 n0 c0, .slice a0' n0 c0', .slice a1 n1 c1, .slice a1' n1 c1', .int .u8 found, .int .u8 stop] w fun e w' =>
      e = .returned (.int .u8 (Pl.wk stop (Pl.prs (vec s0 z0) (vec s1 z1)) found)) ∧ Below w.heap.size w w' := by
  go_enter Try.func30, Try.ntmps30
  go_wp2_with fail
  refine (zzEntries_any a0 a0' n0 c0 n0 c0' s0 z0 _ h0 h0' rfl H0).mono ?_
  rintro e w1 ⟨g0, rfl, G0, hg0, hb1⟩
  go_wp2_with fail
  refine (zzEntries_any a1 a1' n1 c1 n1 c1' s1 z1 _ (h1.below hb1 (Nat.le_refl _)) (h1'.below hb1 (Nat.le_refl _)) rfl H1).mono ?_
  rintro e w2 ⟨g1, rfl, G1, hg1, hb2⟩
  go_wp2_with fail
  refine (standRest_any g0 0 n0 n0 g1 0 n1 n1 _ _ found stop _ (G0.below hb2 (Nat.le_refl _)) G1 p0 p1 bf).mono ?_
  rintro e w3 ⟨rfl, q, hw3⟩
  have hb3 : Below w.heap.size w w3 := by rw [hw3]; exact below_drewN (hb1.trans (hb2.mono hb1.size)) _
  clear hw3
  go_wp2
  go_ret
  exact ⟨rfl, hb3⟩

end Go.Proofs.Qxb6600413a
