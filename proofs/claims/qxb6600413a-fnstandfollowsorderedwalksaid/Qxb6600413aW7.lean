/-
  standRest, ZZStandRest; stand, ZZStand.
-/
import Derived.Test.Qxb6600413aW2
namespace Go.Proofs.Qxb6600413a
open Go.RowKit

/-- One step of the walk: a kind is added; where that settles it the answer is had. -/
theorem wk_step1 {stop a b f : Int} {r : List (Int × Int)} (h : b < a) : Pl.wk stop ((a, b) :: r) f = if Pl.stl (Pl.or8 f 1) stop then Pl.or8 f 1 else Pl.wk stop r (Pl.or8 f 1) := by
  rw [Pl.wk, if_pos h]
theorem wk_step2 {stop a b f : Int} {r : List (Int × Int)} (h : a < b) : Pl.wk stop ((a, b) :: r) f = if Pl.stl (Pl.or8 f 2) stop then Pl.or8 f 2 else Pl.wk stop r (Pl.or8 f 2) := by
  rw [Pl.wk, if_neg (by omega), if_pos h]
theorem wk_step4 {stop a f : Int} {r : List (Int × Int)} (h : (Pl.and8 stop 4 != 0) = true) : Pl.wk stop ((a, a) :: r) f = if Pl.stl (Pl.or8 f 4) stop then Pl.or8 f 4 else Pl.wk stop r (Pl.or8 f 4) := by
  rw [Pl.wk, if_neg (by omega), if_neg (by omega), if_pos h]
theorem wk_step0 {stop a f : Int} {r : List (Int × Int)} (h : (Pl.and8 stop 4 != 0) = false) : Pl.wk stop ((a, a) :: r) f = Pl.wk stop r f := by
  rw [Pl.wk, if_neg (by omega), if_neg (by omega), if_neg (by rw [h]; simp)]
theorem prs_eqv {x y : List Pl.Ent} {p q : Nat} (hp : p < x.length) (hq : q < y.length) (h : ((x[p]'hp).1.toList == (y[q]'hq).1.toList) = true) : Pl.prs (x.drop p) (y.drop q) = ((x[p]'hp).2, (y[q]'hq).2) :: Pl.prs (x.drop (p + 1)) (y.drop (q + 1)) := by
  rw [List.drop_eq_getElem_cons hp, List.drop_eq_getElem_cons hq, Pl.prs, if_pos (show Pl.be _ _ = true from h)]
theorem prs_lt {x y : List Pl.Ent} {p q : Nat} (hp : p < x.length) (hq : q < y.length) (h : ((x[p]'hp).1.toList == (y[q]'hq).1.toList) = false) (h2 : Op.bytesLess (x[p]'hp).1.toList (y[q]'hq).1.toList = true) : Pl.prs (x.drop p) (y.drop q) = ((x[p]'hp).2, 0) :: Pl.prs (x.drop (p + 1)) (y.drop q) := by
  rw [List.drop_eq_getElem_cons hp, List.drop_eq_getElem_cons hq, Pl.prs, if_neg (show ¬ Pl.be _ _ = true from by unfold Pl.be; rw [h]; simp), if_pos (show Pl.bl _ _ = true from h2)]
theorem prs_gt {x y : List Pl.Ent} {p q : Nat} (hp : p < x.length) (hq : q < y.length) (h : ((x[p]'hp).1.toList == (y[q]'hq).1.toList) = false) (h2 : Op.bytesLess (x[p]'hp).1.toList (y[q]'hq).1.toList = false) : Pl.prs (x.drop p) (y.drop q) = (0, (y[q]'hq).2) :: Pl.prs (x.drop p) (y.drop (q + 1)) := by
  rw [List.drop_eq_getElem_cons hp, List.drop_eq_getElem_cons hq, Pl.prs, if_neg (show ¬ Pl.be _ _ = true from by unfold Pl.be; rw [h]; simp), if_neg (show ¬ Pl.bl _ _ = true from by unfold Pl.bl; rw [h2]; simp)]
theorem pos_drop {x : List Pl.Ent} (h : Pl.Pos x) (p : Nat) : Pl.Pos (x.drop p) := fun e he => h e (List.mem_of_mem_drop he)

theorem wk_ret {stop g k T : Int} {l r : List (Int × Int)} {ab : Int × Int} (R : Hid (Pl.wk stop l g = T)) (P : Hid (l = ab :: r)) (hs : Pl.wk stop (ab :: r) g = if Pl.stl (Pl.or8 g k) stop then Pl.or8 g k else Pl.wk stop r (Pl.or8 g k)) (h : Pl.stl (bits .or .u8 g k) stop = true) : bits .or .u8 g k = T := by
  have R' := R.out
  rw [P.out, hs, if_pos (show Pl.stl (Pl.or8 g k) stop = true from h)] at R'
  exact R'
theorem wk_on {stop g k T : Int} {l r : List (Int × Int)} {ab : Int × Int} (R : Hid (Pl.wk stop l g = T)) (P : Hid (l = ab :: r)) (hs : Pl.wk stop (ab :: r) g = if Pl.stl (Pl.or8 g k) stop then Pl.or8 g k else Pl.wk stop r (Pl.or8 g k)) (h : Pl.stl (bits .or .u8 g k) stop = false) : Hid (Pl.wk stop r (bits .or .u8 g k) = T) := by
  have R' := R.out
  rw [P.out, hs, if_neg (show ¬ Pl.stl (Pl.or8 g k) stop = true from by unfold Pl.or8; rw [h]; simp)] at R'
  exact R'
theorem wk_lev {stop a b f : Int} {r : List (Int × Int)} (h1 : a ≤ b) (h2 : b ≤ a) (h : (Pl.and8 stop 4 != 0) = true) : Pl.wk stop ((a, b) :: r) f = if Pl.stl (Pl.or8 f 4) stop then Pl.or8 f 4 else Pl.wk stop r (Pl.or8 f 4) := by
  obtain rfl : a = b := by omega
  exact wk_step4 h
theorem wk_skip {stop a b g T : Int} {l r : List (Int × Int)} (R : Hid (Pl.wk stop l g = T)) (P : Hid (l = (a, b) :: r)) (h1 : a ≤ b) (h2 : b ≤ a) (h : (bits .and .u8 stop 4 != 0) = false) : Hid (Pl.wk stop r g = T) := by
  obtain rfl : a = b := by omega
  have R' := R.out
  rw [P.out, wk_step0 (show (Pl.and8 stop 4 != 0) = false from h)] at R'
  exact R'
theorem byt_or {g k : Int} (h : Hid (Pl.Byt g)) (hk : Pl.Byt k) : Hid (Pl.Byt (bits .or .u8 g k)) := Pl.or8_byt h.out hk
theorem wk_endL {stop g T : Int} {x y : List Pl.Ent} {p q : Nat} (R : Hid (Pl.wk stop (Pl.prs (x.drop p) (y.drop q)) g = T)) (bg : Hid (Pl.Byt g)) (px : Pl.Pos x) (hp : p < x.length) (hq : y.length ≤ q) : bits .or .u8 g 1 = T := by
  have R' := R.out
  rw [List.drop_eq_nil_of_le hq, Pl.prs_nil, Pl.wk_left bg.out _ (pos_drop px p), if_neg (by intro h; have := congrArg List.length h; simp at this; omega)] at R'
  exact R'
theorem wk_endR {stop g T : Int} {x y : List Pl.Ent} {p q : Nat} (R : Hid (Pl.wk stop (Pl.prs (x.drop p) (y.drop q)) g = T)) (bg : Hid (Pl.Byt g)) (py : Pl.Pos y) (hp : x.length ≤ p) (hq : q < y.length) : bits .or .u8 g 2 = T := by
  have R' := R.out
  rw [List.drop_eq_nil_of_le hp, Pl.prs_nil', Pl.wk_right bg.out _ (pos_drop py q), if_neg (by intro h; have := congrArg List.length h; simp at this; omega)] at R'
  exact R'
theorem wk_endN {stop g T : Int} {x y : List Pl.Ent} {p q : Nat} (R : Hid (Pl.wk stop (Pl.prs (x.drop p) (y.drop q)) g = T)) (hp : x.length ≤ p) (hq : y.length ≤ q) : g = T := by
  have R' := R.out
  rw [List.drop_eq_nil_of_le hp, List.drop_eq_nil_of_le hq] at R'
  simpa [Pl.prs, Pl.wk] using R'

set_option maxRecDepth 100000 in
set_option maxHeartbeats 4000000 in
theorem standRest_any (b1 o1 n1 c1 b2 o2 n2 c2 : Nat) (x y : List Pl.Ent) (found stop : Int) (w : World) (hx : Ents w b1 o1 n1 c1 x) (hy : Ents w b2 o2 n2 c2 y) (px : Pl.Pos x) (py : Pl.Pos y) (bf : Pl.Byt found) :
    Calls Try.prog 36 #[.slice (some ⟨b1, o1, none⟩) n1 c1, .slice (some ⟨b2, o2, none⟩) n2 c2, .int .u8 found, .int .u8 stop] w fun e w' =>
      e = .returned (.int .u8 (Pl.wk stop (Pl.prs x y) found)) ∧ ∃ q, w' = w.drewN q := by
  have l1 := hx.len
  have l2 := hy.len
  have m1 := hx.lec
  have m2 := hx.max
  have m3 := hy.lec
  have m4 := hy.max
  unfold maxLen at m2 m4
  go_enter Try.func36, Try.ntmps36
  go_wp2
  go_loopw [2, 9, 10] (fun f i j wr => ∃ (p q : Nat) (g : Int) (d : Nat), p ≤ n1 ∧ q ≤ n2 ∧ f = .int .u8 g ∧ i = .int .i64 p ∧ j = .int .i64 q ∧ Hid (Pl.Byt g) ∧ Hid (Pl.wk stop (Pl.prs (x.drop p) (y.drop q)) g = Pl.wk stop (Pl.prs x y) found) ∧ wr = w.drewN d)
    (fun _ i j _ => (n1 - (intOf i).toNat) + (n2 - (intOf j).toNat))
  case atStart => exact ⟨0, 0, found, 0, by omega, by omega, rfl, rfl, rfl, bf, rfl, rfl⟩
  case round =>
    obtain ⟨p, q, g, d, hp, hq, rfl, rfl, rfl, bg, R, rfl⟩ := hrel
    by_cases hlt : p < n1 ∧ q < n2
    · obtain ⟨hp1, hq1⟩ := hlt
      obtain ⟨k1, k2⟩ := hx.at p (by omega)
      obtain ⟨k3, k4⟩ := hy.at q (by omega)
      have hi1 : (p : Int) < (n1 : Int) := by omega
      have hi2 : (q : Int) < (n2 : Int) := by omega
      by_cases he : ((x[p]'(by omega)).1.toList == (y[q]'(by omega)).1.toList) = true
      · have P := prs_eqv (by omega) (by omega) he
        have HP : Hid _ := P
        clear P
        go_wp2
        go_quiet (fail)
        go_wp2_with fail
        go_quiet (fail)
        go_wp2_with (go_at_call 37; refine (settled_any _ _ _).mono ?_; rintro e wx ⟨rfl, hwx⟩; obtain rfl := hwx.symm)
        · have hlt' : (y[q]'(by omega)).2 < (x[p]'(by omega)).2 := by assumption
          have hst : Pl.stl (bits BinOp.or IntKind.u8 g 1) stop = true := by assumption
          go_ret
          exact ⟨ret_int (wk_ret R HP (wk_step1 hlt') hst), _, rfl⟩
        · have hlt' : (y[q]'(by omega)).2 < (x[p]'(by omega)).2 := by assumption
          have hst : Pl.stl (bits BinOp.or IntKind.u8 g 1) stop = false := by assumption
          go_roundw
          case rel => exact ⟨p + 1, q + 1, _, _, by omega, by omega, rfl, by go_num, by go_num, byt_or bg Pl.byt1, wk_on R HP (wk_step1 hlt') hst, rfl⟩
          case measure => simp [intOf]; omega
        · have hlt' : (x[p]'(by omega)).2 < (y[q]'(by omega)).2 := by assumption
          have hst : Pl.stl (bits BinOp.or IntKind.u8 g 2) stop = true := by assumption
          go_ret
          exact ⟨ret_int (wk_ret R HP (wk_step2 hlt') hst), _, rfl⟩
        · have hlt' : (x[p]'(by omega)).2 < (y[q]'(by omega)).2 := by assumption
          have hst : Pl.stl (bits BinOp.or IntKind.u8 g 2) stop = false := by assumption
          go_roundw
          case rel => exact ⟨p + 1, q + 1, _, _, by omega, by omega, rfl, by go_num, by go_num, byt_or bg Pl.byt2, wk_on R HP (wk_step2 hlt') hst, rfl⟩
          case measure => simp [intOf]; omega
        · have h1 : (x[p]'(by omega)).2 ≤ (y[q]'(by omega)).2 := by assumption
          have h2 : (y[q]'(by omega)).2 ≤ (x[p]'(by omega)).2 := by assumption
          have h4 : (bits BinOp.and IntKind.u8 stop 4 != 0) = true := by assumption
          have hst : Pl.stl (bits BinOp.or IntKind.u8 g 4) stop = true := by assumption
          go_ret
          exact ⟨ret_int (wk_ret R HP (wk_lev h1 h2 h4) hst), _, rfl⟩
        · have h1 : (x[p]'(by omega)).2 ≤ (y[q]'(by omega)).2 := by assumption
          have h2 : (y[q]'(by omega)).2 ≤ (x[p]'(by omega)).2 := by assumption
          have h4 : (bits BinOp.and IntKind.u8 stop 4 != 0) = true := by assumption
          have hst : Pl.stl (bits BinOp.or IntKind.u8 g 4) stop = false := by assumption
          go_roundw
          case rel => exact ⟨p + 1, q + 1, _, _, by omega, by omega, rfl, by go_num, by go_num, byt_or bg Pl.byt4, wk_on R HP (wk_lev h1 h2 h4) hst, rfl⟩
          case measure => simp [intOf]; omega
        · have h1 : (x[p]'(by omega)).2 ≤ (y[q]'(by omega)).2 := by assumption
          have h2 : (y[q]'(by omega)).2 ≤ (x[p]'(by omega)).2 := by assumption
          have h4 : (bits BinOp.and IntKind.u8 stop 4 != 0) = false := by assumption
          go_roundw
          case rel => exact ⟨p + 1, q + 1, _, _, by omega, by omega, rfl, by go_num, by go_num, bg, wk_skip R HP h1 h2 h4, rfl⟩
          case measure => simp [intOf]; omega
      · have he' : ((x[p]'(by omega)).1.toList == (y[q]'(by omega)).1.toList) = false := by simpa using he
        clear he
        have ep : 0 < (x[p]'(by omega)).2 := px _ (List.getElem_mem _)
        have eq : 0 < (y[q]'(by omega)).2 := py _ (List.getElem_mem _)
        have EP : Hid _ := ep
        have EQ : Hid _ := eq
        clear ep eq
        by_cases hl : Op.bytesLess (x[p]'(by omega)).1.toList (y[q]'(by omega)).1.toList = true
        · have HP : Hid _ := prs_lt (by omega) (by omega) he' hl
          go_wp2
          go_quiet (fail)
          go_wp2_with fail
          go_quiet (fail)
          go_wp2_with (go_at_call 37; refine (settled_any _ _ _).mono ?_; rintro e wx ⟨rfl, hwx⟩; obtain rfl := hwx.symm)
          · have hst : Pl.stl (bits BinOp.or IntKind.u8 g 1) stop = true := by assumption
            go_ret
            exact ⟨ret_int (wk_ret R HP (wk_step1 EP.out) hst), _, rfl⟩
          · have hst : Pl.stl (bits BinOp.or IntKind.u8 g 1) stop = false := by assumption
            go_roundw
            case rel => exact ⟨p + 1, q, _, _, by omega, by omega, rfl, by go_num, rfl, byt_or bg Pl.byt1, wk_on R HP (wk_step1 EP.out) hst, rfl⟩
            case measure => simp [intOf]; omega
        · have hl' : Op.bytesLess (x[p]'(by omega)).1.toList (y[q]'(by omega)).1.toList = false := by simpa using hl
          clear hl
          have HP : Hid _ := prs_gt (by omega) (by omega) he' hl'
          go_wp2
          go_quiet (fail)
          go_wp2_with fail
          go_quiet (fail)
          go_wp2_with (go_at_call 37; refine (settled_any _ _ _).mono ?_; rintro e wx ⟨rfl, hwx⟩; obtain rfl := hwx.symm)
          · have hst : Pl.stl (bits BinOp.or IntKind.u8 g 2) stop = true := by assumption
            go_ret
            exact ⟨ret_int (wk_ret R HP (wk_step2 EQ.out) hst), _, rfl⟩
          · have hst : Pl.stl (bits BinOp.or IntKind.u8 g 2) stop = false := by assumption
            go_roundw
            case rel => exact ⟨p, q + 1, _, _, by omega, by omega, rfl, rfl, by go_num, byt_or bg Pl.byt2, wk_on R HP (wk_step2 EQ.out) hst, rfl⟩
            case measure => simp [intOf]; omega
    · have hd : ¬ (p < n1 ∧ q < n2) := hlt
      go_wp2
      · go_ret
        exact ⟨ret_int (wk_endL R bg px (by omega) (by omega)), d, rfl⟩
      · go_ret
        exact ⟨ret_int (wk_endR R bg py (by omega) (by omega)), d, rfl⟩
      · go_ret
        exact ⟨ret_int (wk_endN R (by omega) (by omega)), d, rfl⟩

end Go.Proofs.Qxb6600413a
