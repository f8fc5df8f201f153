/-
  zWalk: the documented walk over the union's ids.
-/
import Derived.Test.Qxb6600413aW7
import Derived.Deep.RegionWith
namespace Go.Proofs.Qxb6600413a
open Go.RowKit

def lk (A B : List Pl.Ent) (us : List ByteArray) : List (Int × Int) := us.map fun id => (Pl.get A id, Pl.get B id)
theorem lk_drop {A B : List Pl.Ent} {us : List ByteArray} {k : Nat} (h : k < us.length) : lk A B (us.drop k) = (Pl.get A (us[k]'h), Pl.get B (us[k]'h)) :: lk A B (us.drop (k + 1)) := by
  rw [List.drop_eq_getElem_cons h]; rfl

/-- The walk over the ids of the merge is the walk over the pairs. -/
theorem lk_mrg {x y : List Pl.Ent} (sx : Pl.Srt x) (sy : Pl.Srt y) : lk x y ((Pl.mrg x y).map Prod.fst) = Pl.prs x y := by
  rw [← Pl.prs_eq x y sx sy]
  simp [lk]

set_option maxRecDepth 100000 in
set_option maxHeartbeats 4000000 in
theorem zWalk_any (au a0 a0' a1 a1' : Option Addr) (m cu n0 c0 c0' n1 c1 c1' : Nat) (us s0 s1 : List ByteArray) (z0 z1 : List Int) (found stop : Int) (w : World) (hu : Strs w au m cu us) (h0 : Strs w a0 n0 c0 s0) (h0' : Ints w a0' n0 c0' z0) (h1 : Strs w a1 n1 c1 s1) (h1' : Ints w a1' n1 c1' z1)
    (S0 : SrtS s0) (S1 : SrtS s1) :
    Calls Try.prog 25 #[.slice au m cu, .slice a0 n0 c0, .slice a0' n0 c0', .slice a1 n1 c1, .slice a1' n1 c1', .int .u8 found, .int .u8 stop] w fun e w' =>
      e = .returned (.int .u8 (Pl.wk stop (lk (vec s0 z0) (vec s1 z1) us) found)) ∧ w' = w := by
  have l1 := hu.len
  have m1 := hu.lec
  have m2 := hu.max
  unfold maxLen at m2
  go_enter Try.func25, Try.ntmps25
  go_wp2
  go_loop [5, 15] (fun f i => ∃ (k : Nat) (g : Int), k ≤ m ∧ f = .int .u8 g ∧ i = .int .i64 k ∧ Hid (Pl.wk stop (lk (vec s0 z0) (vec s1 z1) (us.drop k)) g = Pl.wk stop (lk (vec s0 z0) (vec s1 z1) us) found))
    (fun _ i => m - (intOf i).toNat)
  case atStart => exact ⟨0, found, by omega, rfl, rfl, rfl⟩
  case round =>
    obtain ⟨k, g, hk, rfl, rfl, R⟩ := hrel
    by_cases hlt : k < m
    · obtain ⟨b, off, rfl, hb, hc⟩ := hu.at (by omega)
      have hcell := hc k (by omega)
      have HP : Hid _ := lk_drop (A := vec s0 z0) (B := vec s1 z1) (show k < us.length by omega)
      clear hc
      go_wp2_with (first | (go_at_call_of 19 a0; refine (zFind_any a0 a0' n0 c0 n0 c0' s0 z0 _ _ h0 h0' rfl S0).mono ?_; rintro e wx ⟨rfl, hwx⟩; obtain rfl := hwx.symm) | (go_at_call_of 19 a1; refine (zFind_any a1 a1' n1 c1 n1 c1' s1 z1 _ _ h1 h1' rfl S1).mono ?_; rintro e wx ⟨rfl, hwx⟩; obtain rfl := hwx.symm) | (go_at_call 35; refine (zSettled_any _ _ _).mono ?_; rintro e wx ⟨rfl, hwx⟩; obtain rfl := hwx.symm))
      · have hlt' : Pl.get (vec s1 z1) (us[k]'(by omega)) < Pl.get (vec s0 z0) (us[k]'(by omega)) := by assumption
        have hst : Pl.stl (bits BinOp.or IntKind.u8 g 1) stop = true := by assumption
        go_ret
        exact ⟨ret_int (wk_ret R HP (wk_step1 hlt') hst), rfl⟩
      · have hlt' : Pl.get (vec s1 z1) (us[k]'(by omega)) < Pl.get (vec s0 z0) (us[k]'(by omega)) := by assumption
        have hst : Pl.stl (bits BinOp.or IntKind.u8 g 1) stop = false := by assumption
        go_round
        case rel => exact ⟨k + 1, _, by omega, rfl, by go_num, wk_on R HP (wk_step1 hlt') hst⟩
        case measure => simp [intOf]; omega
      · have hlt' : Pl.get (vec s0 z0) (us[k]'(by omega)) < Pl.get (vec s1 z1) (us[k]'(by omega)) := by assumption
        have hst : Pl.stl (bits BinOp.or IntKind.u8 g 2) stop = true := by assumption
        go_ret
        exact ⟨ret_int (wk_ret R HP (wk_step2 hlt') hst), rfl⟩
      · have hlt' : Pl.get (vec s0 z0) (us[k]'(by omega)) < Pl.get (vec s1 z1) (us[k]'(by omega)) := by assumption
        have hst : Pl.stl (bits BinOp.or IntKind.u8 g 2) stop = false := by assumption
        go_round
        case rel => exact ⟨k + 1, _, by omega, rfl, by go_num, wk_on R HP (wk_step2 hlt') hst⟩
        case measure => simp [intOf]; omega
      · have h2 : Pl.get (vec s0 z0) (us[k]'(by omega)) ≤ Pl.get (vec s1 z1) (us[k]'(by omega)) := by assumption
        have h3 : Pl.get (vec s1 z1) (us[k]'(by omega)) ≤ Pl.get (vec s0 z0) (us[k]'(by omega)) := by assumption
        have h4 : (bits BinOp.and IntKind.u8 stop 4 != 0) = true := by assumption
        have hst : Pl.stl (bits BinOp.or IntKind.u8 g 4) stop = true := by assumption
        go_ret
        exact ⟨ret_int (wk_ret R HP (wk_lev h2 h3 h4) hst), rfl⟩
      · have h2 : Pl.get (vec s0 z0) (us[k]'(by omega)) ≤ Pl.get (vec s1 z1) (us[k]'(by omega)) := by assumption
        have h3 : Pl.get (vec s1 z1) (us[k]'(by omega)) ≤ Pl.get (vec s0 z0) (us[k]'(by omega)) := by assumption
        have h4 : (bits BinOp.and IntKind.u8 stop 4 != 0) = true := by assumption
        have hst : Pl.stl (bits BinOp.or IntKind.u8 g 4) stop = false := by assumption
        go_round
        case rel => exact ⟨k + 1, _, by omega, rfl, by go_num, wk_on R HP (wk_lev h2 h3 h4) hst⟩
        case measure => simp [intOf]; omega
      · have h2 : Pl.get (vec s0 z0) (us[k]'(by omega)) ≤ Pl.get (vec s1 z1) (us[k]'(by omega)) := by assumption
        have h3 : Pl.get (vec s1 z1) (us[k]'(by omega)) ≤ Pl.get (vec s0 z0) (us[k]'(by omega)) := by assumption
        have h4 : (bits BinOp.and IntKind.u8 stop 4 != 0) = false := by assumption
        go_round
        case rel => exact ⟨k + 1, g, by omega, rfl, by go_num, wk_skip R HP h2 h3 h4⟩
        case measure => simp [intOf]; omega
    · go_wp2
      go_ret
      exact ⟨ret_int (by have R' := R.out; rw [List.drop_eq_nil_of_le (by omega)] at R'; exact R'), rfl⟩

end Go.Proofs.Qxb6600413a
