/-
  THE WALK OF 'FnNextEstimateSums': the law returns true and writes nothing that was there.
-/
import Derived.Test.Qxb6000829aW2
namespace Go.Proofs.Qxb6000829a
open Go.RowKit

set_option maxRecDepth 100000 in
set_option maxHeartbeats 4000000 in
theorem law4 (a0 a2 : Option Addr) (n0 c0 n2 c2 : Nat) (own : Int) (s0 s2 : List Int) (w : World) (h0 : Ints w a0 n0 c0 s0) (h2 : Ints w a2 n2 c2 s2)
    (f0 : ∀ z ∈ s0, z ≤ 9223372036854775807) (f2 : ∀ z ∈ s2, z ≤ 9223372036854775807) :
    Calls Try.prog 4 #[.slice a0 n0 c0, .int .i64 own, .slice a2 n2 c2] w fun e w' => e = .returned (.bool true) ∧ Below w.heap.size w w' := by
  go_enter Try.func4, Try.ntmps4
  go_wp2_with fail
  refine (zzBytes_any a0 a2 n0 c0 n2 c2 own s0 s2 w h0 h2).mono ?_
  rintro e wx ⟨rfl | rfl, hwx⟩ <;> obtain rfl := hwx.symm
  case inr =>
    go_wp2
    go_ret
    exact ⟨rfl, Below.refl _ _⟩
  by_cases b0 : (65536 : Int) < (n0 : Int)
  · go_wp2
    go_ret
    exact ⟨rfl, Below.refl _ _⟩
  by_cases b2 : (65536 : Int) < (n2 : Int)
  · go_wp2
    go_ret
    exact ⟨rfl, Below.refl _ _⟩
  go_wp2_with fail
  refine (counts_any a0 n0 c0 s0 w h0).mono ?_
  rintro e wx ⟨⟨b1, rfl, hb1⟩, hwx⟩
  obtain rfl := hwx.symm
  cases b1
  · go_wp2
    go_ret
    exact ⟨rfl, Below.refl _ _⟩
  have g0 := hb1 rfl
  clear hb1
  go_wp2_with fail
  refine (counts_any a2 n2 c2 s2 w h2).mono ?_
  rintro e wx ⟨⟨b3, rfl, hb3⟩, hwx⟩
  obtain rfl := hwx.symm
  cases b3
  · go_wp2
    go_ret
    exact ⟨rfl, Below.refl _ _⟩
  have g2 := hb3 rfl
  clear hb3
  have F0 : Hid (Fits s0) := fun z hz => ⟨g0 z hz, f0 z hz⟩
  have F2 : Hid (Fits s2) := fun z hz => ⟨g2 z hz, f2 z hz⟩
  clear g0 g2 f0 f2
  go_wp2_with fail
  refine (clone_any a0 n0 c0 s0 w h0 (by omega)).mono ?_
  rintro e w1 ⟨d0, e0, rfl, k0, hB1⟩
  go_wp2_with fail
  refine (clone_any a2 n2 c2 s2 w1 (h2.below hB1 (Nat.le_refl _)) (by omega)).mono ?_
  rintro e w2 ⟨d2, e2, rfl, k2, hB2⟩
  go_wp2_with fail
  refine (next_any d0 d2 n0 e0 n2 e2 own s0 s2 w2 (k0.below hB2 (Nat.le_refl _)) k2 (by omega) (by omega)).mono ?_
  rintro e w3 ⟨g, m, cm, rfl, G, hB3⟩
  have hb12 : Below w.heap.size w w2 := hB1.trans (hB2.mono hB1.size)
  have hb3 : Below w.heap.size w w3 := hb12.trans (hB3.mono hb12.size)
  have A0 := (k0.below hB2 (Nat.le_refl _)).below hB3 (Nat.le_refl _)
  have A2 := k2.below hB3 (Nat.le_refl _)
  have l0 := A0.len
  have l2 := A2.len
  have hm : m = min n0 n2 + 1 := by have := G.len; rw [nxt_len] at this; omega
  have hmb : ((m : Int) != 1 + min (n0 : Int) (n2 : Int)) = false := by rw [bne_eq_false_iff_eq]; omega
  have hm' : m ≤ 65537 := by omega
  have HM : Hid _ := hm
  clear hm hB1 hB2 hB3 k0 k2 h0 h2 hb12
  go_wp2_with fail
  refine (min_any _ _ _).mono ?_
  rintro e wx ⟨rfl, hwx⟩
  obtain rfl := hwx.symm
  go_wp2_with fail
  refine (est_at (some ⟨g, 0, none⟩) m cm 0 _ (nxt own s0 s2) w3 G rfl).mono ?_
  rintro e wx ⟨⟨v0, ok0, rfl, hE0⟩, hwx⟩
  obtain rfl := hwx.symm
  have hz : (ok0 = true ∧ own = v0 ∧ (own != -1) = true) ∨ (ok0 = false ∧ v0 = 0 ∧ (own != -1) = false) := by
    rcases est_zero hE0 with ⟨h1, h2, h3⟩ | ⟨h1, h2, h3⟩
    · exact .inl ⟨h1, h2.symm, by simpa using h3⟩
    · exact .inr ⟨h1, h2, by simpa using h3⟩
  clear hE0
  rcases hz with ⟨rfl, rfl, hz⟩ | ⟨rfl, rfl, hz⟩
  all_goals
    go_wp2_with fail
    go_loop [10] (fun i => ∃ d : Nat, d ≤ m + 1 ∧ i = .int .i64 (d + 1)) (fun i => m + 2 - (intOf i).toNat)
    case atStart => exact ⟨0, by omega, rfl⟩
    case round =>
      obtain ⟨d, hd, rfl⟩ := hrel
      by_cases hlt : d ≤ m
      · have hlt' : (d : Int) + 1 ≤ (m : Int) + 1 := by omega
        go_wp2_with fail
        refine (est_at (some ⟨g, 0, none⟩) m cm (d + 1) _ (nxt own s0 s2) w3 G (by omega)).mono ?_
        rintro e wx ⟨⟨v, ok, rfl, hE1⟩, hwx⟩
        obtain rfl := hwx.symm
        go_wp2_with fail
        refine (est_at d0 n0 e0 d _ s0 w3 A0 (by omega)).mono ?_
        rintro e wx ⟨⟨vc, okc, rfl, hE2⟩, hwx⟩
        obtain rfl := hwx.symm
        go_wp2_with fail
        refine (est_at d2 n2 e2 d _ s2 w3 A2 (by omega)).mono ?_
        rintro e wx ⟨⟨vr, okr, rfl, hE3⟩, hwx⟩
        obtain rfl := hwx.symm
        have hs := est_succ F0.out F2.out hE1 hE2 hE3
        clear hE1 hE2 hE3
        rcases hs with ⟨rfl, rfl, rfl, hv⟩ | ⟨rfl, rfl, rfl | ⟨rfl, rfl⟩⟩
        · have hv' : (v != wrap64 (vc + vr)) = false := by simpa using hv
          clear hv
          go_wp2
          go_round
          case rel => exact ⟨d + 1, by omega, by go_num⟩
          case measure => simp [intOf]; omega
        · go_wp2
          go_round
          case rel => exact ⟨d + 1, by omega, by go_num⟩
          case measure => simp [intOf]; omega
        · go_wp2
          go_round
          case rel => exact ⟨d + 1, by omega, by go_num⟩
          case measure => simp [intOf]; omega
      · have hlt' : ¬ (d : Int) + 1 ≤ (m : Int) + 1 := by omega
        go_wp2
        go_ret
        exact ⟨rfl, hb3⟩

end Go.Proofs.Qxb6000829a
