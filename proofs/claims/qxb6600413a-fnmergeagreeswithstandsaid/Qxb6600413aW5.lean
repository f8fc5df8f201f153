/-
  zSameSlices: two pairs of columns are the same.
-/
import Derived.Test.Qxb6600413aW1
namespace Go.Proofs.Qxb6600413a
open Go.RowKit

theorem ss_no {s t : List ByteArray} {k : Nat} {h1 : k < s.length} {h2 : k < t.length} (h : (!((s[k]'h1).toList == (t[k]'h2).toList)) = true) (e : s = t) : False := by
  subst e; simp at h
theorem ss_step {s t : List ByteArray} {k : Nat} (R : Hid (∀ i (h1 : i < s.length) (h2 : i < t.length), i < k → s[i] = t[i])) {h1 : k < s.length} {h2 : k < t.length} (h : (!((s[k]'h1).toList == (t[k]'h2).toList)) = false) : Hid (∀ i (h1 : i < s.length) (h2 : i < t.length), i < k + 1 → s[i] = t[i]) := by
  intro i g1 g2 hi
  by_cases e : i = k
  · subst e
    exact (Pl.be_iff _ _).1 (by unfold Pl.be; simpa using h)
  · exact R.out i g1 g2 (by omega)
theorem zs_step {s t : List Int} {k : Nat} (R : Hid (∀ i (h1 : i < s.length) (h2 : i < t.length), i < k → s[i] = t[i])) {h1 : k < s.length} {h2 : k < t.length} (h : s[k]'h1 = t[k]'h2) : Hid (∀ i (h1 : i < s.length) (h2 : i < t.length), i < k + 1 → s[i] = t[i]) := by
  intro i g1 g2 hi
  by_cases e : i = k
  · subst e; exact h
  · exact R.out i g1 g2 (by omega)

set_option maxHeartbeats 800000 in
theorem zSameSlices_any (a0 a0' a1 a1' : Option Addr) (n0 c0 n0' c0' n1 c1 n1' c1' : Nat) (s0 s1 : List ByteArray) (z0 z1 : List Int) (w : World) (h0 : Strs w a0 n0 c0 s0) (h0' : Ints w a0' n0' c0' z0) (h1 : Strs w a1 n1 c1 s1) (h1' : Ints w a1' n1' c1' z1) :
    Calls Try.prog 33 #[.slice a0 n0 c0, .slice a0' n0' c0', .slice a1 n1 c1, .slice a1' n1' c1'] w fun e w' => ∃ b : Bool, e = .returned (.bool b) ∧ (b = true ↔ s0 = s1 ∧ z0 = z1) ∧ Below w.heap.size w w' := by
  have l0 := h0.len
  have l0' := h0'.len
  have l1 := h1.len
  have l1' := h1'.len
  have m0 := h0.lec
  have m1 := h0.max
  have m2 := h0'.lec
  have m3 := h0'.max
  unfold maxLen at m1 m3
  by_cases e0 : n0 = n1
  case neg =>
    have e0' : ((n0 : Int) == (n1 : Int)) = false := by rw [beq_eq_false_iff_ne]; omega
    go_enter Try.func33, Try.ntmps33
    go_wp2
    go_ret
    exact ⟨false, rfl, ⟨nofun, fun h => by have := congrArg List.length h.1; omega⟩, Below.refl _ _⟩
  subst e0
  by_cases e1 : n0' = n1'
  case neg =>
    have e1' : ((n0' : Int) == (n1' : Int)) = false := by rw [beq_eq_false_iff_ne]; omega
    go_enter Try.func33, Try.ntmps33
    go_wp2
    go_ret
    exact ⟨false, rfl, ⟨nofun, fun h => by have := congrArg List.length h.2; omega⟩, Below.refl _ _⟩
  subst e1
  go_enter Try.func33, Try.ntmps33
  go_wp2
  go_loopw [9] (fun i wr => ∃ k : Nat, k ≤ n0 ∧ i = .int .i64 k ∧ Hid (∀ i (h1 : i < s0.length) (h2 : i < s1.length), i < k → s0[i] = s1[i]) ∧ Below w.heap.size w wr) (fun i _ => n0 - (intOf i).toNat)
  case atStart => exact ⟨0, by omega, rfl, fun _ _ _ h => by omega, Below.refl _ _⟩
  case round =>
    obtain ⟨k, hk, rfl, R, hbr⟩ := hrel
    by_cases hlt : k < n0
    · obtain ⟨b, off, rfl, hb, hc⟩ := (h0.below hbr (Nat.le_refl _)).at (by omega)
      obtain ⟨b', off', rfl, hb', hc'⟩ := (h1.below hbr (Nat.le_refl _)).at (by omega)
      have hcell := hc k (by omega)
      have hcell' := hc' k (by omega)
      have hi1 : (k : Int) < (n0 : Int) := by omega
      clear hc hc'
      go_wp2
      go_quiet (fail)
      go_wp2
      · have hno : (!((s0[k]'(by omega)).toList == (s1[k]'(by omega)).toList)) = true := by assumption
        go_ret
        exact ⟨false, rfl, ⟨nofun, fun h => (ss_no hno h.1).elim⟩, below_drewN hbr _⟩
      · have hyes : (!((s0[k]'(by omega)).toList == (s1[k]'(by omega)).toList)) = false := by assumption
        go_roundw
        case rel => exact ⟨k + 1, by omega, by go_num, ss_step R hyes, below_drewN hbr _⟩
        case measure => simp [intOf]; omega
    · have es : Hid (s0 = s1) := List.ext_getElem (by omega) fun i g1 g2 => R.out i g1 g2 (by omega)
      clear R
      go_wp2
      go_loopw [10] (fun i wx => ∃ k : Nat, k ≤ n0' ∧ i = .int .i64 k ∧ Hid (∀ i (h1 : i < z0.length) (h2 : i < z1.length), i < k → z0[i] = z1[i]) ∧ Below w.heap.size w wx) (fun i _ => n0' - (intOf i).toNat)
      case atStart => exact ⟨0, by omega, rfl, fun _ _ _ h => by omega, hbr⟩
      case round =>
        obtain ⟨j, hj, rfl, R, hbx⟩ := hrel
        by_cases hlj : j < n0'
        · obtain ⟨b, off, rfl, hb, hc⟩ := (h0'.below hbx (Nat.le_refl _)).at (by omega)
          obtain ⟨b', off', rfl, hb', hc'⟩ := (h1'.below hbx (Nat.le_refl _)).at (by omega)
          have hcell := hc j (by omega)
          have hcell' := hc' j (by omega)
          have hi1 : (j : Int) < (n0' : Int) := by omega
          clear hc hc'
          by_cases hz : z0[j]'(by omega) = z1[j]'(by omega)
          · have hzb : (z0[j]'(by omega) == z1[j]'(by omega)) = true := by simpa using hz
            have HZ : Hid (z0[j]'(by omega) = z1[j]'(by omega)) := hz
            clear hz
            go_wp2
            go_quiet (fail)
            go_wp2
            go_roundw
            case rel => exact ⟨j + 1, by omega, by go_num, zs_step R HZ.out, below_drewN hbx _⟩
            case measure => simp [intOf]; omega
          · have hzb : (z0[j]'(by omega) == z1[j]'(by omega)) = false := by simpa using hz
            go_wp2
            go_quiet (fail)
            go_wp2
            go_ret
            exact ⟨false, rfl, ⟨nofun, fun h => absurd (by have := h.2; subst this; rfl) hz⟩, below_drewN hbx _⟩
        · have ez : z0 = z1 := List.ext_getElem (by omega) fun i g1 g2 => R.out i g1 g2 (by omega)
          have EZ : Hid (z0 = z1) := ez
          clear ez R
          go_wp2
          go_ret
          exact ⟨true, rfl, ⟨fun _ => ⟨es.out, EZ.out⟩, fun _ => rfl⟩, hbx⟩

end Go.Proofs.Qxb6600413a
