/-
  The guards on total length ('zzBytes_..'): each answers some bool and turns nothing. Written by a small program of our own: one text, seven functions.
-/
import Derived.Test.Qxb6600413aW1
namespace Go.Proofs.Qxb6600413a
open Go.RowKit

set_option maxHeartbeats 1600000 in
theorem zzBytes11 (a0 a0' : Option Addr) (n0 c0 n0' c0' : Nat) (s0 : List ByteArray) (z0 : List Int) (a1 a1' : Option Addr) (n1 c1 n1' c1' : Nat) (s1 : List ByteArray) (z1 : List Int) (w : World) (h0 : Strs w a0 n0 c0 s0) (h0' : Ints w a0' n0' c0' z0) (h1 : Strs w a1 n1 c1 s1) (h1' : Ints w a1' n1' c1' z1) :
    Calls Try.prog 11 #[.slice a0 n0 c0, .slice a0' n0' c0', .slice a1 n1 c1, .slice a1' n1' c1'] w fun e w' => (e = .returned (.bool true) ∨ e = .returned (.bool false)) ∧ w' = w := by
  have l0 := h0.lec
  have m0 := h0.max
  have l0' := h0'.lec
  have m0' := h0'.max
  have l1 := h1.lec
  have m1 := h1.max
  have l1' := h1'.lec
  have m1' := h1'.max
  unfold maxLen at m0 m0' m1 m1'
  go_enter Try.func11, Try.ntmps11
  go_wp2
  all_goals first | (go_ret; exact ⟨.inr rfl, rfl⟩) | skip
  go_loop [9, 10] (fun t i => ∃ k m : Nat, k ≤ n0 ∧ m ≤ 1048576 ∧ i = .int .i64 k ∧ t = .int .i64 m) (fun _ i => n0 - (intOf i).toNat)
  case atStart => exact ⟨0, n0, by omega, by omega, rfl, by go_num⟩
  case round =>
    obtain ⟨k0, q0, hk0, hq0, rfl, rfl⟩ := hrel
    by_cases hlt0 : k0 < n0
    · obtain ⟨b, off, rfl, hb, hc⟩ := h0.at (by omega)
      have hl := h0.len
      have hcell := hc k0 (by omega)
      have hsz := h0.each _ (List.getElem_mem (show k0 < s0.length by omega))
      unfold maxLen at hsz
      clear hc
      go_wp2
      · go_ret
        exact ⟨.inr rfl, rfl⟩
      · go_ret
        exact ⟨.inr rfl, rfl⟩
      · go_round
        case rel => exact ⟨k0 + 1, q0 + (s0[k0]'(by omega)).size, by omega, by omega, by go_num, by go_num⟩
        case measure => simp [intOf]; omega
    · skip
      go_wp2
      all_goals first | (go_ret; exact ⟨.inr rfl, rfl⟩) | skip
      go_loop [9, 11] (fun t i => ∃ k m : Nat, k ≤ n1 ∧ m ≤ 1048576 ∧ i = .int .i64 k ∧ t = .int .i64 m) (fun _ i => n1 - (intOf i).toNat)
      case atStart => exact ⟨0, q0 + n0' + n1, by omega, by omega, rfl, by go_num⟩
      case round =>
        obtain ⟨k1, q1, hk1, hq1, rfl, rfl⟩ := hrel
        by_cases hlt1 : k1 < n1
        · obtain ⟨b, off, rfl, hb, hc⟩ := h1.at (by omega)
          have hl := h1.len
          have hcell := hc k1 (by omega)
          have hsz := h1.each _ (List.getElem_mem (show k1 < s1.length by omega))
          unfold maxLen at hsz
          clear hc
          go_wp2
          · go_ret
            exact ⟨.inr rfl, rfl⟩
          · go_ret
            exact ⟨.inr rfl, rfl⟩
          · go_round
            case rel => exact ⟨k1 + 1, q1 + (s1[k1]'(by omega)).size, by omega, by omega, by go_num, by go_num⟩
            case measure => simp [intOf]; omega
        · skip
          go_wp2
          all_goals first | (go_ret; exact ⟨.inr rfl, rfl⟩) | (go_ret; exact ⟨.inl rfl, rfl⟩)

set_option maxHeartbeats 1600000 in
theorem zzBytes22 (a0 a0' : Option Addr) (n0 c0 n0' c0' : Nat) (s0 : List ByteArray) (z0 : List Int) (a1 a1' : Option Addr) (n1 c1 n1' c1' : Nat) (s1 : List ByteArray) (z1 : List Int) (w : World) (h0 : Strs w a0 n0 c0 s0) (h0' : Ints w a0' n0' c0' z0) (h1 : Strs w a1 n1 c1 s1) (h1' : Ints w a1' n1' c1' z1) :
    Calls Try.prog 22 #[.slice a0 n0 c0, .slice a0' n0' c0', .slice a1 n1 c1, .slice a1' n1' c1'] w fun e w' => (e = .returned (.bool true) ∨ e = .returned (.bool false)) ∧ w' = w := by
  have l0 := h0.lec
  have m0 := h0.max
  have l0' := h0'.lec
  have m0' := h0'.max
  have l1 := h1.lec
  have m1 := h1.max
  have l1' := h1'.lec
  have m1' := h1'.max
  unfold maxLen at m0 m0' m1 m1'
  go_enter Try.func22, Try.ntmps22
  go_wp2
  all_goals first | (go_ret; exact ⟨.inr rfl, rfl⟩) | skip
  go_loop [9, 10] (fun t i => ∃ k m : Nat, k ≤ n0 ∧ m ≤ 1048576 ∧ i = .int .i64 k ∧ t = .int .i64 m) (fun _ i => n0 - (intOf i).toNat)
  case atStart => exact ⟨0, n0, by omega, by omega, rfl, by go_num⟩
  case round =>
    obtain ⟨k0, q0, hk0, hq0, rfl, rfl⟩ := hrel
    by_cases hlt0 : k0 < n0
    · obtain ⟨b, off, rfl, hb, hc⟩ := h0.at (by omega)
      have hl := h0.len
      have hcell := hc k0 (by omega)
      have hsz := h0.each _ (List.getElem_mem (show k0 < s0.length by omega))
      unfold maxLen at hsz
      clear hc
      go_wp2
      · go_ret
        exact ⟨.inr rfl, rfl⟩
      · go_ret
        exact ⟨.inr rfl, rfl⟩
      · go_round
        case rel => exact ⟨k0 + 1, q0 + (s0[k0]'(by omega)).size, by omega, by omega, by go_num, by go_num⟩
        case measure => simp [intOf]; omega
    · skip
      go_wp2
      all_goals first | (go_ret; exact ⟨.inr rfl, rfl⟩) | skip
      go_loop [9, 11] (fun t i => ∃ k m : Nat, k ≤ n1 ∧ m ≤ 1048576 ∧ i = .int .i64 k ∧ t = .int .i64 m) (fun _ i => n1 - (intOf i).toNat)
      case atStart => exact ⟨0, q0 + n0' + n1, by omega, by omega, rfl, by go_num⟩
      case round =>
        obtain ⟨k1, q1, hk1, hq1, rfl, rfl⟩ := hrel
        by_cases hlt1 : k1 < n1
        · obtain ⟨b, off, rfl, hb, hc⟩ := h1.at (by omega)
          have hl := h1.len
          have hcell := hc k1 (by omega)
          have hsz := h1.each _ (List.getElem_mem (show k1 < s1.length by omega))
          unfold maxLen at hsz
          clear hc
          go_wp2
          · go_ret
            exact ⟨.inr rfl, rfl⟩
          · go_ret
            exact ⟨.inr rfl, rfl⟩
          · go_round
            case rel => exact ⟨k1 + 1, q1 + (s1[k1]'(by omega)).size, by omega, by omega, by go_num, by go_num⟩
            case measure => simp [intOf]; omega
        · skip
          go_wp2
          all_goals first | (go_ret; exact ⟨.inr rfl, rfl⟩) | (go_ret; exact ⟨.inl rfl, rfl⟩)

set_option maxHeartbeats 1600000 in
theorem zzBytes26 (a0 a0' : Option Addr) (n0 c0 n0' c0' : Nat) (s0 : List ByteArray) (z0 : List Int) (a1 a1' : Option Addr) (n1 c1 n1' c1' : Nat) (s1 : List ByteArray) (z1 : List Int) (w : World) (h0 : Strs w a0 n0 c0 s0) (h0' : Ints w a0' n0' c0' z0) (h1 : Strs w a1 n1 c1 s1) (h1' : Ints w a1' n1' c1' z1) :
    Calls Try.prog 26 #[.slice a0 n0 c0, .slice a0' n0' c0', .slice a1 n1 c1, .slice a1' n1' c1'] w fun e w' => (e = .returned (.bool true) ∨ e = .returned (.bool false)) ∧ w' = w := by
  have l0 := h0.lec
  have m0 := h0.max
  have l0' := h0'.lec
  have m0' := h0'.max
  have l1 := h1.lec
  have m1 := h1.max
  have l1' := h1'.lec
  have m1' := h1'.max
  unfold maxLen at m0 m0' m1 m1'
  go_enter Try.func26, Try.ntmps26
  go_wp2
  all_goals first | (go_ret; exact ⟨.inr rfl, rfl⟩) | skip
  go_loop [9, 10] (fun t i => ∃ k m : Nat, k ≤ n0 ∧ m ≤ 1048576 ∧ i = .int .i64 k ∧ t = .int .i64 m) (fun _ i => n0 - (intOf i).toNat)
  case atStart => exact ⟨0, n0, by omega, by omega, rfl, by go_num⟩
  case round =>
    obtain ⟨k0, q0, hk0, hq0, rfl, rfl⟩ := hrel
    by_cases hlt0 : k0 < n0
    · obtain ⟨b, off, rfl, hb, hc⟩ := h0.at (by omega)
      have hl := h0.len
      have hcell := hc k0 (by omega)
      have hsz := h0.each _ (List.getElem_mem (show k0 < s0.length by omega))
      unfold maxLen at hsz
      clear hc
      go_wp2
      · go_ret
        exact ⟨.inr rfl, rfl⟩
      · go_ret
        exact ⟨.inr rfl, rfl⟩
      · go_round
        case rel => exact ⟨k0 + 1, q0 + (s0[k0]'(by omega)).size, by omega, by omega, by go_num, by go_num⟩
        case measure => simp [intOf]; omega
    · skip
      go_wp2
      all_goals first | (go_ret; exact ⟨.inr rfl, rfl⟩) | skip
      go_loop [9, 11] (fun t i => ∃ k m : Nat, k ≤ n1 ∧ m ≤ 1048576 ∧ i = .int .i64 k ∧ t = .int .i64 m) (fun _ i => n1 - (intOf i).toNat)
      case atStart => exact ⟨0, q0 + n0' + n1, by omega, by omega, rfl, by go_num⟩
      case round =>
        obtain ⟨k1, q1, hk1, hq1, rfl, rfl⟩ := hrel
        by_cases hlt1 : k1 < n1
        · obtain ⟨b, off, rfl, hb, hc⟩ := h1.at (by omega)
          have hl := h1.len
          have hcell := hc k1 (by omega)
          have hsz := h1.each _ (List.getElem_mem (show k1 < s1.length by omega))
          unfold maxLen at hsz
          clear hc
          go_wp2
          · go_ret
            exact ⟨.inr rfl, rfl⟩
          · go_ret
            exact ⟨.inr rfl, rfl⟩
          · go_round
            case rel => exact ⟨k1 + 1, q1 + (s1[k1]'(by omega)).size, by omega, by omega, by go_num, by go_num⟩
            case measure => simp [intOf]; omega
        · skip
          go_wp2
          all_goals first | (go_ret; exact ⟨.inr rfl, rfl⟩) | (go_ret; exact ⟨.inl rfl, rfl⟩)

set_option maxHeartbeats 1600000 in
theorem zzBytes24 (a0 a0' : Option Addr) (n0 c0 n0' c0' : Nat) (s0 : List ByteArray) (z0 : List Int) (a1 a1' : Option Addr) (n1 c1 n1' c1' : Nat) (s1 : List ByteArray) (z1 : List Int) (stop : Int) (w : World) (h0 : Strs w a0 n0 c0 s0) (h0' : Ints w a0' n0' c0' z0) (h1 : Strs w a1 n1 c1 s1) (h1' : Ints w a1' n1' c1' z1) :
    Calls Try.prog 24 #[.slice a0 n0 c0, .slice a0' n0' c0', .slice a1 n1 c1, .slice a1' n1' c1', .int .u8 stop] w fun e w' => (e = .returned (.bool true) ∨ e = .returned (.bool false)) ∧ w' = w := by
  have l0 := h0.lec
  have m0 := h0.max
  have l0' := h0'.lec
  have m0' := h0'.max
  have l1 := h1.lec
  have m1 := h1.max
  have l1' := h1'.lec
  have m1' := h1'.max
  unfold maxLen at m0 m0' m1 m1'
  go_enter Try.func24, Try.ntmps24
  go_wp2
  all_goals first | (go_ret; exact ⟨.inr rfl, rfl⟩) | skip
  go_loop [11, 12] (fun t i => ∃ k m : Nat, k ≤ n0 ∧ m ≤ 1048576 ∧ i = .int .i64 k ∧ t = .int .i64 m) (fun _ i => n0 - (intOf i).toNat)
  case atStart => exact ⟨0, n0, by omega, by omega, rfl, by go_num⟩
  case round =>
    obtain ⟨k0, q0, hk0, hq0, rfl, rfl⟩ := hrel
    by_cases hlt0 : k0 < n0
    · obtain ⟨b, off, rfl, hb, hc⟩ := h0.at (by omega)
      have hl := h0.len
      have hcell := hc k0 (by omega)
      have hsz := h0.each _ (List.getElem_mem (show k0 < s0.length by omega))
      unfold maxLen at hsz
      clear hc
      go_wp2
      · go_ret
        exact ⟨.inr rfl, rfl⟩
      · go_ret
        exact ⟨.inr rfl, rfl⟩
      · go_round
        case rel => exact ⟨k0 + 1, q0 + (s0[k0]'(by omega)).size, by omega, by omega, by go_num, by go_num⟩
        case measure => simp [intOf]; omega
    · skip
      go_wp2
      all_goals first | (go_ret; exact ⟨.inr rfl, rfl⟩) | skip
      go_loop [11, 13] (fun t i => ∃ k m : Nat, k ≤ n1 ∧ m ≤ 1048576 ∧ i = .int .i64 k ∧ t = .int .i64 m) (fun _ i => n1 - (intOf i).toNat)
      case atStart => exact ⟨0, q0 + n0' + n1, by omega, by omega, rfl, by go_num⟩
      case round =>
        obtain ⟨k1, q1, hk1, hq1, rfl, rfl⟩ := hrel
        by_cases hlt1 : k1 < n1
        · obtain ⟨b, off, rfl, hb, hc⟩ := h1.at (by omega)
          have hl := h1.len
          have hcell := hc k1 (by omega)
          have hsz := h1.each _ (List.getElem_mem (show k1 < s1.length by omega))
          unfold maxLen at hsz
          clear hc
          go_wp2
          · go_ret
            exact ⟨.inr rfl, rfl⟩
          · go_ret
            exact ⟨.inr rfl, rfl⟩
          · go_round
            case rel => exact ⟨k1 + 1, q1 + (s1[k1]'(by omega)).size, by omega, by omega, by go_num, by go_num⟩
            case measure => simp [intOf]; omega
        · skip
          go_wp2
          all_goals first | (go_ret; exact ⟨.inr rfl, rfl⟩) | (go_ret; exact ⟨.inl rfl, rfl⟩)

set_option maxHeartbeats 1600000 in
theorem zzBytes31 (a0 a0' : Option Addr) (n0 c0 n0' c0' : Nat) (s0 : List ByteArray) (z0 : List Int) (a1 a1' : Option Addr) (n1 c1 n1' c1' : Nat) (s1 : List ByteArray) (z1 : List Int) (stop : Int) (w : World) (h0 : Strs w a0 n0 c0 s0) (h0' : Ints w a0' n0' c0' z0) (h1 : Strs w a1 n1 c1 s1) (h1' : Ints w a1' n1' c1' z1) :
    Calls Try.prog 31 #[.slice a0 n0 c0, .slice a0' n0' c0', .slice a1 n1 c1, .slice a1' n1' c1', .int .u8 stop] w fun e w' => (e = .returned (.bool true) ∨ e = .returned (.bool false)) ∧ w' = w := by
  have l0 := h0.lec
  have m0 := h0.max
  have l0' := h0'.lec
  have m0' := h0'.max
  have l1 := h1.lec
  have m1 := h1.max
  have l1' := h1'.lec
  have m1' := h1'.max
  unfold maxLen at m0 m0' m1 m1'
  go_enter Try.func31, Try.ntmps31
  go_wp2
  all_goals first | (go_ret; exact ⟨.inr rfl, rfl⟩) | skip
  go_loop [11, 12] (fun t i => ∃ k m : Nat, k ≤ n0 ∧ m ≤ 1048576 ∧ i = .int .i64 k ∧ t = .int .i64 m) (fun _ i => n0 - (intOf i).toNat)
  case atStart => exact ⟨0, n0, by omega, by omega, rfl, by go_num⟩
  case round =>
    obtain ⟨k0, q0, hk0, hq0, rfl, rfl⟩ := hrel
    by_cases hlt0 : k0 < n0
    · obtain ⟨b, off, rfl, hb, hc⟩ := h0.at (by omega)
      have hl := h0.len
      have hcell := hc k0 (by omega)
      have hsz := h0.each _ (List.getElem_mem (show k0 < s0.length by omega))
      unfold maxLen at hsz
      clear hc
      go_wp2
      · go_ret
        exact ⟨.inr rfl, rfl⟩
      · go_ret
        exact ⟨.inr rfl, rfl⟩
      · go_round
        case rel => exact ⟨k0 + 1, q0 + (s0[k0]'(by omega)).size, by omega, by omega, by go_num, by go_num⟩
        case measure => simp [intOf]; omega
    · skip
      go_wp2
      all_goals first | (go_ret; exact ⟨.inr rfl, rfl⟩) | skip
      go_loop [11, 13] (fun t i => ∃ k m : Nat, k ≤ n1 ∧ m ≤ 1048576 ∧ i = .int .i64 k ∧ t = .int .i64 m) (fun _ i => n1 - (intOf i).toNat)
      case atStart => exact ⟨0, q0 + n0' + n1, by omega, by omega, rfl, by go_num⟩
      case round =>
        obtain ⟨k1, q1, hk1, hq1, rfl, rfl⟩ := hrel
        by_cases hlt1 : k1 < n1
        · obtain ⟨b, off, rfl, hb, hc⟩ := h1.at (by omega)
          have hl := h1.len
          have hcell := hc k1 (by omega)
          have hsz := h1.each _ (List.getElem_mem (show k1 < s1.length by omega))
          unfold maxLen at hsz
          clear hc
          go_wp2
          · go_ret
            exact ⟨.inr rfl, rfl⟩
          · go_ret
            exact ⟨.inr rfl, rfl⟩
          · go_round
            case rel => exact ⟨k1 + 1, q1 + (s1[k1]'(by omega)).size, by omega, by omega, by go_num, by go_num⟩
            case measure => simp [intOf]; omega
        · skip
          go_wp2
          all_goals first | (go_ret; exact ⟨.inr rfl, rfl⟩) | (go_ret; exact ⟨.inl rfl, rfl⟩)

set_option maxHeartbeats 1600000 in
theorem zzBytes29 (a0 a0' : Option Addr) (n0 c0 n0' c0' : Nat) (s0 : List ByteArray) (z0 : List Int) (a1 a1' : Option Addr) (n1 c1 n1' c1' : Nat) (s1 : List ByteArray) (z1 : List Int) (found : Int) (stop : Int) (w : World) (h0 : Strs w a0 n0 c0 s0) (h0' : Ints w a0' n0' c0' z0) (h1 : Strs w a1 n1 c1 s1) (h1' : Ints w a1' n1' c1' z1) :
    Calls Try.prog 29 #[.slice a0 n0 c0, .slice a0' n0' c0', .slice a1 n1 c1, .slice a1' n1' c1', .int .u8 found, .int .u8 stop] w fun e w' => (e = .returned (.bool true) ∨ e = .returned (.bool false)) ∧ w' = w := by
  have l0 := h0.lec
  have m0 := h0.max
  have l0' := h0'.lec
  have m0' := h0'.max
  have l1 := h1.lec
  have m1 := h1.max
  have l1' := h1'.lec
  have m1' := h1'.max
  unfold maxLen at m0 m0' m1 m1'
  go_enter Try.func29, Try.ntmps29
  go_wp2
  all_goals first | (go_ret; exact ⟨.inr rfl, rfl⟩) | skip
  go_loop [13, 14] (fun t i => ∃ k m : Nat, k ≤ n0 ∧ m ≤ 1048576 ∧ i = .int .i64 k ∧ t = .int .i64 m) (fun _ i => n0 - (intOf i).toNat)
  case atStart => exact ⟨0, n0, by omega, by omega, rfl, by go_num⟩
  case round =>
    obtain ⟨k0, q0, hk0, hq0, rfl, rfl⟩ := hrel
    by_cases hlt0 : k0 < n0
    · obtain ⟨b, off, rfl, hb, hc⟩ := h0.at (by omega)
      have hl := h0.len
      have hcell := hc k0 (by omega)
      have hsz := h0.each _ (List.getElem_mem (show k0 < s0.length by omega))
      unfold maxLen at hsz
      clear hc
      go_wp2
      · go_ret
        exact ⟨.inr rfl, rfl⟩
      · go_ret
        exact ⟨.inr rfl, rfl⟩
      · go_round
        case rel => exact ⟨k0 + 1, q0 + (s0[k0]'(by omega)).size, by omega, by omega, by go_num, by go_num⟩
        case measure => simp [intOf]; omega
    · skip
      go_wp2
      all_goals first | (go_ret; exact ⟨.inr rfl, rfl⟩) | skip
      go_loop [13, 15] (fun t i => ∃ k m : Nat, k ≤ n1 ∧ m ≤ 1048576 ∧ i = .int .i64 k ∧ t = .int .i64 m) (fun _ i => n1 - (intOf i).toNat)
      case atStart => exact ⟨0, q0 + n0' + n1, by omega, by omega, rfl, by go_num⟩
      case round =>
        obtain ⟨k1, q1, hk1, hq1, rfl, rfl⟩ := hrel
        by_cases hlt1 : k1 < n1
        · obtain ⟨b, off, rfl, hb, hc⟩ := h1.at (by omega)
          have hl := h1.len
          have hcell := hc k1 (by omega)
          have hsz := h1.each _ (List.getElem_mem (show k1 < s1.length by omega))
          unfold maxLen at hsz
          clear hc
          go_wp2
          · go_ret
            exact ⟨.inr rfl, rfl⟩
          · go_ret
            exact ⟨.inr rfl, rfl⟩
          · go_round
            case rel => exact ⟨k1 + 1, q1 + (s1[k1]'(by omega)).size, by omega, by omega, by go_num, by go_num⟩
            case measure => simp [intOf]; omega
        · skip
          go_wp2
          all_goals first | (go_ret; exact ⟨.inr rfl, rfl⟩) | (go_ret; exact ⟨.inl rfl, rfl⟩)

set_option maxHeartbeats 1600000 in
theorem zzBytes20 (a0 a0' : Option Addr) (n0 c0 n0' c0' : Nat) (s0 : List ByteArray) (z0 : List Int) (a1 a1' : Option Addr) (n1 c1 n1' c1' : Nat) (s1 : List ByteArray) (z1 : List Int) (a2 a2' : Option Addr) (n2 c2 n2' c2' : Nat) (s2 : List ByteArray) (z2 : List Int) (w : World) (h0 : Strs w a0 n0 c0 s0) (h0' : Ints w a0' n0' c0' z0) (h1 : Strs w a1 n1 c1 s1) (h1' : Ints w a1' n1' c1' z1) (h2 : Strs w a2 n2 c2 s2) (h2' : Ints w a2' n2' c2' z2) :
    Calls Try.prog 20 #[.slice a0 n0 c0, .slice a0' n0' c0', .slice a1 n1 c1, .slice a1' n1' c1', .slice a2 n2 c2, .slice a2' n2' c2'] w fun e w' => (e = .returned (.bool true) ∨ e = .returned (.bool false)) ∧ w' = w := by
  have l0 := h0.lec
  have m0 := h0.max
  have l0' := h0'.lec
  have m0' := h0'.max
  have l1 := h1.lec
  have m1 := h1.max
  have l1' := h1'.lec
  have m1' := h1'.max
  have l2 := h2.lec
  have m2 := h2.max
  have l2' := h2'.lec
  have m2' := h2'.max
  unfold maxLen at m0 m0' m1 m1' m2 m2'
  go_enter Try.func20, Try.ntmps20
  go_wp2
  all_goals first | (go_ret; exact ⟨.inr rfl, rfl⟩) | skip
  go_loop [13, 14] (fun t i => ∃ k m : Nat, k ≤ n0 ∧ m ≤ 1048576 ∧ i = .int .i64 k ∧ t = .int .i64 m) (fun _ i => n0 - (intOf i).toNat)
  case atStart => exact ⟨0, n0, by omega, by omega, rfl, by go_num⟩
  case round =>
    obtain ⟨k0, q0, hk0, hq0, rfl, rfl⟩ := hrel
    by_cases hlt0 : k0 < n0
    · obtain ⟨b, off, rfl, hb, hc⟩ := h0.at (by omega)
      have hl := h0.len
      have hcell := hc k0 (by omega)
      have hsz := h0.each _ (List.getElem_mem (show k0 < s0.length by omega))
      unfold maxLen at hsz
      clear hc
      go_wp2
      · go_ret
        exact ⟨.inr rfl, rfl⟩
      · go_ret
        exact ⟨.inr rfl, rfl⟩
      · go_round
        case rel => exact ⟨k0 + 1, q0 + (s0[k0]'(by omega)).size, by omega, by omega, by go_num, by go_num⟩
        case measure => simp [intOf]; omega
    · skip
      go_wp2
      all_goals first | (go_ret; exact ⟨.inr rfl, rfl⟩) | skip
      go_loop [13, 15] (fun t i => ∃ k m : Nat, k ≤ n1 ∧ m ≤ 1048576 ∧ i = .int .i64 k ∧ t = .int .i64 m) (fun _ i => n1 - (intOf i).toNat)
      case atStart => exact ⟨0, q0 + n0' + n1, by omega, by omega, rfl, by go_num⟩
      case round =>
        obtain ⟨k1, q1, hk1, hq1, rfl, rfl⟩ := hrel
        by_cases hlt1 : k1 < n1
        · obtain ⟨b, off, rfl, hb, hc⟩ := h1.at (by omega)
          have hl := h1.len
          have hcell := hc k1 (by omega)
          have hsz := h1.each _ (List.getElem_mem (show k1 < s1.length by omega))
          unfold maxLen at hsz
          clear hc
          go_wp2
          · go_ret
            exact ⟨.inr rfl, rfl⟩
          · go_ret
            exact ⟨.inr rfl, rfl⟩
          · go_round
            case rel => exact ⟨k1 + 1, q1 + (s1[k1]'(by omega)).size, by omega, by omega, by go_num, by go_num⟩
            case measure => simp [intOf]; omega
        · skip
          go_wp2
          all_goals first | (go_ret; exact ⟨.inr rfl, rfl⟩) | skip
          go_loop [13, 16] (fun t i => ∃ k m : Nat, k ≤ n2 ∧ m ≤ 1048576 ∧ i = .int .i64 k ∧ t = .int .i64 m) (fun _ i => n2 - (intOf i).toNat)
          case atStart => exact ⟨0, q1 + n1' + n2, by omega, by omega, rfl, by go_num⟩
          case round =>
            obtain ⟨k2, q2, hk2, hq2, rfl, rfl⟩ := hrel
            by_cases hlt2 : k2 < n2
            · obtain ⟨b, off, rfl, hb, hc⟩ := h2.at (by omega)
              have hl := h2.len
              have hcell := hc k2 (by omega)
              have hsz := h2.each _ (List.getElem_mem (show k2 < s2.length by omega))
              unfold maxLen at hsz
              clear hc
              go_wp2
              · go_ret
                exact ⟨.inr rfl, rfl⟩
              · go_ret
                exact ⟨.inr rfl, rfl⟩
              · go_round
                case rel => exact ⟨k2 + 1, q2 + (s2[k2]'(by omega)).size, by omega, by omega, by go_num, by go_num⟩
                case measure => simp [intOf]; omega
            · skip
              go_wp2
              all_goals first | (go_ret; exact ⟨.inr rfl, rfl⟩) | (go_ret; exact ⟨.inl rfl, rfl⟩)

end Go.Proofs.Qxb6600413a
