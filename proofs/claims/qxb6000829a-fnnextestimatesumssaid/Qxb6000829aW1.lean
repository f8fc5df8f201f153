/-
  The walks of the callees: zzBytes, zzCountsOrUncounted, zzMinInt, Estimate, zzCloneInts, Next.
-/
import Derived.Test.Qxb6000829aChecked
import Derived.Test.Qxb6000829aBase
import Derived.Deep.QuietTactic
import Derived.BigQuiet
import Derived.Deep.DeepCutAuto
import Derived.Lib.SliceRun
namespace Go.Proofs.Qxb6000829a
open Go.RowKit

theorem ret_int {k : IntKind} {a b : Int} (h : a = b) : Ending.returned (.int k a) = .returned (.int k b) := by rw [h]

theorem zzBytes_any (a0 a2 : Option Addr) (n0 c0 n2 c2 : Nat) (own : Int) (s0 s2 : List Int) (w : World) (h0 : Ints w a0 n0 c0 s0) (h2 : Ints w a2 n2 c2 s2) :
    Calls Try.prog 13 #[.slice a0 n0 c0, .int .i64 own, .slice a2 n2 c2] w fun e w' => (e = .returned (.bool true) ∨ e = .returned (.bool false)) ∧ w' = w := by
  have l0 := h0.lec
  have m0 := h0.max
  have l2 := h2.lec
  have m2 := h2.max
  unfold maxLen at m0 m2
  go_enter Try.func13, Try.ntmps13
  go_wp2
  all_goals first | (go_ret; exact ⟨.inr rfl, rfl⟩) | (go_ret; exact ⟨.inl rfl, rfl⟩)

/-- It answers a bool: true only where every entry is a count or Uncounted. -/
def SaysFits (s : List Int) (e : Ending) : Prop := ∃ b : Bool, e = .returned (.bool b) ∧ (b = true → ∀ z ∈ s, -1 ≤ z)
/-- It answers a number and a bool, as Estimate does. -/
def SaysEst (s : List Int) (d : Nat) (e : Ending) : Prop := ∃ v ok, e = .returned (.tuple #[.int .i64 v, .bool ok]) ∧ Est s d v ok

theorem counts_any (a0 : Option Addr) (n0 c0 : Nat) (s0 : List Int) (w : World) (h0 : Ints w a0 n0 c0 s0) :
    Calls Try.prog 14 #[.slice a0 n0 c0] w fun e w' => SaysFits s0 e ∧ w' = w := by
  have l := h0.len
  have l0 := h0.lec
  have m0 := h0.max
  unfold maxLen at m0
  go_enter Try.func14, Try.ntmps14
  go_wp2
  go_loop [3] (fun i => ∃ k : Nat, k ≤ n0 ∧ i = .int .i64 k ∧ Hid (∀ i (h : i < s0.length), i < k → -1 ≤ s0[i])) (fun i => n0 - (intOf i).toNat)
  case atStart => exact ⟨0, by omega, rfl, fun _ _ h => by omega⟩
  case round =>
    obtain ⟨k, hk, rfl, R⟩ := hrel
    by_cases hlt : k < n0
    · obtain ⟨b, off, rfl, hb, hc⟩ := h0.at (by omega)
      have hcell := hc k (by omega)
      clear hc
      by_cases hz : s0[k]'(by omega) < -1
      · go_wp2
        go_ret
        exact ⟨⟨false, rfl, nofun⟩, rfl⟩
      · have R1 : Hid (∀ i (h : i < s0.length), i < k + 1 → -1 ≤ s0[i]) := by
          intro i hi hik
          by_cases e : i = k
          · subst e; omega
          · exact R.out i hi (by omega)
        go_wp2
        go_round
        case rel => exact ⟨k + 1, by omega, by go_num, R1⟩
        case measure => simp [intOf]; omega
    · go_wp2
      go_ret
      refine ⟨⟨true, rfl, fun _ z hz => ?_⟩, rfl⟩
      obtain ⟨i, hi, rfl⟩ := List.getElem_of_mem hz
      exact R.out i hi (by omega)

theorem min_any (a b : Int) (w : World) : Calls Try.prog 15 #[.int .i64 a, .int .i64 b] w fun e w' => e = .returned (.int .i64 (min a b)) ∧ w' = w := by
  by_cases h : a < b
  · go_enter Try.func15, Try.ntmps15
    go_wp2
    go_ret
    exact ⟨ret_int (by omega), rfl⟩
  · go_enter Try.func15, Try.ntmps15
    go_wp2
    go_ret
    exact ⟨ret_int (by omega), rfl⟩

theorem est_any (a0 : Option Addr) (n0 c0 d : Nat) (s0 : List Int) (w : World) (h0 : Ints w a0 n0 c0 s0) :
    Calls Try.prog 16 #[.slice a0 n0 c0, .int .i64 d] w fun e w' => SaysEst s0 d e ∧ w' = w := by
  have l := h0.len
  by_cases hd : n0 ≤ d
  · have hd' : (n0 : Int) ≤ (d : Int) := by omega
    go_enter Try.func16, Try.ntmps16
    go_wp2
    go_ret2
    exact ⟨⟨0, false, rfl, .inr ⟨rfl, rfl, fun h => by omega⟩⟩, rfl⟩
  · have hd' : ¬ (n0 : Int) ≤ (d : Int) := by omega
    obtain ⟨b, off, rfl, hb, hc⟩ := h0.at (by omega)
    have hcell := hc d (by omega)
    clear hc
    by_cases hz : s0[d]'(by omega) = -1
    · have hz' : (s0[d]'(by omega) == -1) = true := by simpa using hz
      have HZ : Hid _ := hz
      clear hz
      go_enter Try.func16, Try.ntmps16
      go_wp2
      go_ret2
      exact ⟨⟨0, false, rfl, .inr ⟨rfl, rfl, fun _ => HZ.out⟩⟩, rfl⟩
    · have hz' : (s0[d]'(by omega) == -1) = false := by simpa using hz
      go_enter Try.func16, Try.ntmps16
      go_wp2
      go_ret2
      exact ⟨⟨s0[d]'(by omega), true, rfl, .inl ⟨rfl, by omega, rfl, hz⟩⟩, rfl⟩

theorem est_at (a0 : Option Addr) (n0 c0 d : Nat) (D : Int) (s0 : List Int) (w : World) (h0 : Ints w a0 n0 c0 s0) (hD : D = (d : Int)) :
    Calls Try.prog 16 #[.slice a0 n0 c0, .int .i64 D] w fun e w' => SaysEst s0 d e ∧ w' = w := by
  subst hD; exact est_any a0 n0 c0 d s0 w h0

theorem Try.info3 : (Try.prog.info? 3).map (fun i => (i.zero, i.size, i.bytes)) = some (some (.int .i64 0), 1, 8) := by kernel_rfl

/-- One cell more of a row. -/
theorem row_step {zs us : List Value} {k : Nat} {v : Value} (R : Hid (∀ j, j < k → zs[j]? = us[j]?)) (hk : k < zs.length) (hv : us[k]? = some v) : Hid (∀ j, j < k + 1 → (zs.set k v)[j]? = us[j]?) := by
  intro j hj
  rw [List.getElem?_set]
  by_cases e : k = j
  · subst e; rw [if_pos rfl, if_pos hk, hv]
  · rw [if_neg e]; exact R.out j (by omega)
theorem row_of {w : World} {base e g n c : Nat} {zs us : List Value} (h : w.ownsRow base e 1 (.slice (some ⟨g, 0, none⟩) n c) n zs) (l : us.length = n) (R : ∀ j, j < n → zs[j]? = us[j]?) : Row w (some ⟨g, 0, none⟩) us := by
  by_cases h0 : n = 0
  · exact .inl (List.eq_nil_of_length_eq_zero (by omega))
  · refine .inr ⟨g, 0, rfl, (h.lt g rfl).2, fun i v hi => ?_⟩
    have hil : i < n := by
      have := (List.getElem?_eq_some_iff.1 hi).1
      omega
    rw [Nat.zero_add, h.cellAt i (by omega), R i hil, hi]
theorem intV_at (ns : List Int) (k : Nat) (hk : k < ns.length) : (intV ns)[k]? = some (.int .i64 (ns[k]'hk)) := by simp [intV, hk]

set_option maxHeartbeats 400000 in
theorem clone_any (a0 : Option Addr) (n0 c0 : Nat) (s0 : List Int) (w : World) (h0 : Ints w a0 n0 c0 s0) (hn : n0 ≤ 65536) :
    Calls Try.prog 10 #[.slice a0 n0 c0] w fun e w' => ∃ a c, e = .returned (.slice a n0 c) ∧ Ints w' a n0 c s0 ∧ Below w.heap.size w w' := by
  have l := h0.len
  have q22 := fun (w : World) (a : Option Addr) (n c n' c' : Nat) => Lib.run_eql_slice_nil (P := Try.prog) w 22 3 a n c n' c' Try.underlying22
  obtain ⟨i3, hi3, hz3, hs3, hy3⟩ := info_parts Try.info3
  cases a0 with
  | none =>
    have hc := h0.nil rfl
    have hl := h0.lec
    obtain rfl : n0 = 0 := by omega
    go_enter Try.func10, Try.ntmps10
    go_wp2
    go_ret
    exact ⟨none, 0, rfl, ⟨l, Nat.le_refl _, Nat.zero_le _, .inl (by rw [List.eq_nil_of_length_eq_zero l]; rfl), fun _ => rfl⟩, Below.refl _ _⟩
  | some ad =>
    go_enter Try.func10, Try.ntmps10
    go_wp2_with (at_make; refine wpList_make_full _ rfl _ _ 22 rfl w.heap.size 3 i3 _ 1 Try.underlying22 hi3 hz3 hs3 _ _ _ _ n0 rfl rfl rfl rfl (by rw [hy3]; omega) (by unfold maxLen; omega) (Nat.le_refl _) ?_; intro w1 hown hgrow)
    have hb0 : Below w.heap.size w w1 := (Below.refl _ _).grown hgrow (Nat.le_refl _) (fun k h => by cases h)
    clear hgrow hi3 hz3 hs3 hy3 q22
    go_loopw [4] (fun i wr => ∃ (k : Nat) (zs : List Value), k ≤ n0 ∧ i = .int .i64 k ∧ wr.ownsRow w.heap.size 3 1 (.slice (some ⟨w.heap.size, 0, none⟩) n0 n0) n0 zs ∧ Hid (∀ j, j < k → zs[j]? = (intV s0)[j]?) ∧ Below w.heap.size w wr) (fun i _ => n0 - (intOf i).toNat)
    case atStart => exact ⟨0, _, by omega, rfl, hown, fun j hj => by omega, hb0⟩
    case round =>
      obtain ⟨k, zs, hk, rfl, howr, R, hbr⟩ := hrel
      clear hown hb0
      by_cases hlt : k < n0
      · obtain ⟨b, off, had, hb, hc⟩ := h0.at (by omega)
        obtain rfl : ad = ⟨b, off, none⟩ := by simpa using had
        have hcell : wr.cell? ⟨b, off + k, none⟩ = _ := (hbr.cell (by exact hb)).trans (hc k (by omega))
        have hl := howr.1
        have z1 := howr.cellAt k (by omega)
        rw [List.getElem?_eq_getElem (by omega)] at z1
        have f1 := howr.frozenAt k
        clear hc had
        go_wp2
        go_roundw
        case rel => exact ⟨k + 1, _, by omega, by go_num, (howr.stored _ _).1, row_step R (by rw [howr.1]; omega) (intV_at _ _ _), hbr.setCell (by simp) _⟩
        case measure => simp [intOf]; omega
      · go_wp2
        go_ret
        exact ⟨_, n0, rfl, ⟨l, Nat.le_refl _, by unfold maxLen; omega, row_of howr (by rw [intV_len]; exact l) (by rw [show n0 = k from by omega]; exact R.out), nofun⟩, hbr⟩

end Go.Proofs.Qxb6000829a
