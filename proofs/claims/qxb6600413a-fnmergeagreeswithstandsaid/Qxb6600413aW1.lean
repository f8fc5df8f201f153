import Derived.Test.Qxb6600413aChecked
import Derived.Test.Qxb6600413aBase
import Derived.Outline
import Derived.Deep.QuietTactic
import Derived.BigQuiet
namespace Go.Proofs.Qxb6600413a
open Go.RowKit

theorem ret_int {k : IntKind} {a b : Int} (h : a = b) : Ending.returned (.int k a) = .returned (.int k b) := by rw [h]

theorem zMax_any (a b : Int) (w : World) : Calls Try.prog 18 #[.int .u64 a, .int .u64 b] w fun e w' => e = .returned (.int .u64 (max a b)) ∧ w' = w := by
  by_cases h : b < a
  · go_enter Try.func18, Try.ntmps18
    go_wp2
    go_ret
    exact ⟨ret_int (by omega), rfl⟩
  · go_enter Try.func18, Try.ntmps18
    go_wp2
    go_ret
    exact ⟨ret_int (by omega), rfl⟩

theorem zSettled_any (f s : Int) (w : World) : Calls Try.prog 35 #[.int .u8 f, .int .u8 s] w fun e w' => e = .returned (.bool (Pl.stl f s)) ∧ w' = w := by
  by_cases h : bits BinOp.and IntKind.u8 f s = 0
  · go_enter Try.func35, Try.ntmps35
    go_wp2
    go_ret
    exact ⟨by simp [Pl.stl, Pl.and8, h], rfl⟩
  · go_enter Try.func35, Try.ntmps35
    go_wp2
    go_ret
    exact ⟨by simp [Pl.stl, Pl.and8, h], rfl⟩

theorem settled_any (f s : Int) (w : World) : Calls Try.prog 37 #[.int .u8 f, .int .u8 s] w fun e w' => e = .returned (.bool (Pl.stl f s)) ∧ w' = w := by
  by_cases h : bits BinOp.and IntKind.u8 f s = 0
  · go_enter Try.func37, Try.ntmps37
    go_wp2
    go_ret
    exact ⟨by simp [Pl.stl, Pl.and8, h], rfl⟩
  · go_enter Try.func37, Try.ntmps37
    go_wp2
    go_ret
    exact ⟨by simp [Pl.stl, Pl.and8, h], rfl⟩

theorem zSize_any (a a' : Option Addr) (n c n' c' : Nat) (ss : List ByteArray) (ns : List Int) (w : World) (hs : Strs w a n c ss) (hn : Ints w a' n' c' ns) :
    Calls Try.prog 12 #[.slice a n c, .slice a' n' c'] w fun e w' => ∃ t : Nat, e = .returned (.int .i64 t) ∧ t ≤ 1048577 ∧ (t ≤ 1048576 → 16 * n + 8 * n' ≤ 1048576) ∧ w' = w := by
  have l1 := hs.lec
  have l2 := hs.max
  have l3 := hn.lec
  have l4 := hn.max
  unfold maxLen at l2 l4
  by_cases h1 : 1048576 < n
  · go_enter Try.func12, Try.ntmps12
    go_wp2
    go_ret
    exact ⟨1048577, rfl, by omega, by omega, rfl⟩
  by_cases h2 : 1048576 < n'
  · go_enter Try.func12, Try.ntmps12
    go_wp2
    go_ret
    exact ⟨1048577, rfl, by omega, by omega, rfl⟩
  by_cases h3 : 1048576 < 16 * n + 8 * n'
  · go_enter Try.func12, Try.ntmps12
    go_wp2
    go_ret
    exact ⟨1048577, rfl, by omega, by omega, rfl⟩
  go_enter Try.func12, Try.ntmps12
  go_wp2
  go_loop [5, 6] (fun t i => ∃ k m : Nat, k ≤ n ∧ m ≤ 1048576 ∧ i = .int .i64 k ∧ t = .int .i64 m) (fun _ i => n - (intOf i).toNat)
  case atStart => exact ⟨0, 16 * n + 8 * n', by omega, by omega, rfl, by go_num⟩
  case round =>
    obtain ⟨k, m, hk, hm, rfl, rfl⟩ := hrel
    by_cases hlt : k < n
    · obtain ⟨b, off, rfl, hb, hc⟩ := hs.at (by omega)
      have hl := hs.len
      have hcell := hc k (by omega)
      have hsz := hs.each _ (List.getElem_mem (show k < ss.length by omega))
      unfold maxLen at hsz
      go_wp2
      · go_ret
        exact ⟨1048577, rfl, by omega, by omega, rfl⟩
      · go_ret
        exact ⟨1048577, rfl, by omega, by omega, rfl⟩
      · go_round
        case rel => exact ⟨k + 1, m + (ss[k]'(by omega)).size, by omega, by omega, by go_num, by go_num⟩
        case measure => simp [intOf]; omega
    · go_wp2
      go_ret
      exact ⟨m, rfl, by omega, by omega, rfl⟩

/-- As many counters as ids; the ids strictly increasing; no counter 0. -/
def WF (ss : List ByteArray) (ns : List Int) : Prop :=
  ss.length = ns.length ∧ (∀ i (h : i < ns.length), ns[i] ≠ 0) ∧ ∀ i (h : i + 1 < ss.length), Pl.bl (ss[i]'(by omega)) ss[i + 1] = true

theorem bl_no {ss : List ByteArray} {k : Nat} {hk1 : k - 1 < ss.length} {hk : k < ss.length} (h0 : 0 < k) (h : (!Op.bytesLess (ss[k - 1]'hk1).toList (ss[k]'hk).toList) = true) {hk2 : k - 1 + 1 < ss.length} (h2 : Pl.bl (ss[k - 1]'hk1) (ss[k - 1 + 1]'hk2) = true) : False := by
  have e : k - 1 + 1 = k := by omega
  have h3 : Pl.bl (ss[k - 1]'hk1) (ss[k]'hk) = true := by
    have := h2; simp only [e] at this; exact this
  unfold Pl.bl at h3
  rw [h3] at h; cases h
theorem step1 {ns : List Int} {k : Nat} (h : ∀ i (h : i < ns.length), i < k → ns[i] ≠ 0) {hk : k < ns.length} (hz : ¬ ns[k]'hk = 0) : ∀ i (h : i < ns.length), i < k + 1 → ns[i] ≠ 0 := by
  intro i hi hik
  by_cases e : i = k
  · subst e; exact hz
  · exact h i hi (by omega)
theorem step2 {ss : List ByteArray} {k : Nat} (h0 : 0 < k) (h : ∀ i (h : i + 1 < ss.length), i + 1 < k → Pl.bl (ss[i]'(by omega)) ss[i + 1] = true) {hk1 : k - 1 < ss.length} {hk : k < ss.length}
    (hy : (!Op.bytesLess (ss[k - 1]'hk1).toList (ss[k]'hk).toList) = false) : ∀ i (h : i + 1 < ss.length), i + 1 < k + 1 → Pl.bl (ss[i]'(by omega)) ss[i + 1] = true := by
  intro i hi hik
  by_cases e : i + 1 = k
  · subst e
    simpa [Pl.bl] using hy
  · exact h i hi (by omega)

theorem zWellFormed_any (a a' : Option Addr) (n c n' c' : Nat) (ss : List ByteArray) (ns : List Int) (w : World) (hs : Strs w a n c ss) (hn : Ints w a' n' c' ns) :
    Calls Try.prog 13 #[.slice a n c, .slice a' n' c'] w fun e w' => ∃ b : Bool, e = .returned (.bool b) ∧ (b = true ↔ WF ss ns) ∧ ∃ q, w' = w.drewN q := by
  have l0 := hs.len
  have l0' := hn.len
  have l1 := hs.lec
  have l2 := hs.max
  have l3 := hn.lec
  have l4 := hn.max
  unfold maxLen at l2 l4
  by_cases h1 : n = n'
  case neg =>
    go_enter Try.func13, Try.ntmps13
    go_wp2
    go_ret
    exact ⟨false, rfl, ⟨nofun, fun h => by have := h.1; omega⟩, 0, rfl⟩
  subst h1
  go_enter Try.func13, Try.ntmps13
  go_wp2
  go_loopw [5] (fun i wr => ∃ k q : Nat, k ≤ n ∧ wr = w.drewN q ∧ i = .int .i64 k ∧ (∀ i (h : i < ns.length), i < k → ns[i] ≠ 0) ∧ ∀ i (h : i + 1 < ss.length), i + 1 < k → Pl.bl (ss[i]'(by omega)) ss[i + 1] = true) (fun i _ => n - (intOf i).toNat)
  case atStart => exact ⟨0, 0, by omega, rfl, rfl, fun _ _ h => by omega, fun _ _ h => by omega⟩
  case round =>
    obtain ⟨k, q, hk, rfl, rfl, hr1, hr2⟩ := hrel
    have R1 : Hid (∀ i (h : i < ns.length), i < k → ns[i] ≠ 0) := hr1
    have R2 : Hid (∀ i (h : i + 1 < ss.length), i + 1 < k → Pl.bl (ss[i]'(by omega)) ss[i + 1] = true) := hr2
    clear hr1 hr2
    by_cases hlt : k < n
    · obtain ⟨b, off, rfl, hb, hc⟩ := hs.at (by omega)
      obtain ⟨b', off', rfl, hb', hc'⟩ := hn.at (by omega)
      have hcell' := hc' k (by omega)
      by_cases hz : ns[k]'(by omega) = 0
      · clear hc hc'
        go_wp2
        go_ret
        exact ⟨false, rfl, ⟨nofun, fun h => absurd hz (h.2.1 k (by omega))⟩, q, rfl⟩
      · by_cases hk0 : 0 < k
        · have hcell := hc k (by omega)
          have hcellp := hc (k - 1) (by omega)
          clear hc hc'
          go_wp2
          go_quiet (fail)
          go_wp2
          · have hno : (!Op.bytesLess (ss[k - 1]'(by omega)).toList (ss[k]'(by omega)).toList) = true := by assumption
            go_ret
            exact ⟨false, rfl, ⟨nofun, fun h => (bl_no (by omega) hno (h.2.2 (k - 1) (by omega))).elim⟩, _, World.drewN_drewN _ _ _⟩
          · have hyes : (!Op.bytesLess (ss[k - 1]'(by omega)).toList (ss[k]'(by omega)).toList) = false := by assumption
            go_roundw
            case rel => exact ⟨k + 1, _, by omega, rfl, by go_num, step1 R1.out hz, step2 (by omega) R2.out hyes⟩
            case measure => simp [intOf]; omega
        · have hd : decide ((0 : Int) < (k : Int)) = false := decide_eq_false (by omega)
          clear hc hc'
          go_wp2
          go_quiet (fail)
          go_wp2
          go_roundw
          case rel => exact ⟨k + 1, _, by omega, rfl, by go_num, step1 R1.out hz, fun i h hi => by omega⟩
          case measure => simp [intOf]; omega
    · go_wp2
      go_ret
      exact ⟨true, rfl, ⟨fun _ => ⟨by omega, fun i h => R1.out i h (by omega), fun i h => R2.out i h (by omega)⟩, fun _ => rfl⟩, q, rfl⟩

/-- A look-up by place in a sorted vector. -/
def vec (ss : List ByteArray) (ns : List Int) : List Pl.Ent := ss.zip ns
def SrtS (ss : List ByteArray) : Prop := ∀ i j (_ : i < j) (h : j < ss.length), Pl.bl (ss[i]'(by omega)) ss[j] = true
theorem srtS_of {ss : List ByteArray} (h : ∀ i (h : i + 1 < ss.length), Pl.bl (ss[i]'(by omega)) ss[i + 1] = true) : SrtS ss := by
  intro i j hij
  induction j with
  | zero => omega
  | succ j ih =>
    intro hj
    by_cases e : i = j
    · subst e; exact h i hj
    · exact Pl.bl_trans (ih (by omega) (by omega)) (h j hj)
theorem WF.srtS {ss : List ByteArray} {ns : List Int} (h : WF ss ns) : SrtS ss := srtS_of h.2.2
theorem srt_vec {ss : List ByteArray} {ns : List Int} (h : SrtS ss) : Pl.Srt (vec ss ns) := by
  unfold Pl.Srt vec
  rw [List.pairwise_iff_getElem]
  intro i j hi hj hij
  simp only [List.getElem_zip]
  exact h i j hij (by simp at hj; omega)
theorem WF.srt {ss : List ByteArray} {ns : List Int} (h : WF ss ns) : Pl.Srt (vec ss ns) := srt_vec h.srtS
theorem WF.pos {ss : List ByteArray} {ns : List Int} (h : WF ss ns) (hn : ∀ z ∈ ns, 0 ≤ z ∧ z < 18446744073709551616) : Pl.Pos (vec ss ns) := by
  intro e he
  obtain ⟨i, hi, rfl⟩ := List.getElem_of_mem he
  simp only [vec, List.getElem_zip]
  have hi' : i < ns.length := by simp [vec] at hi; omega
  have := h.2.1 i hi'
  have := (hn _ (List.getElem_mem hi')).1
  omega
theorem get_hit {ss : List ByteArray} {ns : List Int} (h : SrtS ss) (hl : ss.length = ns.length) {k : Nat} (h1 : k < ss.length) (h2 : k < ns.length) : Pl.get (vec ss ns) ss[k] = ns[k] := by
  have hm : (ss[k], ns[k]) ∈ vec ss ns := by
    have hk : k < (vec ss ns).length := by simp [vec]; omega
    have e : (vec ss ns)[k] = (ss[k], ns[k]) := by simp [vec]
    rw [← e]; exact List.getElem_mem hk
  exact Pl.get_of_mem (srt_vec h) hm
theorem get_miss {ss : List ByteArray} {ns : List Int} {id : ByteArray} (h : ∀ k (h : k < ss.length), ss[k] ≠ id) : Pl.get (vec ss ns) id = 0 :=
  Pl.get_of_not fun e he => by
    obtain ⟨i, hi, rfl⟩ := List.getElem_of_mem he
    simp only [vec, List.getElem_zip]
    exact h i (by simp [vec] at hi; omega)

theorem find_lo {ss : List ByteArray} {id : ByteArray} (hs : SrtS ss) {m : Nat} (hm : m < ss.length) (hy : Op.bytesLess (ss[m]'hm).toList id.toList = true) : Hid (∀ i (hi : i < ss.length), i < m + 1 → Pl.bl ss[i] id = true) := by
  intro i hi him
  by_cases e : i = m
  · subst e; exact hy
  · exact Pl.bl_trans (hs i m (by omega) hm) hy
theorem find_hi {ss : List ByteArray} {id : ByteArray} (hs : SrtS ss) {m : Nat} (hm : m < ss.length) (hy : Op.bytesLess (ss[m]'hm).toList id.toList = false) : Hid (∀ i (hi : i < ss.length), m ≤ i → Pl.bl ss[i] id = false) := by
  intro i hi him
  by_cases e : i = m
  · subst e; exact hy
  · rw [← Bool.not_eq_true]
    intro h
    have := Pl.bl_trans (hs m i (by omega) hi) h
    unfold Pl.bl at this
    rw [this] at hy; cases hy
theorem find_hit {ss : List ByteArray} {ns : List Int} {id : ByteArray} (hs : SrtS ss) {l : Nat} (h1 : l < ss.length) (h2 : l < ns.length) (hl : ss.length = ns.length) (hy : ((ss[l]'h1).toList == id.toList) = true) : ns[l]'h2 = Pl.get (vec ss ns) id := by
  have e : ss[l]'h1 = id := (Pl.be_iff _ _).1 hy
  rw [← get_hit hs hl h1 h2, e]
theorem find_miss {ss : List ByteArray} {ns : List Int} {id : ByteArray} (hs : SrtS ss) {l h : Nat} (hlh : h ≤ l) (h1 : l < ss.length) (R1 : Hid (∀ i (hi : i < ss.length), i < l → Pl.bl ss[i] id = true)) (R2 : Hid (∀ i (hi : i < ss.length), h ≤ i → Pl.bl ss[i] id = false))
    (hy : ((ss[l]'h1).toList == id.toList) = false) : Pl.get (vec ss ns) id = 0 := by
  refine get_miss fun k hk => ?_
  by_cases h3 : k < l
  · exact Pl.bl_ne (R1.out k hk h3)
  · by_cases e : k = l
    · subst e; exact (Pl.be_false _ _).1 hy
    · have hl : ss[l]'h1 ≠ id := (Pl.be_false _ _).1 hy
      have h4 := Pl.bl_total (R2.out l h1 (by omega)) hl
      exact fun hh => Pl.bl_ne (Pl.bl_trans h4 (hs l k (by omega) hk)) hh.symm
theorem find_none {ss : List ByteArray} {ns : List Int} {id : ByteArray} {l : Nat} (h1 : ss.length ≤ l) (R1 : Hid (∀ i (hi : i < ss.length), i < l → Pl.bl ss[i] id = true)) : Pl.get (vec ss ns) id = 0 :=
  get_miss fun k hk => Pl.bl_ne (R1.out k hk (by omega))

set_option maxHeartbeats 400000 in
theorem zFind_any (a a' : Option Addr) (n c n' c' : Nat) (ss : List ByteArray) (ns : List Int) (id : ByteArray) (w : World) (hs : Strs w a n c ss) (hn : Ints w a' n' c' ns) (he : n = n') (hsrt : SrtS ss) :
    Calls Try.prog 19 #[.slice a n c, .slice a' n' c', .string id] w fun e w' => e = .returned (.int .u64 (Pl.get (vec ss ns) id)) ∧ w' = w := by
  subst he
  have l0 := hs.len
  have l0' := hn.len
  have l1 := hs.lec
  have l2 := hs.max
  have l3 := hn.lec
  have l4 := hn.max
  unfold maxLen at l2 l4
  go_enter Try.func19, Try.ntmps19
  go_wp2
  go_loop [7, 8] (fun lo hi => ∃ l h : Nat, l ≤ h ∧ h ≤ n ∧ lo = .int .i64 l ∧ hi = .int .i64 h ∧ Hid (∀ i (hi : i < ss.length), i < l → Pl.bl ss[i] id = true) ∧ Hid (∀ i (hi : i < ss.length), h ≤ i → Pl.bl ss[i] id = false)) (fun lo hi => (intOf hi).toNat - (intOf lo).toNat)
  case atStart => exact ⟨0, n, by omega, by omega, rfl, rfl, fun i _ h => by omega, fun i h h2 => by omega⟩
  case round =>
    obtain ⟨l, h, hlh, hhn, rfl, rfl, R1, R2⟩ := hrel
    by_cases hlt : l < h
    · obtain ⟨b, off, rfl, hb, hc⟩ := hs.at (by omega)
      have hcell := hc (l + (h - l) / 2) (by omega)
      clear hc
      go_wp2
      · have hy : Op.bytesLess (ss[l + (h - l) / 2]'(by omega)).toList id.toList = true := by assumption
        go_round
        case rel => exact ⟨l + (h - l) / 2 + 1, h, by omega, by omega, by go_num, rfl, find_lo hsrt (by omega) hy, R2⟩
        case measure => simp [intOf]; omega
      · have hy : Op.bytesLess (ss[l + (h - l) / 2]'(by omega)).toList id.toList = false := by assumption
        go_round
        case rel => exact ⟨l, l + (h - l) / 2, by omega, by omega, rfl, by go_num, R1, find_hi hsrt (by omega) hy⟩
        case measure => simp [intOf]; omega
    · by_cases hln : l < n
      · obtain ⟨b, off, rfl, hb, hc⟩ := hs.at (by omega)
        obtain ⟨b', off', rfl, hb', hc'⟩ := hn.at (by omega)
        have hcell := hc l (by omega)
        have hcell' := hc' l (by omega)
        clear hc hc'
        go_wp2
        · have hy : ((ss[l]'(by omega)).toList == id.toList) = true := by assumption
          go_ret
          exact ⟨ret_int (find_hit hsrt (by omega) (by omega) (by omega) hy), rfl⟩
        · have hy : ((ss[l]'(by omega)).toList == id.toList) = false := by assumption
          go_ret
          exact ⟨ret_int (find_miss hsrt (by omega) (by omega) R1 R2 hy).symm, rfl⟩
      · go_wp2
        go_ret
        exact ⟨ret_int (find_none (by omega) R1).symm, rfl⟩

end Go.Proofs.Qxb6600413a
