import Derived.Test.Qxb6600413aW1
import Derived.OwnWalk
import Derived.RegionTactic
import Derived.BigRegion
import Derived.Laws.OwnMore
import Derived.Outline
namespace Go.Proofs.Qxb6600413a
open Go.RowKit

theorem Try.info47 : (Try.prog.info? 47).map (fun i => (i.zero, i.size, i.bytes)) = some (some (.agg #[.string ByteArray.empty, .int .u64 0]), 2, 24) := by kernel_rfl
theorem Try.info9 : (Try.prog.info? 9).map (fun i => (i.zero, i.size, i.bytes)) = some (some (.string ByteArray.empty), 1, 16) := by kernel_rfl
theorem Try.info34 : (Try.prog.info? 34).map (fun i => (i.zero, i.size, i.bytes)) = some (some (.int .u64 0), 1, 8) := by kernel_rfl

theorem ents_of {w : World} {g n base : Nat} {zs : List Value} {ss : List ByteArray} {ns : List Int} (h : w.ownsRow base 47 2 (.slice (some ⟨g, 0, none⟩) n n) n zs) (l : ss.length = n) (l' : ns.length = n)
    (R : ∀ j, j < n * 2 → zs[j]? = (entV (vec ss ns))[j]?) (e1 : ∀ s ∈ ss, s.size ≤ maxLen) (e2 : ∀ z ∈ ns, 0 ≤ z ∧ z < 18446744073709551616) (hm : n ≤ maxLen) : Ents w g 0 n n (vec ss ns) := by
  have hv : (vec ss ns).length = n := by simp [vec]; omega
  refine ⟨hv, Nat.le_refl _, hm, (h.lt g rfl).2, fun i v hi => ?_, ?_⟩
  · have hil : i < n * 2 := by
      have := (List.getElem?_eq_some_iff.1 hi).1
      rw [entV_len, hv] at this; exact this
    rw [Nat.zero_add, h.cellAt i hil, R i hil, hi]
  · intro e he
    exact ⟨e1 _ (List.of_mem_zip he).1, e2 _ (List.of_mem_zip he).2⟩
theorem Ents.setCell {w : World} {b off n c : Nat} {es : List Pl.Ent} (h : Ents w b off n c es) {p : Addr} (hp : p.block ≠ b) (v : Value) : Ents (w.setCell p v) b off n c es :=
  ⟨h.len, h.lec, h.max, by simpa [World.setCell] using h.lt, fun i u hi => (World.cell?_of_block (w := w) (Below.heap_setCell w p v b (Ne.symm hp))).trans (h.cell i u hi), h.each⟩

theorem ent_step {w wr : World} {g n k B : Nat} {zs : List Value} {ss : List ByteArray} {ns : List Int} (h : wr.ownsRow g 47 2 (.slice (some ⟨g, 0, none⟩) n n) n zs) (R : Hid (∀ j, j < k * 2 → zs[j]? = (entV (vec ss ns))[j]?)) (hb : Below B w wr)
    (l : ss.length = n) (l' : ns.length = n) (h1 : k < ss.length) (h2 : k < ns.length) (hg : B ≤ g) :
    ((wr.setCell ⟨g, k * 2, none⟩ (.string (ss[k]'h1))).setCell ⟨g, k * 2 + 1, none⟩ (.int .u64 (ns[k]'h2))).drew.ownsRow g 47 2 (.slice (some ⟨g, 0, none⟩) n n) n ((zs.set (k * 2) (.string (ss[k]'h1))).set (k * 2 + 1) (.int .u64 (ns[k]'h2))) ∧
    Hid (∀ j, j < (k + 1) * 2 → ((zs.set (k * 2) (.string (ss[k]'h1))).set (k * 2 + 1) (.int .u64 (ns[k]'h2)))[j]? = (entV (vec ss ns))[j]?) ∧
    Below B w ((wr.setCell ⟨g, k * 2, none⟩ (.string (ss[k]'h1))).setCell ⟨g, k * 2 + 1, none⟩ (.int .u64 (ns[k]'h2))).drew := by
  refine ⟨((h.stored _ _).1.stored _ _).1.drew, ?_, ((hb.setCell hg _).setCell hg _).drew⟩
  intro j hj
  have hz := h.1
  have hv : k < (vec ss ns).length := by simp [vec]; omega
  have he := entV_at (vec ss ns) k hv
  have e1 : (vec ss ns)[k]'hv = (ss[k]'h1, ns[k]'h2) := by simp [vec]
  rw [e1] at he
  rw [List.getElem?_set]
  by_cases j1 : k * 2 + 1 = j
  · subst j1
    rw [if_pos rfl, he.2, if_pos (by simp; omega)]
  · rw [if_neg j1, List.getElem?_set]
    by_cases j2 : k * 2 = j
    · subst j2
      rw [if_pos rfl, he.1, if_pos (by omega)]
    · rw [if_neg j2]
      exact R.out j (by omega)

set_option maxHeartbeats 800000 in
theorem zzEntries_any (a a' : Option Addr) (n c n' c' : Nat) (ss : List ByteArray) (ns : List Int) (w : World) (hs : Strs w a n c ss) (hn : Ints w a' n' c' ns) (he : n = n') (hsz : n ≤ 1048576) :
    Calls Try.prog 32 #[.slice a n c, .slice a' n' c'] w fun e w' => ∃ b2, e = .returned (.slice (some ⟨b2, 0, none⟩) n n) ∧ Ents w' b2 0 n n (vec ss ns) ∧ w.heap.size ≤ b2 ∧ Below w.heap.size w w' := by
  subst he
  have l0 := hs.len
  have l0' := hn.len
  obtain ⟨i0, hi0, hz0, hz1, hz2⟩ := info_parts Try.info47
  have hmm : min (n : Int) (n : Int) = n := by omega
  go_enter Try.func32, Try.ntmps32
  go_wp2_with (first | (at_make; refine wpList_make_full _ rfl _ _ 27 rfl w.heap.size 47 i0 _ 2 Try.underlying27 hi0 hz0 hz1 _ _ _ _ n rfl rfl (by omega) (by omega) (by rw [hz2]; omega) (by unfold maxLen; omega) (Nat.le_refl _) ?_; intro w1 hown hgrow))
  have hb0 : Below w.heap.size w w1 := (Below.refl _ _).grown hgrow (Nat.le_refl _) (fun k h => by cases h)
  obtain ⟨g, hg⟩ : ∃ g, g = w.heap.size := ⟨_, rfl⟩
  rw [← hg] at hown
  have HG : Hid (g = w.heap.size) := hg
  rw [← hg]
  clear hg hgrow hi0 hz0 hz1 hz2 hmm
  go_loopw [7] (fun i wr => ∃ (k : Nat) (zs : List Value), k ≤ n ∧ i = .int .i64 k ∧ wr.ownsRow g 47 2 (.slice (some ⟨g, 0, none⟩) n n) n zs ∧ Hid (∀ j, j < k * 2 → zs[j]? = (entV (vec ss ns))[j]?) ∧ Below w.heap.size w wr) (fun i _ => n - (intOf i).toNat)
  case atStart => exact ⟨0, _, by omega, rfl, hown, fun j hj => by omega, hb0⟩
  case round =>
    obtain ⟨k, zs, hk, rfl, howr, R, hbr⟩ := hrel
    clear hown hb0
    by_cases hlt : k < n
    · obtain ⟨b, off, rfl, hb, hc⟩ := hs.at (by omega)
      obtain ⟨b', off', rfl, hb', hc'⟩ := hn.at (by omega)
      have hcell : wr.cell? ⟨b, off + k, none⟩ = _ := (hbr.cell (by exact hb)).trans (hc k (by omega))
      have hcell' : wr.cell? ⟨b', off' + k, none⟩ = _ := (hbr.cell (by exact hb')).trans (hc' k (by omega))
      have hl := howr.1
      have z1 := howr.cellAt (k * 2) (by omega)
      have z2 := howr.cellAt (k * 2 + 1) (by omega)
      rw [List.getElem?_eq_getElem (by omega)] at z1 z2
      have f1 := howr.frozenAt (k * 2)
      have f2 := howr.frozenAt (k * 2 + 1)
      have hi1 : (k : Int) < (n : Int) := by omega
      clear hc hc'
      go_wp2
      go_region
      go_wp2
      go_roundw
      case rel =>
        refine ⟨k + 1, ((zs.set (k * 2) (.string (ss[k]'(by omega)))).set (k * 2 + 1) (.int .u64 (ns[k]'(by omega)))), by omega, by go_num, ?_⟩
        exact ent_step howr R hbr (by omega) (by omega) (by omega) (by omega) (by rw [HG.out]; exact Nat.le_refl _)
      case measure => simp [intOf]; omega
    · go_wp2
      go_ret
      refine ⟨_, rfl, ents_of howr (by omega) (by omega) (by have := R.out; rw [show k = n from by omega] at this; exact this) hs.each hn.each (by unfold maxLen; omega), by rw [HG.out]; exact Nat.le_refl _, hbr⟩

theorem zzVector_any (a a' : Option Addr) (n c n' c' : Nat) (ss : List ByteArray) (ns : List Int) (w : World) (hs : Strs w a n c ss) (hn : Ints w a' n' c' ns) (he : n = n') (hsz : n ≤ 1048576) :
    Calls Try.prog 14 #[.slice a n c, .slice a' n' c'] w fun e w' => ∃ b2, e = .returned (.agg #[.slice (some ⟨b2, 0, none⟩) n n]) ∧ Ents w' b2 0 n n (vec ss ns) ∧ w.heap.size ≤ b2 ∧ Below w.heap.size w w' := by
  subst he
  go_enter Try.func14, Try.ntmps14
  go_wp2_with fail
  refine (zzEntries_any a a' n c n c' ss ns _ ?_ ?_ rfl hsz).mono ?_
  · exact hs.below ((Below.refl _ _).alloc (Nat.le_refl _) _) (Nat.le_refl _)
  · exact hn.below ((Below.refl _ _).alloc (Nat.le_refl _) _) (Nat.le_refl _)
  rintro e w1 ⟨b2, rfl, hE, hf, hb⟩
  simp at hf
  have hsz1 := hb.size
  have hc1 := hb.cell (p := ⟨w.heap.size, 0, none⟩) (by simp)
  have hf1 := hb.frozen (p := ⟨w.heap.size, 0, none⟩) (by simp)
  simp at hsz1 hc1 hf1
  go_wp2
  exact bodyPost_ret (v := .agg #[.slice (some ⟨b2, 0, none⟩) n n]) (by simp [results, Try.results14, go_sem, hc1]) rfl
    ⟨b2, rfl, hE.setCell (by show w.heap.size ≠ b2; omega) _, by omega, (((Below.refl _ _).alloc (Nat.le_refl _) _).trans (hb.mono (by simp))).setCell (by simp) _⟩

/-- One cell more of a row of one-cell elements. -/
theorem row_step {zs us : List Value} {k : Nat} {v : Value} (R : Hid (∀ j, j < k → zs[j]? = us[j]?)) (hk : k < zs.length) (hv : us[k]? = some v) : Hid (∀ j, j < k + 1 → (zs.set k v)[j]? = us[j]?) := by
  intro j hj
  rw [List.getElem?_set]
  by_cases e : k = j
  · subst e; rw [if_pos rfl, if_pos hk, hv]
  · rw [if_neg e]; exact R.out j (by omega)
theorem strV_map_fst (es : List Pl.Ent) (k : Nat) (hk : k < es.length) : (strV (es.map Prod.fst))[k]? = some (.string (es[k]'hk).1) := by simp [strV, hk]
theorem intV_map_snd (es : List Pl.Ent) (k : Nat) (hk : k < es.length) : (intV (es.map Prod.snd))[k]? = some (.int .u64 (es[k]'hk).2) := by simp [intV, hk]
theorem row_of {w : World} {base e g n : Nat} {zs us : List Value} (h : w.ownsRow base e 1 (.slice (some ⟨g, 0, none⟩) n n) n zs) (l : us.length = n) (R : ∀ j, j < n → zs[j]? = us[j]?) : Row w (some ⟨g, 0, none⟩) us := by
  by_cases h0 : n = 0
  · exact .inl (List.eq_nil_of_length_eq_zero (by omega))
  · refine .inr ⟨g, 0, rfl, (h.lt g rfl).2, fun i v hi => ?_⟩
    have hil : i < n := by
      have := (List.getElem?_eq_some_iff.1 hi).1
      omega
    rw [Nat.zero_add, h.cellAt i (by omega), R i hil, hi]

set_option maxHeartbeats 400000 in
theorem zzVectorIDs_any (b off n c : Nat) (es : List Pl.Ent) (w : World) (hE : Ents w b off n c es) (hsz : n ≤ 4194304) :
    Calls Try.prog 16 #[.agg #[.slice (some ⟨b, off, none⟩) n c]] w fun e w' => ∃ a2, e = .returned (.slice a2 n n) ∧ Strs w' a2 n n (es.map Prod.fst) ∧ Below w.heap.size w w' := by
  have l0 := hE.len
  obtain ⟨i0, hi0, hz0, hz1, hz2⟩ := info_parts Try.info9
  go_enter Try.func16, Try.ntmps16
  go_wp2_with (first | (at_make; refine wpList_make_full _ rfl _ _ 22 rfl (w.heap.size + 1) 9 i0 _ 1 Try.underlying22 hi0 hz0 hz1 _ _ _ _ n rfl rfl (by omega) (by omega) (by rw [hz2]; omega) (by unfold maxLen; omega) (by simp) ?_; intro w1 hown hgrow))
  have hc1 : w1.cell? ⟨w.heap.size, 0, none⟩ = some (.slice (some ⟨b, off, none⟩) n c) := hgrow.cell (by simp) (by simp)
  have hb0 : Below w.heap.size w w1 := ((Below.refl _ _).alloc (Nat.le_refl _) _).grown hgrow (by simp) (fun k h => by cases h)
  obtain ⟨zs0, hown0⟩ : ∃ zs0, w1.ownsRow (w.heap.size + 1) 9 1 (.slice (some ⟨w.heap.size + 1, 0, none⟩) n n) n zs0 := ⟨_, by rw [show (w.alloc (Obj.cells #[Value.slice (some ⟨b, off, none⟩) n c] 29)).heap.size = w.heap.size + 1 from by simp] at hown; exact hown⟩
  clear hgrow hi0 hz0 hz1 hz2 hown
  go_loopw [4] (fun i wr => ∃ (k : Nat) (zs : List Value), k ≤ n ∧ i = .int .i64 k ∧ wr.ownsRow (w.heap.size + 1) 9 1 (.slice (some ⟨w.heap.size + 1, 0, none⟩) n n) n zs ∧ Hid (∀ j, j < k → zs[j]? = (strV (es.map Prod.fst))[j]?) ∧ wr.cell? ⟨w.heap.size, 0, none⟩ = some (.slice (some ⟨b, off, none⟩) n c) ∧ Below w.heap.size w wr) (fun i _ => n - (intOf i).toNat)
  case atStart => exact ⟨0, zs0, by omega, rfl, hown0, fun j hj => by omega, hc1, hb0⟩
  case round =>
    obtain ⟨k, zs, hk, rfl, howr, R, hcr, hbr⟩ := hrel
    clear hown0 hb0 hc1
    by_cases hlt : k < n
    · have hb := hE.lt
      have hc := hE.at
      have hcell : wr.cell? ⟨b, off + k * 2, none⟩ = _ := (hbr.cell (by exact hb)).trans (hc k (by omega)).1
      have hl := howr.1
      have z1 := howr.cellAt k (by omega)
      rw [List.getElem?_eq_getElem (by omega)] at z1
      have f1 := howr.frozenAt k
      clear hc
      go_wp2
      go_roundw
      case rel => exact ⟨k + 1, _, by omega, by go_num, (howr.stored _ _).1, row_step R (by rw [howr.1]; omega) (strV_map_fst _ _ _), (howr.stored _ _).2.cell hcr (by simp), hbr.setCell (by simp) _⟩
      case measure => simp [intOf]; omega
    · go_wp2
      go_ret
      refine ⟨_, rfl, ⟨by simpa using l0, Nat.le_refl _, by unfold maxLen; omega, ?_, nofun, ?_⟩, hbr⟩
      · exact row_of howr (by rw [strV_len]; simpa using l0) (by rw [show n = k from by omega]; exact R.out)
      · intro s hs
        obtain ⟨e, he, rfl⟩ := List.mem_map.1 hs
        exact (hE.each e he).1

set_option maxHeartbeats 400000 in
theorem zzVectorCounts_any (b off n c : Nat) (es : List Pl.Ent) (w : World) (hE : Ents w b off n c es) (hsz : n ≤ 4194304) :
    Calls Try.prog 17 #[.agg #[.slice (some ⟨b, off, none⟩) n c]] w fun e w' => ∃ a2, e = .returned (.slice a2 n n) ∧ Ints w' a2 n n (es.map Prod.snd) ∧ Below w.heap.size w w' := by
  have l0 := hE.len
  obtain ⟨i0, hi0, hz0, hz1, hz2⟩ := info_parts Try.info34
  go_enter Try.func17, Try.ntmps17
  go_wp2_with (first | (at_make; refine wpList_make_full _ rfl _ _ 23 rfl (w.heap.size + 1) 34 i0 _ 1 Try.underlying23 hi0 hz0 hz1 _ _ _ _ n rfl rfl (by omega) (by omega) (by rw [hz2]; omega) (by unfold maxLen; omega) (by simp) ?_; intro w1 hown hgrow))
  have hc1 : w1.cell? ⟨w.heap.size, 0, none⟩ = some (.slice (some ⟨b, off, none⟩) n c) := hgrow.cell (by simp) (by simp)
  have hb0 : Below w.heap.size w w1 := ((Below.refl _ _).alloc (Nat.le_refl _) _).grown hgrow (by simp) (fun k h => by cases h)
  obtain ⟨zs0, hown0⟩ : ∃ zs0, w1.ownsRow (w.heap.size + 1) 34 1 (.slice (some ⟨w.heap.size + 1, 0, none⟩) n n) n zs0 := ⟨_, by rw [show (w.alloc (Obj.cells #[Value.slice (some ⟨b, off, none⟩) n c] 29)).heap.size = w.heap.size + 1 from by simp] at hown; exact hown⟩
  clear hgrow hi0 hz0 hz1 hz2 hown
  go_loopw [4] (fun i wr => ∃ (k : Nat) (zs : List Value), k ≤ n ∧ i = .int .i64 k ∧ wr.ownsRow (w.heap.size + 1) 34 1 (.slice (some ⟨w.heap.size + 1, 0, none⟩) n n) n zs ∧ Hid (∀ j, j < k → zs[j]? = (intV (es.map Prod.snd))[j]?) ∧ wr.cell? ⟨w.heap.size, 0, none⟩ = some (.slice (some ⟨b, off, none⟩) n c) ∧ Below w.heap.size w wr) (fun i _ => n - (intOf i).toNat)
  case atStart => exact ⟨0, zs0, by omega, rfl, hown0, fun j hj => by omega, hc1, hb0⟩
  case round =>
    obtain ⟨k, zs, hk, rfl, howr, R, hcr, hbr⟩ := hrel
    clear hown0 hb0 hc1
    by_cases hlt : k < n
    · have hb := hE.lt
      have hc := hE.at
      have hcell : wr.cell? ⟨b, off + k * 2 + 1, none⟩ = _ := (hbr.cell (by exact hb)).trans (hc k (by omega)).2
      have hl := howr.1
      have z1 := howr.cellAt k (by omega)
      rw [List.getElem?_eq_getElem (by omega)] at z1
      have f1 := howr.frozenAt k
      clear hc
      go_wp2
      go_roundw
      case rel => exact ⟨k + 1, _, by omega, by go_num, (howr.stored _ _).1, row_step R (by rw [howr.1]; omega) (intV_map_snd _ _ _), (howr.stored _ _).2.cell hcr (by simp), hbr.setCell (by simp) _⟩
      case measure => simp [intOf]; omega
    · go_wp2
      go_ret
      refine ⟨_, rfl, ⟨by simpa using l0, Nat.le_refl _, by unfold maxLen; omega, ?_, nofun, ?_⟩, hbr⟩
      · exact row_of howr (by rw [intV_len]; simpa using l0) (by rw [show n = k from by omega]; exact R.out)
      · intro s hs
        obtain ⟨e, he, rfl⟩ := List.mem_map.1 hs
        exact (hE.each e he).2

end Go.Proofs.Qxb6600413a
