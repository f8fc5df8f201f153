/-
  The walk of Count.Next.
-/
import Derived.Test.Qxb6000829aW1
namespace Go.Proofs.Qxb6000829a
open Go.RowKit

theorem nxt_len (own : Int) (c r : List Int) : (nxt own c r).length = min c.length r.length + 1 := by simp [nxt]
theorem nxt_at {own : Int} {c r : List Int} {k : Nat} (h1 : k < c.length) (h2 : k < r.length) (h : k + 1 < (nxt own c r).length) : (nxt own c r)[k + 1] = add1 c[k] r[k] := by simp [nxt]
theorem one1 (z : Int) : ∀ u ∈ ([Value.int .i64 z] : List Value), u.oneCell' = true := by
  intro u hu
  simp at hu
  subst hu; rfl
theorem news1 (w : World) (q : Nat) (z : Int) : ∀ j u, ([Value.int .i64 z] : List Value)[j]? = some u → ((w.drewN q).alloc (.cells #[.int .i64 z] 3)).cell? ((⟨w.heap.size, 0, none⟩ : Addr).add j) = some u := by
  intro j u hu
  match j, hu with
  | 0, hu =>
    simp at hu
    subst hu
    show ((w.drewN q).alloc (.cells #[.int .i64 z] 3)).cell? ⟨w.heap.size, 0, none⟩ = _
    rw [World.cell?_alloc_at _ _ _ _ (by simp)]
    rfl
theorem news1' (w : World) (z : Int) : ∀ j u, ([Value.int .i64 z] : List Value)[j]? = some u → (w.alloc (.cells #[.int .i64 z] 3)).cell? ((⟨w.heap.size, 0, none⟩ : Addr).add j) = some u := by
  intro j u hu
  match j, hu with
  | 0, hu => simp at hu; subst hu; simp [Addr.add]
theorem own_snoc {w : World} {v : Value} {base k : Nat} {L : List Int} {S : Int} (h : w.ownsRow base 3 1 v (k + 1 + 1) (intV (L.take (k + 1)) ++ [.int .i64 S])) (hk : k + 1 < L.length) (hS : L[k + 1]'hk = S) : w.ownsRow base 3 1 v (k + 1 + 1) (intV (L.take (k + 1 + 1))) := by
  rw [List.take_succ_eq_append_getElem hk, hS]
  simpa [intV] using h

theorem own_rebase {w : World} {base e size g n c : Nat} {xs : List Value} (h : w.ownsRow base e size (.slice (some ⟨g, 0, none⟩) n c) n xs) : w.ownsRow g e size (.slice (some ⟨g, 0, none⟩) n c) n xs := by
  obtain ⟨h1, h2⟩ := h
  refine ⟨h1, ?_⟩
  rcases h2 with ⟨h2, _⟩ | ⟨g', cap, cur, hv, _, r⟩
  · cases h2
  · cases hv
    exact .inr ⟨g, c, cur, rfl, Nat.le_refl _, r⟩

set_option maxRecDepth 100000 in
set_option maxHeartbeats 1600000 in
theorem next_any (a0 a2 : Option Addr) (n0 c0 n2 c2 : Nat) (own : Int) (s0 s2 : List Int) (w : World) (h0 : Ints w a0 n0 c0 s0) (h2 : Ints w a2 n2 c2 s2) (B0 : n0 ≤ 65536) (B2 : n2 ≤ 65536) :
    Calls Try.prog 11 #[.slice a0 n0 c0, .int .i64 own, .slice a2 n2 c2] w fun e w' => ∃ g m c, e = .returned (.slice (some ⟨g, 0, none⟩) m c) ∧ Ints w' (some ⟨g, 0, none⟩) m c (nxt own s0 s2) ∧ Below w.heap.size w w' := by
  have l0 := h0.len
  have l2 := h2.len
  obtain ⟨i3, hi3, hz3, hs3, hy3⟩ := info_parts Try.info3
  obtain ⟨N, hN1, hN2, hN3⟩ : ∃ N : Nat, N ≤ n0 ∧ N ≤ n2 ∧ (n0 ≤ N ∨ n2 ≤ N) := ⟨min n0 n2, by omega, by omega, by omega⟩
  have ll : (nxt own s0 s2).length = N + 1 := by rw [nxt_len]; omega
  go_enter Try.func11, Try.ntmps11
  go_upto_region 2 with (at_make; refine wpList_make_one _ rfl _ _ 25 rfl w.heap.size 3 i3 _ Try.underlying25 hi3 hz3 hs3 _ _ _ (n2 + 1) rfl rfl (by omega) (by omega) (by rw [hy3]; omega) (by unfold maxLen; omega) (Nat.le_refl _) ?_; intro w1 zs hown hgrow)
  have hb1 : Below w.heap.size w w1 := (Below.refl _ _).grown hgrow (Nat.le_refl _) (fun k h => by cases h)
  have hl1 := hown.1
  have z1 := hown.cellAt 0 (by omega)
  rw [List.getElem?_eq_getElem (by omega)] at z1
  have f1 := hown.frozenAt 0
  have hown2 := (hown.stored 0 (.int .i64 own)).1
  have hb2 : Below w.heap.size w (w1.setCell ⟨w.heap.size, 0, none⟩ (.int .i64 own)) := hb1.setCell (by simp) _
  have hzs : zs.set 0 (.int .i64 own) = intV ((nxt own s0 s2).take 1) := by
    match zs, hl1 with
    | [z], _ => rfl
  rw [hzs] at hown2
  clear hzs hown hgrow hz3 hb1
  go_upto_region 3 with fail
  obtain ⟨W, hW⟩ : ∃ W, W = w1.setCell ⟨w.heap.size, 0, none⟩ (.int .i64 own) := ⟨_, rfl⟩
  rw [← hW] at hown2 hb2 ⊢
  clear hW z1 f1 hl1
  obtain ⟨g, hg⟩ : ∃ g, g = w.heap.size := ⟨_, rfl⟩
  rw [← hg] at hown2 ⊢
  have HG : Hid (w.heap.size ≤ g) := by rw [hg]; exact Nat.le_refl _
  clear hg
  go_cut [21, 22] (fun v i wc => v = .int .i64 N ∧ i = .int .i64 0 ∧ wc = W)
  case first =>
    go_wp2
    all_goals
      go_meet
      case rel => exact ⟨by first | (have h : N = n0 := by omega
                                     rw [h]) | (have h : N = n2 := by omega
                                                rw [h]), rfl, rfl⟩
  case rest =>
    obtain ⟨rfl, rfl, hwc⟩ := hcut
    rw [hwc]
    clear hwc
    go_wp2_with fail
    go_loopw [7, 22] (fun v i wr => ∃ k : Nat, k ≤ N ∧ i = .int .i64 k ∧ v = .slice (some ⟨g, 0, none⟩) (k + 1) (n2 + 1) ∧ wr.ownsRow g 3 1 (.slice (some ⟨g, 0, none⟩) (k + 1) (n2 + 1)) (k + 1) (intV ((nxt own s0 s2).take (k + 1))) ∧ Below w.heap.size w wr) (fun _ i _ => N - (intOf i).toNat)
    case atStart => exact ⟨0, by omega, rfl, rfl, own_rebase hown2, hb2⟩
    case round =>
      obtain ⟨k, hk, rfl, rfl, howr, hbr⟩ := hrel
      clear hown2 hb2
      by_cases hlt : k < N
      · obtain ⟨b, off, rfl, hb, hc⟩ := (h0.below hbr (Nat.le_refl _)).at (by omega)
        obtain ⟨b', off', rfl, hb', hc'⟩ := (h2.below hbr (Nat.le_refl _)).at (by omega)
        have k1 := hc k (by omega)
        have k2 := hc' k (by omega)
        have at1 : Hid _ := nxt_at (own := own) (c := s0) (r := s2) (k := k) (by omega) (by omega) (by omega)
        have hi1 : (k : Int) < (n0 : Int) := by omega
        have hi2 : (k : Int) < (n2 : Int) := by omega
        have hsr := hbr.size
        clear hc hc'
        by_cases e1 : s0[k]'(by omega) = -1
        · have e1' : (s0[k]'(by omega) != -1) = false := by simpa using e1
          have E1 : Hid _ := e1
          clear e1
          go_wp2_with (at_builtin; refine wpList_append_fits _ rfl (.tmp 46) (.tmp 48) 25 rfl g 3 i3 1 Try.underlying25 hi3 hs3 g (k + 1) (n2 + 1) _ rfl (howr.alloc _) ⟨wr.heap.size, 0, none⟩ 1 1 [.int .i64 (-1)] rfl rfl (news1' _ _) (one1 _) (by omega) ?_; intro w2 hown3 hgrow)
          have hb3 : Below w.heap.size w w2 := (hbr.alloc hsr _).grown hgrow (by simp; omega) (fun j hj => by cases hj; exact HG.out)
          have hown4 := own_snoc hown3 (by omega) (at1.out.trans (by unfold add1; rw [if_pos (.inl E1.out)]))
          clear hown3 hgrow howr k1 k2
          go_wp2
          go_roundw
          case rel => exact ⟨k + 1, by omega, by go_num, rfl, hown4, hb3⟩
          case measure => simp [intOf]; omega
        · have e1' : (s0[k]'(by omega) != -1) = true := by simpa using e1
          by_cases e2 : s2[k]'(by omega) = -1
          · have e2' : (s2[k]'(by omega) != -1) = false := by simpa using e2
            have E2 : Hid _ := e2
            clear e2
            go_wp2_with (at_builtin; refine wpList_append_fits _ rfl (.tmp 46) (.tmp 48) 25 rfl g 3 i3 1 Try.underlying25 hi3 hs3 g (k + 1) (n2 + 1) _ rfl (howr.alloc _) ⟨wr.heap.size, 0, none⟩ 1 1 [.int .i64 (-1)] rfl rfl (news1' _ _) (one1 _) (by omega) ?_; intro w2 hown3 hgrow)
            have hb3 : Below w.heap.size w w2 := (hbr.alloc hsr _).grown hgrow (by simp; omega) (fun j hj => by cases hj; exact HG.out)
            have hown4 := own_snoc hown3 (by omega) (at1.out.trans (by unfold add1; rw [if_pos (.inr E2.out)]))
            clear hown3 hgrow howr k1 k2
            go_wp2
            go_roundw
            case rel => exact ⟨k + 1, by omega, by go_num, rfl, hown4, hb3⟩
            case measure => simp [intOf]; omega
          · have e2' : (s2[k]'(by omega) != -1) = true := by simpa using e2
            go_wp2
            go_quiet (fail)
            go_wp2_with (at_builtin; refine wpList_append_fits _ rfl (.tmp 46) (.tmp 48) 25 rfl g 3 i3 1 Try.underlying25 hi3 hs3 g (k + 1) (n2 + 1) _ rfl (howr.alloc _) ⟨wr.heap.size, 0, none⟩ 1 1 [.int .i64 (wrap64 (s0[k]'(by omega) + s2[k]'(by omega)))] rfl rfl (news1 _ _ _) (one1 _) (by omega) ?_; intro w2 hown3 hgrow)
            have hb3 : Below w.heap.size w w2 := ((below_drewN hbr _).alloc (by simpa using hsr) _).grown hgrow (by simp; omega) (fun j hj => by cases hj; exact HG.out)
            have hown4 := own_snoc hown3 (by omega) (at1.out.trans (by unfold add1; rw [if_neg (by omega)]))
            clear hown3 hgrow howr k1 k2
            go_wp2
            go_roundw
            case rel => exact ⟨k + 1, by omega, by go_num, rfl, hown4, hb3⟩
            case measure => simp [intOf]; omega
      · obtain rfl : k = N := by omega
        go_wp2
        go_ret
        refine ⟨g, _, _, rfl, ⟨ll, by omega, by unfold maxLen; omega, ?_, nofun⟩, hbr⟩
        rw [List.take_of_length_le (by omega)] at howr
        exact row_of howr (by rw [intV_len, ll]) (fun _ _ => rfl)

end Go.Proofs.Qxb6000829a
