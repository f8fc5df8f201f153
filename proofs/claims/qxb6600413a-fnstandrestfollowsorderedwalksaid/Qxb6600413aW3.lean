import Derived.Test.Qxb6600413aW2
import Derived.Deep.RegionHeld3
import Derived.Deep.AppendLies
import Derived.Deep.DeepCutAuto
namespace Go.Proofs.Qxb6600413a
open Go.RowKit

theorem cellW (w : World) (o1 o2 : Obj) (v : Value) (t : TypeId) (q : Nat) : ((((w.alloc o1).alloc o2).alloc (.cells #[v] t)).drewN q).cell? ⟨w.heap.size + 1 + 1, 0, none⟩ = some v := by
  rw [World.cell?_drewN, World.cell?_alloc_at _ _ _ _ (by simp)]; rfl
theorem frozenW (w : World) (o1 o2 : Obj) (v : Value) (t : TypeId) (q : Nat) : ((((w.alloc o1).alloc o2).alloc (.cells #[v] t)).drewN q).frozen? ⟨w.heap.size + 1 + 1, 0, none⟩ = false := by
  rw [World.frozen?_drewN, World.frozen?_alloc_at _ _ _ _ (by simp)]

theorem entV_append : ∀ (a b : List Pl.Ent), entV (a ++ b) = entV a ++ entV b
  | [], b => rfl
  | e :: r, b => by simp [entV, entV_append r b]
theorem own_snoc {w : World} {v : Value} {base : Nat} {out : List Pl.Ent} {e : Pl.Ent} (h : w.ownsRow base 47 2 v (out.length + 1) (entV out ++ [.string e.1, .int .u64 e.2])) : w.ownsRow base 47 2 v (out ++ [e]).length (entV (out ++ [e])) := by
  rw [entV_append, List.length_append]; exact h
theorem mrg_eq {x y : List Pl.Ent} {p q : Nat} (hp : p < x.length) (hq : q < y.length) {out : List Pl.Ent} (R : Hid (out ++ Pl.mrg (x.drop p) (y.drop q) = Pl.mrg x y)) (h : ((x[p]'hp).1.toList == (y[q]'hq).1.toList) = true) :
    Hid ((out ++ [((x[p]'hp).1, max (x[p]'hp).2 (y[q]'hq).2)]) ++ Pl.mrg (x.drop (p + 1)) (y.drop (q + 1)) = Pl.mrg x y) := by
  have R' := R.out
  rw [List.drop_eq_getElem_cons hp, List.drop_eq_getElem_cons hq, Pl.mrg, if_pos (show Pl.be _ _ = true from h)] at R'
  unfold Hid; rw [← R']; simp
theorem mrg_lt {x y : List Pl.Ent} {p q : Nat} (hp : p < x.length) (hq : q < y.length) {out : List Pl.Ent} (R : Hid (out ++ Pl.mrg (x.drop p) (y.drop q) = Pl.mrg x y)) (h : ((x[p]'hp).1.toList == (y[q]'hq).1.toList) = false)
    (h2 : Op.bytesLess (x[p]'hp).1.toList (y[q]'hq).1.toList = true) : Hid ((out ++ [x[p]'hp]) ++ Pl.mrg (x.drop (p + 1)) (y.drop q) = Pl.mrg x y) := by
  have R' := R.out
  rw [List.drop_eq_getElem_cons hp, List.drop_eq_getElem_cons hq, Pl.mrg, if_neg (show ¬ Pl.be _ _ = true from by unfold Pl.be; rw [h]; simp), if_pos (show Pl.bl _ _ = true from h2), ← List.drop_eq_getElem_cons hq] at R'
  unfold Hid; rw [← R']; simp
theorem mrg_gt {x y : List Pl.Ent} {p q : Nat} (hp : p < x.length) (hq : q < y.length) {out : List Pl.Ent} (R : Hid (out ++ Pl.mrg (x.drop p) (y.drop q) = Pl.mrg x y)) (h : ((x[p]'hp).1.toList == (y[q]'hq).1.toList) = false)
    (h2 : Op.bytesLess (x[p]'hp).1.toList (y[q]'hq).1.toList = false) : Hid ((out ++ [y[q]'hq]) ++ Pl.mrg (x.drop p) (y.drop (q + 1)) = Pl.mrg x y) := by
  have R' := R.out
  rw [List.drop_eq_getElem_cons hp, List.drop_eq_getElem_cons hq, Pl.mrg, if_neg (show ¬ Pl.be _ _ = true from by unfold Pl.be; rw [h]; simp), if_neg (show ¬ Pl.bl _ _ = true from by unfold Pl.bl; rw [h2]; simp), ← List.drop_eq_getElem_cons hp] at R'
  unfold Hid; rw [← R']; simp
theorem mrg_end {x y : List Pl.Ent} {p q : Nat} (h : x.length ≤ p ∨ y.length ≤ q) {out : List Pl.Ent} (R : Hid (out ++ Pl.mrg (x.drop p) (y.drop q) = Pl.mrg x y)) : out ++ x.drop p ++ y.drop q = Pl.mrg x y := by
  have R' := R.out
  rcases h with h | h
  · rw [List.drop_eq_nil_of_le h] at R' ⊢; rw [Pl.mrg_nil'] at R'; simpa using R'
  · rw [List.drop_eq_nil_of_le h] at R' ⊢; rw [Pl.mrg_nil] at R'; simpa using R'

theorem ownBlock_ge {w : World} {v : Value} {base n : Nat} {xs : List Value} (h : w.ownsRow base 47 2 v n xs) : ∀ k, v.ownBlock = some k → base ≤ k := fun k hk => (h.lt k hk).1

/-- 'append' onto a row of the call's own, of a slice whose address is whatever term ('x[i:]' bears an 'if' there), but some address. -/
theorem wpList_append_own_ite {P : Program} (w : World) {ops : Array Oper} {rest : List Oper} {o : Oper} {a : Act} {Q : Exit → Act → World → Prop} (hgd : o.guard = none) (s x : Operand) (t : TypeId)
    (ho : o.op = .call { callee := .builtin .append, args := #[s, x], argTypes := #[t, t] })
    (base : Nat) (e : TypeId) (i : TypeInfo) (z : Value) (size bytes : Nat) (ht : P.underlying t = some (.slice e)) (hi : P.info? e = some i) (hz : i.zero = some z)
    (hsize : i.size = size) (hby : i.bytes = bytes) (hzs : z.cells.size = size) (hsz : 0 < size)
    (v : Value) (n : Nat) (xs : List Value) (hs : a.eval s = v) (hown : w.ownsRow base e size v n xs)
    (ao : Option Addr) (m c : Nat) (news : List Value) (hx : a.eval x = .slice ao m c) (hl : news.length = m * size) (hsome : ao ≠ none) (hnews : ∀ ad, ao = some ad → ∀ j u, news[j]? = some u → w.cell? (ad.add j) = some u) (h1 : ∀ u ∈ news, u.oneCell' = true)
    (h63 : n + m ≤ maxLen) (hbytes : (n + m) * bytes ≤ 140737488355328) (hbase : base ≤ w.heap.size)
    (h : ∀ v' w', w'.ownsRow base e size v' (n + m) (xs ++ news) → w.grownBy w' v.ownBlock → (v' = .slice none 0 0 ↔ v = .slice none 0 0 ∧ m = 0) → wpList P ops Q rest (a.put o.dst v') w') : wpList P ops Q (o :: rest) a w := by
  cases ao with
  | none => exact absurd rfl hsome
  | some ad => exact wpList_append_own w hgd s x t ho base e i z size bytes ht hi hz hsize hby hzs hsz v n xs hs hown ad m c news hx hl (hnews ad rfl) h1 h63 hbytes hbase h

theorem entV_one : ∀ (es : List Pl.Ent), ∀ u ∈ entV es, u.oneCell' = true
  | [], u, h => by cases h
  | e :: r, u, h => by
    simp only [entV, List.mem_cons] at h
    rcases h with rfl | rfl | h
    · rfl
    · rfl
    · exact entV_one r u h
theorem entV_drop : ∀ (es : List Pl.Ent) (p : Nat), entV (es.drop p) = (entV es).drop (p * 2)
  | [], p => by simp [entV]
  | e :: r, 0 => by simp
  | e :: r, p + 1 => by
    have e1 : (p + 1) * 2 = p * 2 + 1 + 1 := by omega
    rw [e1]; simp [entV, entV_drop r p]
/-- The cells of 'x[p:]', whatever 'if' stands in its address. -/
theorem ents_from {w : World} {b off n c p : Nat} {es : List Pl.Ent} (h : Ents w b off n c es) (hp : p ≤ n) {ao : Option Addr} (hao : ¬ c = p → ao = some ⟨b, off + p * 2, none⟩) : ∀ ad, ao = some ad → ∀ j u, (entV (es.drop p))[j]? = some u → w.cell? (ad.add j) = some u := by
  intro ad had j u hu
  have hl := h.len
  have hc := h.lec
  have hj : j < (n - p) * 2 := by
    have := (List.getElem?_eq_some_iff.1 hu).1
    rw [entV_len, List.length_drop, hl] at this; exact this
  rw [hao (by omega)] at had
  cases had
  rw [Addr.add_lit]
  rw [entV_drop, List.getElem?_drop] at hu
  rw [Nat.add_assoc]
  exact h.cell _ _ hu

theorem news2 (w : World) (q : Nat) (s : ByteArray) (z : Int) : ∀ j u, ([Value.string s, Value.int .u64 z] : List Value)[j]? = some u → ((w.drewN q).alloc (.cells #[.string s, .int .u64 z] 47)).cell? ((⟨w.heap.size, 0, none⟩ : Addr).add j) = some u :=
  World.news_of_block (cs := #[.string s, .int .u64 z]) (t := 47) (fr := (0, 0)) (heap_alloc_new (w.drewN q) _)
theorem one2 (s : ByteArray) (z : Int) : ∀ u ∈ ([Value.string s, Value.int .u64 z] : List Value), u.oneCell' = true := by
  intro u hu
  simp at hu
  rcases hu with rfl | rfl <;> rfl
theorem below_app {W wr w1 : World} {q : Nat} {o : Obj} {v : Value} {n : Nat} {xs : List Value} (hb : Below W.heap.size W wr) (hown : wr.ownsRow W.heap.size 47 2 v n xs) (hg : ((wr.drewN q).alloc o).grownBy w1 v.ownBlock) : Below W.heap.size W w1 := by
  have hs := hb.size
  exact ((below_drewN hb q).alloc (by simpa using hs) o).grown hg (by simp; omega) (fun k hk => ownBlock_ge hown k hk)

theorem own_form {w : World} {base n : Nat} {v : Value} {es : List Pl.Ent} (h : w.ownsRow base 47 2 v n (entV es)) (hne : ¬ v = .slice none 0 0) (hl : es.length = n) (he : ∀ e ∈ es, e.1.size ≤ maxLen ∧ 0 ≤ e.2 ∧ e.2 < 18446744073709551616) :
    ∃ g cap, v = .slice (some ⟨g, 0, none⟩) n cap ∧ base ≤ g ∧ Ents w g 0 n cap es := by
  rcases h.2 with ⟨h', _⟩ | ⟨g, cap, cur, hv, hb, hg, hnc, hcm, _, _⟩
  · exact absurd h' hne
  · subst hv
    refine ⟨g, cap, rfl, hb, hl, hnc, hcm, (h.lt g rfl).2, fun i u hi => ?_, he⟩
    have hil : i < n * 2 := by
      have := (List.getElem?_eq_some_iff.1 hi).1
      rw [entV_len, hl] at this; exact this
    rw [Nat.zero_add, h.cellAt i hil, hi]
theorem mrg_each {x y : List Pl.Ent} (hx : ∀ e ∈ x, e.1.size ≤ maxLen ∧ 0 ≤ e.2 ∧ e.2 < 18446744073709551616) (hy : ∀ e ∈ y, e.1.size ≤ maxLen ∧ 0 ≤ e.2 ∧ e.2 < 18446744073709551616) : ∀ e ∈ Pl.mrg x y, e.1.size ≤ maxLen ∧ 0 ≤ e.2 ∧ e.2 < 18446744073709551616 := by
  fun_induction Pl.mrg x y with
  | case1 ys => exact hy
  | case2 x xs => exact hx
  | case3 x xs y ys h ih =>
    intro e he
    rcases List.mem_cons.1 he with rfl | he
    · have h1 := hx x (by simp); have h2 := hy y (by simp)
      refine ⟨h1.1, ?_, ?_⟩
      · show 0 ≤ max x.2 y.2; omega
      · show max x.2 y.2 < _; omega
    · exact ih (fun e he => hx e (by simp [he])) (fun e he => hy e (by simp [he])) e he
  | case4 x xs y ys h h2 ih =>
    intro e he
    rcases List.mem_cons.1 he with rfl | he
    · exact hx _ (by simp)
    · exact ih (fun e he => hx e (by simp [he])) hy e he
  | case5 x xs y ys h h2 ih =>
    intro e he
    rcases List.mem_cons.1 he with rfl | he
    · exact hy _ (by simp)
    · exact ih hx (fun e he => hy e (by simp [he])) e he
theorem ite_ne_none {p : Prop} [Decidable p] {a b : Addr} : (if p then some a else some b) ≠ none := by split <;> simp

set_option maxRecDepth 100000 in
set_option maxHeartbeats 1600000 in
theorem merge_any (b1 o1 n1 c1 b2 o2 n2 c2 : Nat) (x y : List Pl.Ent) (w : World) (hx : Ents w b1 o1 n1 c1 x) (hy : Ents w b2 o2 n2 c2 y) (hsz : n1 + n2 ≤ 4194304) :
    Calls Try.prog 15 #[.agg #[.slice (some ⟨b1, o1, none⟩) n1 c1], .agg #[.slice (some ⟨b2, o2, none⟩) n2 c2]] w fun e w' =>
      ∃ b3 m c3, e = .returned (.agg #[.slice (some ⟨b3, 0, none⟩) m c3]) ∧ Ents w' b3 0 m c3 (Pl.mrg x y) ∧ w.heap.size ≤ b3 ∧ Below w.heap.size w w' := by
  have l1 := hx.len
  have l2 := hy.len
  have lt1 := hx.lt
  have lt2 := hy.lt
  obtain ⟨i0, hi0, hz0, hz1, hz2⟩ := info_parts Try.info47
  go_enter Try.func15, Try.ntmps15
  go_wp2
  go_quiet (fail)
  go_upto_region 2 with fail
  obtain ⟨W, hW⟩ : ∃ W, W = ((((w.alloc (.cells #[.slice (some ⟨b1, o1, none⟩) n1 c1] 29)).alloc (.cells #[.slice (some ⟨b2, o2, none⟩) n2 c2] 29)).alloc (.cells #[.slice none 0 0] 29)).drewN nq) := ⟨_, rfl⟩
  have HWs : Hid (W.heap.size = w.heap.size + 3) := by rw [hW]; simp [Hid]
  have HWb : Below w.heap.size w W := by
    rw [hW]
    exact below_drewN ((((Below.refl _ _).alloc (Nat.le_refl _) _).alloc (by simp) _).alloc (by simp; omega) _) _
  have cW : W.cell? ⟨w.heap.size + 1 + 1, 0, none⟩ = some (.slice none 0 0) := by rw [hW]; exact cellW _ _ _ _ _ _
  have fW : W.frozen? ⟨w.heap.size + 1 + 1, 0, none⟩ = false := by rw [hW]; exact frozenW _ _ _ _ _ _
  rw [← hW]
  clear hW
  go_cut [7] (fun v wc => ∃ cap, v = .slice (some ⟨W.heap.size, 0, none⟩) 0 cap ∧ wc.ownsRow W.heap.size 47 2 v 0 [] ∧ Below W.heap.size W wc)
  case first =>
    rcases Nat.lt_or_ge n1 n2 with hle | hle
    · go_wp2_with (at_make; refine wpList_make_own _ rfl _ _ 27 rfl W.heap.size 47 i0 _ 2 Try.underlying27 hi0 hz0 hz1 _ _ _ n2 rfl rfl (by omega) (by rw [hz2]; omega) (by unfold maxLen; omega) (Nat.le_refl _) ?_; intro w1 hown hgrow)
      go_meet
      case rel => exact ⟨n2, rfl, hown, (Below.refl _ _).grown hgrow (Nat.le_refl _) (fun k h => by cases h)⟩
    · go_wp2_with (at_make; refine wpList_make_own _ rfl _ _ 27 rfl W.heap.size 47 i0 _ 2 Try.underlying27 hi0 hz0 hz1 _ _ _ n1 rfl rfl (by omega) (by rw [hz2]; omega) (by unfold maxLen; omega) (Nat.le_refl _) ?_; intro w1 hown hgrow)
      go_meet
      case rel => exact ⟨n1, rfl, hown, (Below.refl _ _).grown hgrow (Nat.le_refl _) (fun k h => by cases h)⟩
  case rest =>
    obtain ⟨cap0, rfl, hown0, hb0⟩ := hcut
    go_wp2
    go_loopw [7, 8, 9] (fun v i j wr => ∃ (p q : Nat) (out : List Pl.Ent), p ≤ n1 ∧ q ≤ n2 ∧ i = .int .i64 p ∧ j = .int .i64 q ∧ wr.ownsRow W.heap.size 47 2 v out.length (entV out) ∧ (v = .slice none 0 0 → False) ∧ Hid (out ++ Pl.mrg (x.drop p) (y.drop q) = Pl.mrg x y) ∧ out.length ≤ p + q ∧ Below W.heap.size W wr)
      (fun _ i j _ => (n1 - (intOf i).toNat) + (n2 - (intOf j).toNat))
    case atStart => exact ⟨0, 0, [], by omega, by omega, rfl, rfl, hown0, nofun, by simp [Hid], by simp, hb0⟩
    case round =>
      obtain ⟨p, q, out, hp, hq, rfl, rfl, hown, hnn, R, hol, hbr⟩ := hrel
      clear hown0 hb0
      have hsz' := hbr.size
      by_cases hlt : p < n1 ∧ q < n2
      · obtain ⟨hp1, hq1⟩ := hlt
        have k1 : wr.cell? ⟨b1, o1 + p * 2, none⟩ = _ := ((HWb.trans (hbr.mono (by rw [HWs.out]; omega))).cell (by exact lt1)).trans (hx.at p (by omega)).1
        have k2 : wr.cell? ⟨b1, o1 + p * 2 + 1, none⟩ = _ := ((HWb.trans (hbr.mono (by rw [HWs.out]; omega))).cell (by exact lt1)).trans (hx.at p (by omega)).2
        have k3 : wr.cell? ⟨b2, o2 + q * 2, none⟩ = _ := ((HWb.trans (hbr.mono (by rw [HWs.out]; omega))).cell (by exact lt2)).trans (hy.at q (by omega)).1
        have k4 : wr.cell? ⟨b2, o2 + q * 2 + 1, none⟩ = _ := ((HWb.trans (hbr.mono (by rw [HWs.out]; omega))).cell (by exact lt2)).trans (hy.at q (by omega)).2
        have hi1 : (p : Int) < (n1 : Int) := by omega
        have hi2 : (q : Int) < (n2 : Int) := by omega
        by_cases he : ((x[p]'(by omega)).1.toList == (y[q]'(by omega)).1.toList) = true
        · go_wp2
          go_quiet (fail)
          go_wp2_with fail
          obtain ⟨wq, hwq⟩ : ∃ wq, wq = wr.drewN nq := ⟨_, rfl⟩
          rw [← hwq]
          have q1 : wq.cell? ⟨b1, o1 + p * 2, none⟩ = _ := (by rw [hwq]; exact k1 : wq.cell? ⟨b1, o1 + p * 2, none⟩ = some (.string (x[p]'(by omega)).1))
          have q2 : wq.cell? ⟨b1, o1 + p * 2 + 1, none⟩ = _ := (by rw [hwq]; exact k2 : wq.cell? ⟨b1, o1 + p * 2 + 1, none⟩ = some (.int .u64 (x[p]'(by omega)).2))
          have q3 : wq.cell? ⟨b2, o2 + q * 2 + 1, none⟩ = _ := (by rw [hwq]; exact k4 : wq.cell? ⟨b2, o2 + q * 2 + 1, none⟩ = some (.int .u64 (y[q]'(by omega)).2))
          have hownq : wq.ownsRow W.heap.size 47 2 u7 out.length (entV out) := by rw [hwq]; exact hown
          have hbq : Below W.heap.size W wq := by rw [hwq]; exact below_drewN hbr _
          have hszq := hbq.size
          have lW := HWs.out
          have LW : Hid (W.heap.size = w.heap.size + 3) := HWs
          have g1 : u7.ownBlock ≠ some b1 := fun h => by have := ownBlock_ge hownq _ h; omega
          have g2 : u7.ownBlock ≠ some b2 := fun h => by have := ownBlock_ge hownq _ h; omega
          have m1 : b1 < wq.heap.size := by omega
          have m2 : b2 < wq.heap.size := by omega
          clear hwq k1 k2 k3 k4 hbr hown hsz' lW
          by_cases hm : (x[p]'(by omega)).2 < (y[q]'(by omega)).2
          · go_region_held3 (fun w' => w'.cell? ⟨b1, o1 + p * 2, none⟩ = some (.string (x[p]'(by omega)).1) ∧ w'.cell? ⟨b1, o1 + p * 2 + 1, none⟩ = some (.int .u64 (x[p]'(by omega)).2) ∧ w'.cell? ⟨b2, o2 + q * 2 + 1, none⟩ = some (.int .u64 (y[q]'(by omega)).2))
              (first
                | go_keep
                | (go_split_ands
                   refine ⟨?_, ?_, ?_⟩
                   · (rw [hgrow.cell_far _ (by simp; omega) (Ne.symm g1)]; assumption)
                   · (rw [hgrow.cell_far _ (by simp; omega) (Ne.symm g1)]; assumption)
                   · (rw [hgrow.cell_far _ (by simp; omega) (Ne.symm g2)]; assumption)))
              ((refine step_append_lies _ (by rfl) _ _ _ (by rfl) W.heap.size 47 i0 _ 2 24 Try.underlying27 hi0 hz0 hz1 hz2 rfl (by omega) u7 out.length (entV out) (by rfl) ((hownq.alloc _).drew)
                  ⟨wq.heap.size, 0, none⟩ 1 1 [.string (x[p]'(by omega)).1, .int .u64 (y[q]'(by omega)).2] (by rfl) (by rfl) (World.news_of_block (cs := #[.string (x[p]'(by omega)).1, .int .u64 (y[q]'(by omega)).2]) (t := 47) (fr := (0, 0)) (heap_alloc_new wq _)) (one2 _ _)
                  (by omega) (by unfold maxLen; omega) (by omega) (by simp; omega) (wq.heap.size + 1) (by simp) ?_; intro gg cap w1 hown1 hgrow hat hltg))
            have hb1 : Below W.heap.size W w1 := ((hbq.alloc hszq _).drew).grown hgrow (by simp; omega) (fun k hk => ownBlock_ge hownq k hk)
            have R1 := mrg_eq (by omega) (by omega) R he
            rw [show max (x[p]'(by omega)).2 (y[q]'(by omega)).2 = (y[q]'(by omega)).2 from by omega] at R1
            have hown2 := own_snoc (e := ((x[p]'(by omega)).1, (y[q]'(by omega)).2)) hown1
            clear hown1 hgrow hownq hbq q1 q2 q3 R hat hltg g1 g2 m1 m2
            go_wp2
            go_roundw
            case rel => exact ⟨p + 1, q + 1, out ++ [((x[p]'(by omega)).1, (y[q]'(by omega)).2)], by omega, by omega, by go_num, by go_num, hown2, nofun, R1, by simp; omega, hb1⟩
            case measure => simp [intOf]; omega
          · go_region_held3 (fun w' => w'.cell? ⟨b1, o1 + p * 2, none⟩ = some (.string (x[p]'(by omega)).1) ∧ w'.cell? ⟨b1, o1 + p * 2 + 1, none⟩ = some (.int .u64 (x[p]'(by omega)).2) ∧ w'.cell? ⟨b2, o2 + q * 2 + 1, none⟩ = some (.int .u64 (y[q]'(by omega)).2))
              (first
                | go_keep
                | (go_split_ands
                   refine ⟨?_, ?_, ?_⟩
                   · (rw [hgrow.cell_far _ (by simp; omega) (Ne.symm g1)]; assumption)
                   · (rw [hgrow.cell_far _ (by simp; omega) (Ne.symm g1)]; assumption)
                   · (rw [hgrow.cell_far _ (by simp; omega) (Ne.symm g2)]; assumption)))
              ((refine step_append_lies _ (by rfl) _ _ _ (by rfl) W.heap.size 47 i0 _ 2 24 Try.underlying27 hi0 hz0 hz1 hz2 rfl (by omega) u7 out.length (entV out) (by rfl) ((hownq.alloc _).drew)
                  ⟨wq.heap.size, 0, none⟩ 1 1 [.string (x[p]'(by omega)).1, .int .u64 (x[p]'(by omega)).2] (by rfl) (by rfl) (World.news_of_block (cs := #[.string (x[p]'(by omega)).1, .int .u64 (x[p]'(by omega)).2]) (t := 47) (fr := (0, 0)) (heap_alloc_new wq _)) (one2 _ _)
                  (by omega) (by unfold maxLen; omega) (by omega) (by simp; omega) (wq.heap.size + 1) (by simp) ?_; intro gg cap w1 hown1 hgrow hat hltg))
            have hb1 : Below W.heap.size W w1 := ((hbq.alloc hszq _).drew).grown hgrow (by simp; omega) (fun k hk => ownBlock_ge hownq k hk)
            have R1 := mrg_eq (by omega) (by omega) R he
            rw [show max (x[p]'(by omega)).2 (y[q]'(by omega)).2 = (x[p]'(by omega)).2 from by omega] at R1
            have hown2 := own_snoc (e := ((x[p]'(by omega)).1, (x[p]'(by omega)).2)) hown1
            clear hown1 hgrow hownq hbq q1 q2 q3 R hat hltg g1 g2 m1 m2
            go_wp2
            go_roundw
            case rel => exact ⟨p + 1, q + 1, out ++ [((x[p]'(by omega)).1, (x[p]'(by omega)).2)], by omega, by omega, by go_num, by go_num, hown2, nofun, R1, by simp; omega, hb1⟩
            case measure => simp [intOf]; omega
        · have he' : ((x[p]'(by omega)).1.toList == (y[q]'(by omega)).1.toList) = false := by simpa using he
          clear he
          by_cases hl : Op.bytesLess (x[p]'(by omega)).1.toList (y[q]'(by omega)).1.toList = true
          · go_wp2
            go_quiet (fail)
            go_wp2_with fail
            go_quiet (fail)
            go_wp2_with (at_builtin; refine wpList_append_own _ rfl _ _ 27 rfl W.heap.size 47 i0 _ 2 24 Try.underlying27 hi0 hz0 hz1 hz2 rfl (by decide) _ _ _ rfl (hown.alloc _) ⟨wr.heap.size, 0, none⟩ 1 1 [.string (x[p]'(by omega)).1, .int .u64 (x[p]'(by omega)).2] rfl rfl ?c1 ?c2 ?c3 ?c4 ?c5 ?_)
            case c1 => exact news2 _ _ _ _
            case c2 => exact one2 _ _
            case c3 => unfold maxLen; omega
            case c4 => omega
            case c5 => simp; omega
            intro v' w1 hown1 hgrow hne
            have hb1 := below_app hbr hown hgrow
            have R1 := mrg_lt (by omega) (by omega) R he' hl
            have hown2 := own_snoc (e := x[p]'(by omega)) hown1
            clear hown1 hgrow hown hbr k1 k2 k3 k4 R
            go_wp2
            go_roundw
            case rel => exact ⟨p + 1, q, out ++ [x[p]'(by omega)], by omega, by omega, by go_num, rfl, hown2, hne, R1, by simp; omega, hb1⟩
            case measure => simp [intOf]; omega
          · have hl' : Op.bytesLess (x[p]'(by omega)).1.toList (y[q]'(by omega)).1.toList = false := by simpa using hl
            clear hl
            go_wp2
            go_quiet (fail)
            go_wp2_with fail
            go_quiet (fail)
            go_wp2_with (at_builtin; refine wpList_append_own _ rfl _ _ 27 rfl W.heap.size 47 i0 _ 2 24 Try.underlying27 hi0 hz0 hz1 hz2 rfl (by decide) _ _ _ rfl (hown.alloc _) ⟨wr.heap.size, 0, none⟩ 1 1 [.string (y[q]'(by omega)).1, .int .u64 (y[q]'(by omega)).2] rfl rfl ?c1 ?c2 ?c3 ?c4 ?c5 ?_)
            case c1 => exact news2 _ _ _ _
            case c2 => exact one2 _ _
            case c3 => unfold maxLen; omega
            case c4 => omega
            case c5 => simp; omega
            intro v' w1 hown1 hgrow hne
            have hb1 := below_app hbr hown hgrow
            have R1 := mrg_gt (by omega) (by omega) R he' hl'
            have hown2 := own_snoc (e := y[q]'(by omega)) hown1
            clear hown1 hgrow hown hbr k1 k2 k3 k4 R
            go_wp2
            go_roundw
            case rel => exact ⟨p, q + 1, out ++ [y[q]'(by omega)], by omega, by omega, rfl, by go_num, hown2, hne, R1, by simp; omega, hb1⟩
            case measure => simp [intOf]; omega
      · have hd : n1 ≤ p ∨ n2 ≤ q := by omega
        have sx : Ents wr b1 o1 n1 c1 x := hx.below (HWb.trans (hbr.mono (by rw [HWs.out]; omega))) (Nat.le_refl _)
        have sy : Ents wr b2 o2 n2 c2 y := hy.below (HWb.trans (hbr.mono (by rw [HWs.out]; omega))) (Nat.le_refl _)
        have lc1 := hx.lec
        have lc2 := hy.lec
        have hp2 : (p : Int) ≤ n1 := by omega
        have hq2 : (q : Int) ≤ n2 := by omega
        have E1 := mrg_end (by omega) R
        clear R
        clear hd
        have fin : ∀ (v2 : Value) (w1 w2 : World) (m : Nat), w2.ownsRow W.heap.size 47 2 v2 m (entV (Pl.mrg x y)) → ¬ v2 = .slice none 0 0 → Below W.heap.size W w2 → m = (Pl.mrg x y).length →
            ∃ g cap, v2 = .slice (some ⟨g, 0, none⟩) m cap ∧ w.heap.size + 1 + 1 < g ∧ Ents w2 g 0 m cap (Pl.mrg x y) ∧ w2.cell? ⟨w.heap.size + 1 + 1, 0, none⟩ = some (.slice none 0 0) ∧ w2.frozen? ⟨w.heap.size + 1 + 1, 0, none⟩ = false ∧ Below w.heap.size w w2 := by
          intro v2 w1 w2 m ho hne hb hm
          obtain ⟨g, cap, hv, hg, hE⟩ := own_form ho hne hm.symm (mrg_each hx.each hy.each)
          have e := HWs.out
          exact ⟨g, cap, hv, by omega, hE, (hb.cell (by show w.heap.size + 1 + 1 < _; omega)).trans cW, (hb.frozen (by show w.heap.size + 1 + 1 < _; omega)).trans fW, HWb.trans (hb.mono (by omega))⟩
        have FIN : Hid _ := fin
        have E2 : Hid _ := E1
        clear fin E1 cW fW
        have lt1' : b1 < wr.heap.size := sx.lt
        by_cases hd : n1 ≤ p
        · go_upto_region 14 with fail
          go_cut [0, 5, 7] (fun _ _ v wc => ∃ out2 : List Pl.Ent, wc.ownsRow W.heap.size 47 2 v out2.length (entV out2) ∧ (v = .slice none 0 0 → False) ∧ Hid (out2 ++ y.drop q = Pl.mrg x y) ∧ out2.length ≤ n1 + q ∧ Below W.heap.size W wc)
          case first =>
            go_wp2_with (at_builtin; refine wpList_append_own_ite _ rfl (.tmp 96) (.tmp 99) 27 rfl W.heap.size 47 i0 _ 2 24 Try.underlying27 hi0 hz0 hz1 hz2 rfl (by decide) _ _ _ rfl hown _ 0 _ [] rfl rfl (by first | exact ite_ne_none | nofun) (by intro ad had j u hu; simp at hu) nofun (by unfold maxLen; omega) (by omega) hsz' ?_; intro v1 w1 hown1 hgrow1 hne1)
            all_goals
              go_meet
              case rel => exact ⟨out, by simpa using hown1, fun h => hnn (hne1.1 h).1, by rw [List.drop_eq_nil_of_le (by omega)] at E2; simpa [Hid] using E2, by omega, hbr.grown hgrow1 hsz' (fun k hk => ownBlock_ge hown k hk)⟩
          case rest =>
            obtain ⟨out2, hown2, hnn2, E3, hol2, hb2⟩ := hcut
            have sy2 : Ents wc b2 o2 n2 c2 y := hy.below (HWb.trans (hb2.mono (by rw [HWs.out]; omega))) (Nat.le_refl _)
            have hsz2 := hb2.size
            clear hown hbr sx sy hsz' E2 hlt hd
            go_wp2_with (at_builtin; refine wpList_append_own_ite _ rfl (.tmp 101) (.tmp 104) 27 rfl W.heap.size 47 i0 _ 2 24 Try.underlying27 hi0 hz0 hz1 hz2 rfl (by decide) _ _ _ rfl hown2 _ (n2 - q) _ (entV (y.drop q)) rfl (by rw [entV_len, List.length_drop, l2]) (by first | exact ite_ne_none | nofun) (ents_from sy2 hq (by intro h; first | rfl | simp [h])) (entV_one _) (by unfold maxLen; omega) (by omega) hsz2 ?_; intro v2 w2 hown3 hgrow3 hne3; have hb3 := hb2.grown hgrow3 hsz2 (fun k hk => ownBlock_ge hown2 k hk); obtain ⟨g, cap, hv2, hg, hE3, hc3, hf3, hbb⟩ := FIN.out v2 wc w2 _ (by have e := E3.out; rw [← e, entV_append]; exact hown3) (fun h => hnn2 (hne3.1 h).1) hb3 (by have e := E3.out; rw [← e, List.length_append, List.length_drop, l2]); rw [hv2]; have hs3 := hbb.size; clear hv2 hown3 hgrow3 hne3 hown2 sy2)
            all_goals
              exact bodyPost_ret (v := .agg #[.slice (some ⟨g, 0, none⟩) _ cap]) (by simp [results, Try.results15, go_sem, hc3]) rfl
                ⟨g, _, cap, rfl, hE3.setCell (by show w.heap.size + 1 + 1 ≠ g; omega) _, by omega, hbb.setCell (by simp; omega) _⟩
        · go_upto_region 14 with fail
          go_cut [0, 5, 7] (fun _ _ v wc => ∃ out2 : List Pl.Ent, wc.ownsRow W.heap.size 47 2 v out2.length (entV out2) ∧ (v = .slice none 0 0 → False) ∧ Hid (out2 ++ y.drop q = Pl.mrg x y) ∧ out2.length ≤ n1 + q ∧ Below W.heap.size W wc)
          case first =>
            go_wp2_with (at_builtin; refine wpList_append_own_ite _ rfl (.tmp 96) (.tmp 99) 27 rfl W.heap.size 47 i0 _ 2 24 Try.underlying27 hi0 hz0 hz1 hz2 rfl (by decide) _ _ _ rfl hown _ (n1 - p) _ (entV (x.drop p)) rfl (by rw [entV_len, List.length_drop, l1]) (by first | exact ite_ne_none | nofun) (ents_from sx hp (by intro h; first | rfl | simp [h])) (entV_one _) (by unfold maxLen; omega) (by omega) hsz' ?_; intro v1 w1 hown1 hgrow1 hne1)
            all_goals
              go_meet
              case rel => exact ⟨out ++ x.drop p, by rw [entV_append, List.length_append, List.length_drop, l1]; exact hown1, fun h => hnn (hne1.1 h).1, E2, by simp; omega, hbr.grown hgrow1 hsz' (fun k hk => ownBlock_ge hown k hk)⟩
          case rest =>
            obtain ⟨out2, hown2, hnn2, E3, hol2, hb2⟩ := hcut
            have sy2 : Ents wc b2 o2 n2 c2 y := hy.below (HWb.trans (hb2.mono (by rw [HWs.out]; omega))) (Nat.le_refl _)
            have hsz2 := hb2.size
            clear hown hbr sx sy hsz' E2 hlt hd
            go_wp2_with (at_builtin; refine wpList_append_own_ite _ rfl (.tmp 101) (.tmp 104) 27 rfl W.heap.size 47 i0 _ 2 24 Try.underlying27 hi0 hz0 hz1 hz2 rfl (by decide) _ _ _ rfl hown2 _ (n2 - q) _ (entV (y.drop q)) rfl (by rw [entV_len, List.length_drop, l2]) (by first | exact ite_ne_none | nofun) (ents_from sy2 hq (by intro h; first | rfl | simp [h])) (entV_one _) (by unfold maxLen; omega) (by omega) hsz2 ?_; intro v2 w2 hown3 hgrow3 hne3; have hb3 := hb2.grown hgrow3 hsz2 (fun k hk => ownBlock_ge hown2 k hk); obtain ⟨g, cap, hv2, hg, hE3, hc3, hf3, hbb⟩ := FIN.out v2 wc w2 _ (by have e := E3.out; rw [← e, entV_append]; exact hown3) (fun h => hnn2 (hne3.1 h).1) hb3 (by have e := E3.out; rw [← e, List.length_append, List.length_drop, l2]); rw [hv2]; have hs3 := hbb.size; clear hv2 hown3 hgrow3 hne3 hown2 sy2)
            all_goals
              exact bodyPost_ret (v := .agg #[.slice (some ⟨g, 0, none⟩) _ cap]) (by simp [results, Try.results15, go_sem, hc3]) rfl
                ⟨g, _, cap, rfl, hE3.setCell (by show w.heap.size + 1 + 1 ≠ g; omega) _, by omega, hbb.setCell (by simp; omega) _⟩

end Go.Proofs.Qxb6600413a
