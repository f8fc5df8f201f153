/-
  Between the walks and the plain laws: a vector as its two columns.
-/
import Derived.Test.Qxb6600413aW2
namespace Go.Proofs.Qxb6600413a
open Go.RowKit

theorem mrg_len (x y : List Pl.Ent) : (Pl.mrg x y).length ≤ x.length + y.length := by
  fun_induction Pl.mrg x y with
  | case1 ys => simp
  | case2 x xs => simp
  | case3 x xs y ys h ih => simp only [List.length_cons]; omega
  | case4 x xs y ys h h2 ih => simp only [List.length_cons] at *; omega
  | case5 x xs y ys h h2 ih => simp only [List.length_cons] at *; omega

theorem vec_cols : ∀ (m : List Pl.Ent), vec (m.map Prod.fst) (m.map Prod.snd) = m
  | [] => rfl
  | e :: r => by
    have := vec_cols r
    unfold vec at *
    simp [this]

theorem wf_cols {m : List Pl.Ent} (hs : Pl.Srt m) (hp : Pl.Pos m) : WF (m.map Prod.fst) (m.map Prod.snd) := by
  refine ⟨by simp, fun i h => ?_, fun i h => ?_⟩
  · have h' : i < m.length := by simpa using h
    have := hp m[i] (List.getElem_mem h')
    simp only [List.getElem_map]
    omega
  · have h' : i + 1 < m.length := by simpa using h
    simp only [List.getElem_map]
    exact (List.pairwise_iff_getElem.1 hs) i (i + 1) (by omega) h' (by omega)

theorem vec_len {ss : List ByteArray} {ns : List Int} (h : ss.length = ns.length) : (vec ss ns).length = ss.length := by simp [vec]; omega

/-- The merge's entries are the larger of both counters. -/
theorem pm1 {x y : List Pl.Ent} (sx : Pl.Srt x) (sy : Pl.Srt y) (px : Pl.Pos x) (py : Pl.Pos y) {ids : List ByteArray} {cs : List Int} (hi : ids = (Pl.mrg x y).map Prod.fst) (hc : cs = (Pl.mrg x y).map Prod.snd) :
    ∀ k (h : k < ids.length) (h' : k < cs.length), cs[k] = max (Pl.get x ids[k]) (Pl.get y ids[k]) := by
  subst hi hc
  intro k h h'
  have hk : k < (Pl.mrg x y).length := by simpa using h
  simp only [List.getElem_map]
  rw [← Pl.get_mrg x y sx sy px py, Pl.get_of_mem (Pl.mrg_srt x y sx sy) (List.getElem_mem hk)]

/-- Each id of a part has an entry in the merge. -/
theorem pm2 {x y : List Pl.Ent} (sx : Pl.Srt x) (sy : Pl.Srt y) (px : Pl.Pos x) (py : Pl.Pos y) {ids : List ByteArray} {cs : List Int} (hi : ids = (Pl.mrg x y).map Prod.fst) (hc : cs = (Pl.mrg x y).map Prod.snd) {id : ByteArray} (h : 0 < Pl.get x id ∨ 0 < Pl.get y id) :
    Pl.get (vec ids cs) id ≠ 0 := by
  subst hi hc
  rw [vec_cols, Pl.get_mrg x y sx sy px py]
  omega
theorem get_pos_at {ss : List ByteArray} {ns : List Int} (W : WF ss ns) (hn : ∀ z ∈ ns, 0 ≤ z ∧ z < 18446744073709551616) (k : Nat) (h : k < ss.length) : 0 < Pl.get (vec ss ns) ss[k] := by
  have h' : k < ns.length := by rw [← W.1]; exact h
  rw [get_hit W.srtS W.1 h h']
  have := W.2.1 k h'
  have := (hn _ (List.getElem_mem h')).1
  omega

theorem Strs.drewN {w : World} {a : Option Addr} {n c : Nat} {ss : List ByteArray} (h : Strs w a n c ss) (q : Nat) : Strs (w.drewN q) a n c ss := h.below (below_bytes rfl) (Nat.le_refl _)
theorem Ints.drewN {w : World} {a : Option Addr} {n c : Nat} {ss : List Int} (h : Ints w a n c ss) (q : Nat) : Ints (w.drewN q) a n c ss := h.below (below_bytes rfl) (Nat.le_refl _)
theorem Ents.drewN {w : World} {b off n c : Nat} {es : List Pl.Ent} (h : Ents w b off n c es) (q : Nat) : Ents (w.drewN q) b off n c es := h.below (below_bytes rfl) (Nat.le_refl _)

end Go.Proofs.Qxb6600413a
