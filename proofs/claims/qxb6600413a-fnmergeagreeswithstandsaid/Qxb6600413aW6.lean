/-
  zSameVector: two vectors are the same. Its one statement holds five calls in an order that Go leaves open.
-/
import Derived.Test.Qxb6600413aW2
import Derived.Test.Qxb6600413aW5
import Derived.Deep.RegionHeld3
import Derived.Deep.RegionWith
namespace Go.Proofs.Qxb6600413a
open Go.RowKit

theorem cols_eq : ∀ (x y : List Pl.Ent), (x.map Prod.fst = y.map Prod.fst ∧ x.map Prod.snd = y.map Prod.snd) ↔ x = y
  | [], [] => by simp
  | [], _ :: _ => by simp
  | _ :: _, [] => by simp
  | a :: x, b :: y => by
    have ih := cols_eq x y
    simp only [List.map_cons, List.cons.injEq]
    constructor
    · rintro ⟨⟨h1, h2⟩, h3, h4⟩
      exact ⟨Prod.ext h1 h3, ih.1 ⟨h2, h4⟩⟩
    · rintro ⟨h1, h2⟩
      subst h1 h2
      exact ⟨⟨rfl, rfl⟩, rfl, rfl⟩
theorem keepS {W X Y : World} {p q : Addr} {v u : Value} (c1 : W.cell? p = some v) (c2 : W.cell? q = some u) (hb : Below W.heap.size W X) (hY : Below X.heap.size X Y) :
    Y.cell? p = some v ∧ Y.cell? q = some u ∧ Below W.heap.size W Y := by
  have h : Below W.heap.size W Y := hb.trans (hY.mono hb.size)
  exact ⟨(h.cell (World.block_lt_of_cell? W _ c1)).trans c1, (h.cell (World.block_lt_of_cell? W _ c2)).trans c2, h⟩

theorem keepD {W : World} {p q : Addr} {v u : Value} (c1 : W.cell? p = some v) (c2 : W.cell? q = some u) : W.drew.cell? p = some v ∧ W.drew.cell? q = some u ∧ Below W.heap.size W W.drew :=
  ⟨c1, c2, (Below.refl _ _).drew⟩

set_option maxRecDepth 100000 in
set_option maxHeartbeats 40000000 in
theorem zSameVector_any (b1 o1 n1 c1 b2 o2 n2 c2 : Nat) (x y : List Pl.Ent) (w : World) (hx : Ents w b1 o1 n1 c1 x) (hy : Ents w b2 o2 n2 c2 y) (H1 : n1 ≤ 4194304) (H2 : n2 ≤ 4194304) :
    Calls Try.prog 21 #[.agg #[.slice (some ⟨b1, o1, none⟩) n1 c1], .agg #[.slice (some ⟨b2, o2, none⟩) n2 c2]] w fun e w' =>
      ∃ b : Bool, e = .returned (.bool b) ∧ (b = true ↔ x = y) ∧ Below w.heap.size w w' := by
  go_enter Try.func21, Try.ntmps21
  go_wp2_with fail
  obtain ⟨W, hW⟩ : ∃ W, W = ((w.alloc (.cells #[.slice (some ⟨b1, o1, none⟩) n1 c1] 29)).alloc (.cells #[.slice (some ⟨b2, o2, none⟩) n2 c2] 29)) := ⟨_, rfl⟩
  have HWb : Below w.heap.size w W := by rw [hW]; exact ((Below.refl _ _).alloc (Nat.le_refl _) _).alloc (by simp) _
  have cW1 : W.cell? ⟨w.heap.size, 0, none⟩ = some (.slice (some ⟨b1, o1, none⟩) n1 c1) := by rw [hW]; simp
  have cW2 : W.cell? ⟨w.heap.size + 1, 0, none⟩ = some (.slice (some ⟨b2, o2, none⟩) n2 c2) := by rw [hW]; simp
  have E1 := hx.below HWb (Nat.le_refl _)
  have E2 := hy.below HWb (Nat.le_refl _)
  rw [← hW]
  have bW : Below W.heap.size W W := Below.refl _ _
  clear hW hx hy
  go_region_held3 (fun w' => w'.cell? ⟨w.heap.size, 0, none⟩ = some (.slice (some ⟨b1, o1, none⟩) n1 c1) ∧ w'.cell? ⟨w.heap.size + 1, 0, none⟩ = some (.slice (some ⟨b2, o2, none⟩) n2 c2) ∧ Below W.heap.size W w')
    (first | exact keepD cW1 cW2 | go_keep | (go_split_ands; first | exact keepS cW1 cW2 (by assumption) Ba | exact keepS cW1 cW2 (by assumption) Bb | exact keepS cW1 cW2 (by assumption) Bc | exact keepS cW1 cW2 (by assumption) Bd | exact keepS cW1 cW2 (by assumption) Be))
    (first | (go_at_call_of 16 b1; go_split_ands; refine (zzVectorIDs_any b1 o1 n1 c1 x _ (by exact E1.below (by assumption) (Nat.le_refl _)) H1).mono ?_; rintro e wa ⟨ua, rfl, Ua, Ba⟩) | (go_at_call_of 17 b1; go_split_ands; refine (zzVectorCounts_any b1 o1 n1 c1 x _ (by exact E1.below (by assumption) (Nat.le_refl _)) H1).mono ?_; rintro e wb ⟨ub, rfl, Ub, Bb⟩) | (go_at_call_of 16 b2; go_split_ands; refine (zzVectorIDs_any b2 o2 n2 c2 y _ (by exact E2.below (by assumption) (Nat.le_refl _)) H2).mono ?_; rintro e wc ⟨uc, rfl, Uc, Bc⟩) | (go_at_call_of 17 b2; go_split_ands; refine (zzVectorCounts_any b2 o2 n2 c2 y _ (by exact E2.below (by assumption) (Nat.le_refl _)) H2).mono ?_; rintro e wd ⟨ud, rfl, Ud, Bd⟩) | (go_at_call 33; refine (zSameSlices_any ua ub uc ud n1 n1 n1 n1 n2 n2 n2 n2 (x.map Prod.fst) (y.map Prod.fst) (x.map Prod.snd) (y.map Prod.snd) _ (by first | exact Ua | exact (Ua.below Bb (Nat.le_refl _)) | exact (Ua.below Bc (Nat.le_refl _)) | exact (Ua.below Bd (Nat.le_refl _)) | exact ((Ua.below Bb (Nat.le_refl _)).below Bc (Nat.le_refl _)) | exact ((Ua.below Bb (Nat.le_refl _)).below Bd (Nat.le_refl _)) | exact ((Ua.below Bc (Nat.le_refl _)).below Bb (Nat.le_refl _)) | exact ((Ua.below Bc (Nat.le_refl _)).below Bd (Nat.le_refl _)) | exact ((Ua.below Bd (Nat.le_refl _)).below Bb (Nat.le_refl _)) | exact ((Ua.below Bd (Nat.le_refl _)).below Bc (Nat.le_refl _)) | exact (((Ua.below Bb (Nat.le_refl _)).below Bc (Nat.le_refl _)).below Bd (Nat.le_refl _)) | exact (((Ua.below Bb (Nat.le_refl _)).below Bd (Nat.le_refl _)).below Bc (Nat.le_refl _)) | exact (((Ua.below Bc (Nat.le_refl _)).below Bb (Nat.le_refl _)).below Bd (Nat.le_refl _)) | exact (((Ua.below Bc (Nat.le_refl _)).below Bd (Nat.le_refl _)).below Bb (Nat.le_refl _)) | exact (((Ua.below Bd (Nat.le_refl _)).below Bb (Nat.le_refl _)).below Bc (Nat.le_refl _)) | exact (((Ua.below Bd (Nat.le_refl _)).below Bc (Nat.le_refl _)).below Bb (Nat.le_refl _))) (by first | exact Ub | exact (Ub.below Ba (Nat.le_refl _)) | exact (Ub.below Bc (Nat.le_refl _)) | exact (Ub.below Bd (Nat.le_refl _)) | exact ((Ub.below Ba (Nat.le_refl _)).below Bc (Nat.le_refl _)) | exact ((Ub.below Ba (Nat.le_refl _)).below Bd (Nat.le_refl _)) | exact ((Ub.below Bc (Nat.le_refl _)).below Ba (Nat.le_refl _)) | exact ((Ub.below Bc (Nat.le_refl _)).below Bd (Nat.le_refl _)) | exact ((Ub.below Bd (Nat.le_refl _)).below Ba (Nat.le_refl _)) | exact ((Ub.below Bd (Nat.le_refl _)).below Bc (Nat.le_refl _)) | exact (((Ub.below Ba (Nat.le_refl _)).below Bc (Nat.le_refl _)).below Bd (Nat.le_refl _)) | exact (((Ub.below Ba (Nat.le_refl _)).below Bd (Nat.le_refl _)).below Bc (Nat.le_refl _)) | exact (((Ub.below Bc (Nat.le_refl _)).below Ba (Nat.le_refl _)).below Bd (Nat.le_refl _)) | exact (((Ub.below Bc (Nat.le_refl _)).below Bd (Nat.le_refl _)).below Ba (Nat.le_refl _)) | exact (((Ub.below Bd (Nat.le_refl _)).below Ba (Nat.le_refl _)).below Bc (Nat.le_refl _)) | exact (((Ub.below Bd (Nat.le_refl _)).below Bc (Nat.le_refl _)).below Ba (Nat.le_refl _))) (by first | exact Uc | exact (Uc.below Ba (Nat.le_refl _)) | exact (Uc.below Bb (Nat.le_refl _)) | exact (Uc.below Bd (Nat.le_refl _)) | exact ((Uc.below Ba (Nat.le_refl _)).below Bb (Nat.le_refl _)) | exact ((Uc.below Ba (Nat.le_refl _)).below Bd (Nat.le_refl _)) | exact ((Uc.below Bb (Nat.le_refl _)).below Ba (Nat.le_refl _)) | exact ((Uc.below Bb (Nat.le_refl _)).below Bd (Nat.le_refl _)) | exact ((Uc.below Bd (Nat.le_refl _)).below Ba (Nat.le_refl _)) | exact ((Uc.below Bd (Nat.le_refl _)).below Bb (Nat.le_refl _)) | exact (((Uc.below Ba (Nat.le_refl _)).below Bb (Nat.le_refl _)).below Bd (Nat.le_refl _)) | exact (((Uc.below Ba (Nat.le_refl _)).below Bd (Nat.le_refl _)).below Bb (Nat.le_refl _)) | exact (((Uc.below Bb (Nat.le_refl _)).below Ba (Nat.le_refl _)).below Bd (Nat.le_refl _)) | exact (((Uc.below Bb (Nat.le_refl _)).below Bd (Nat.le_refl _)).below Ba (Nat.le_refl _)) | exact (((Uc.below Bd (Nat.le_refl _)).below Ba (Nat.le_refl _)).below Bb (Nat.le_refl _)) | exact (((Uc.below Bd (Nat.le_refl _)).below Bb (Nat.le_refl _)).below Ba (Nat.le_refl _))) (by first | exact Ud | exact (Ud.below Ba (Nat.le_refl _)) | exact (Ud.below Bb (Nat.le_refl _)) | exact (Ud.below Bc (Nat.le_refl _)) | exact ((Ud.below Ba (Nat.le_refl _)).below Bb (Nat.le_refl _)) | exact ((Ud.below Ba (Nat.le_refl _)).below Bc (Nat.le_refl _)) | exact ((Ud.below Bb (Nat.le_refl _)).below Ba (Nat.le_refl _)) | exact ((Ud.below Bb (Nat.le_refl _)).below Bc (Nat.le_refl _)) | exact ((Ud.below Bc (Nat.le_refl _)).below Ba (Nat.le_refl _)) | exact ((Ud.below Bc (Nat.le_refl _)).below Bb (Nat.le_refl _)) | exact (((Ud.below Ba (Nat.le_refl _)).below Bb (Nat.le_refl _)).below Bc (Nat.le_refl _)) | exact (((Ud.below Ba (Nat.le_refl _)).below Bc (Nat.le_refl _)).below Bb (Nat.le_refl _)) | exact (((Ud.below Bb (Nat.le_refl _)).below Ba (Nat.le_refl _)).below Bc (Nat.le_refl _)) | exact (((Ud.below Bb (Nat.le_refl _)).below Bc (Nat.le_refl _)).below Ba (Nat.le_refl _)) | exact (((Ud.below Bc (Nat.le_refl _)).below Ba (Nat.le_refl _)).below Bb (Nat.le_refl _)) | exact (((Ud.below Bc (Nat.le_refl _)).below Bb (Nat.le_refl _)).below Ba (Nat.le_refl _)))).mono ?_; rintro e we ⟨bb, rfl, hbb, Be⟩))
  go_split_ands
  go_wp2
  go_ret
  exact ⟨bb, rfl, hbb.trans (cols_eq x y), HWb.trans (Below.mono (by assumption) HWb.size)⟩

end Go.Proofs.Qxb6600413a
