/-
  From the form's reading of an argument to what the walks are told of it.
-/
import Derived.Test.Qxb6600413aBase
import Derived.ProofKit
import Derived.OpenShut
import Derived.SliceStrings
namespace Go.Proofs.Qxb6600413a
open Go.ChangeShapes Go.WideShapes Go.ChangeAt Go.RowKit

section
variable {H : Type} {enc : TypeId × Value → H} {P : Program} {w : World} {base : Nat} {spare : Nat → Bool} {held : Bool}

theorem strs_open {t e : TypeId} {fuel : Nat} {cs : List Value} {x : DataW H × List MemPlace} {a : Option Addr} {n c : Nat} (ht : P.underlying t = some (.slice e)) (he : P.underlying e = some .string) (hc : P.cellsOf e = 1)
    (h : DataW.trod enc P w base spare held fuel t cs = some x) (hcs : cs = [.slice a n c]) : ∃ ss, Strs w a n c ss := by
  rcases open_strings ht he hc h with ⟨h0, _⟩ | ⟨ad, len, cap, ss, h0, _, hl, hm, hz, _, hcell, hws⟩
  · rw [hcs] at h0
    simp at h0
    obtain ⟨rfl, rfl, rfl⟩ := h0
    exact ⟨[], rfl, Nat.le_refl _, Nat.zero_le _, .inl rfl, fun _ => rfl, nofun⟩
  · rw [hcs] at h0
    simp at h0
    obtain ⟨rfl, rfl, rfl⟩ := h0
    have hlz : n ≤ ss.length := by rw [hz]; split <;> omega
    refine ⟨ss.take n, by simp; omega, hl, hm, ?_, nofun, fun s hs => hws s (List.mem_of_mem_take hs)⟩
    by_cases h0 : n = 0
    · subst h0; exact .inl rfl
    · obtain ⟨b, off, spot⟩ := ad
      have hspot : spot = none := by simpa [Addr.add] using World.cell?_spot (hcell 0 (by omega))
      subst hspot
      refine .inr ⟨b, off, rfl, ?_, fun i v hi => ?_⟩
      · have := World.block_lt_of_cell? w _ (hcell 0 (by omega))
        simpa [Addr.add] using this
      · have hi2 := List.getElem?_eq_some_iff.1 hi
        obtain ⟨hlt, hv⟩ := hi2
        rw [strV_len, List.length_take] at hlt
        have := hcell i (by omega)
        rw [Addr.add_lit] at this
        rw [this, ← hv]
        simp [strV, List.getD, show i < ss.length by omega]

theorem ints_open {t e : TypeId} {fuel : Nat} {cs : List Value} {x : DataW H × List MemPlace} {a : Option Addr} {n c : Nat} (ht : P.underlying t = some (.slice e)) (he : P.underlying e = some (.int .u64)) (hc : P.cellsOf e = 1)
    (h : DataW.trod enc P w base spare held fuel t cs = some x) (hcs : cs = [.slice a n c]) : ∃ ss, Ints w a n c ss := by
  rcases open_ints ht he hc h with ⟨h0, _⟩ | ⟨ad, len, cap, ss, h0, _, hl, hm, hz, _, hcell, hws⟩
  · rw [hcs] at h0
    simp at h0
    obtain ⟨rfl, rfl, rfl⟩ := h0
    exact ⟨[], rfl, Nat.le_refl _, Nat.zero_le _, .inl rfl, fun _ => rfl, nofun⟩
  · rw [hcs] at h0
    simp at h0
    obtain ⟨rfl, rfl, rfl⟩ := h0
    have hlz : n ≤ ss.length := by rw [hz]; split <;> omega
    refine ⟨ss.take n, by simp; omega, hl, hm, ?_, nofun, fun s hs => ?_⟩
    · by_cases h0 : n = 0
      · subst h0; exact .inl rfl
      · obtain ⟨b, off, spot⟩ := ad
        have hspot : spot = none := by simpa [Addr.add] using World.cell?_spot (hcell 0 (by omega))
        subst hspot
        refine .inr ⟨b, off, rfl, ?_, fun i v hi => ?_⟩
        · have := World.block_lt_of_cell? w _ (hcell 0 (by omega))
          simpa [Addr.add] using this
        · have hi2 := List.getElem?_eq_some_iff.1 hi
          obtain ⟨hlt, hv⟩ := hi2
          rw [intV_len, List.length_take] at hlt
          have := hcell i (by omega)
          rw [Addr.add_lit] at this
          rw [this, ← hv]
          simp [intV, List.getD, show i < ss.length by omega]
    · have := hws s (List.mem_of_mem_take hs)
      have := bounds_u64 this
      omega
end

theorem byt_of {n : Int} (h : (Lit.int .u8 n).wf = true) : Pl.Byt n := by
  have := bounds_u8 h
  exact ⟨by omega, by omega⟩

end Go.Proofs.Qxb6600413a
