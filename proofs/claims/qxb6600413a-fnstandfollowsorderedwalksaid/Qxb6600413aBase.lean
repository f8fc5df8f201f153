/-
  WHAT THE WALKS ARE TOLD OF MEMORY: a slice's address and the cells behind it.
-/
import Derived.Test.Qxb6600413aPlain
import Derived.WalkKit
import Derived.WalkSpells
import Derived.WalkLawsBesides
import Derived.Below
import Derived.Carry
import Derived.WalkSmall
namespace Go.Proofs.Qxb6600413a
open Go.RowKit

/-- The cells 'vs' lie behind the address a (nothing is said where there is none). -/
def Row (w : World) (a : Option Addr) (vs : List Value) : Prop :=
  vs = [] ∨ ∃ b off, a = some ⟨b, off, none⟩ ∧ b < w.heap.size ∧ ∀ i v, vs[i]? = some v → w.cell? ⟨b, off + i, none⟩ = some v

theorem Row.below {w w' : World} {a : Option Addr} {vs : List Value} (h : Row w a vs) {B : Nat} (hb : Below B w w') (hB : w.heap.size ≤ B) : Row w' a vs := by
  rcases h with h | ⟨b, off, rfl, hl, hc⟩
  · exact .inl h
  · exact .inr ⟨b, off, rfl, by have := hb.size; omega, fun i v hv => (hb.cell (by show b < B; omega)).trans (hc i v hv)⟩

theorem Row.at {w : World} {a : Option Addr} {vs : List Value} (h : Row w a vs) (hp : 0 < vs.length) :
    ∃ b off, a = some ⟨b, off, none⟩ ∧ b < w.heap.size ∧ ∀ i v, vs[i]? = some v → w.cell? ⟨b, off + i, none⟩ = some v := by
  rcases h with rfl | h
  · simp at hp
  · exact h

def strV (ss : List ByteArray) : List Value := ss.map Value.string
def intV (ns : List Int) : List Value := ns.map (Value.int .u64)
def entV : List Pl.Ent → List Value
  | [] => []
  | e :: r => .string e.1 :: .int .u64 e.2 :: entV r

theorem strV_len (ss : List ByteArray) : (strV ss).length = ss.length := by simp [strV]
theorem intV_len (ns : List Int) : (intV ns).length = ns.length := by simp [intV]
theorem entV_len : ∀ (es : List Pl.Ent), (entV es).length = es.length * 2
  | [] => rfl
  | e :: r => by simp [entV, entV_len r]; omega

/-- A slice of strings: 'ss' are its elements. -/
structure Strs (w : World) (a : Option Addr) (n c : Nat) (ss : List ByteArray) : Prop where
  len : ss.length = n
  lec : n ≤ c
  max : c ≤ maxLen
  row : Row w a (strV ss)
  nil : a = none → c = 0
  each : ∀ s ∈ ss, s.size ≤ maxLen
structure Ints (w : World) (a : Option Addr) (n c : Nat) (ns : List Int) : Prop where
  len : ns.length = n
  lec : n ≤ c
  max : c ≤ maxLen
  row : Row w a (intV ns)
  nil : a = none → c = 0
  each : ∀ z ∈ ns, 0 ≤ z ∧ z < 18446744073709551616
/-- A slice of entries (it is never nil here): two cells an element. -/
structure Ents (w : World) (b off n c : Nat) (es : List Pl.Ent) : Prop where
  len : es.length = n
  lec : n ≤ c
  max : c ≤ maxLen
  lt : b < w.heap.size
  cell : ∀ i v, (entV es)[i]? = some v → w.cell? ⟨b, off + i, none⟩ = some v
  each : ∀ e ∈ es, e.1.size ≤ maxLen ∧ 0 ≤ e.2 ∧ e.2 < 18446744073709551616

theorem Strs.below {w w' : World} {a : Option Addr} {n c : Nat} {ss : List ByteArray} (h : Strs w a n c ss) {B : Nat} (hb : Below B w w') (hB : w.heap.size ≤ B) : Strs w' a n c ss :=
  ⟨h.len, h.lec, h.max, h.row.below hb hB, h.nil, h.each⟩
theorem Ints.below {w w' : World} {a : Option Addr} {n c : Nat} {ns : List Int} (h : Ints w a n c ns) {B : Nat} (hb : Below B w w') (hB : w.heap.size ≤ B) : Ints w' a n c ns :=
  ⟨h.len, h.lec, h.max, h.row.below hb hB, h.nil, h.each⟩
theorem Ents.below {w w' : World} {b off n c : Nat} {es : List Pl.Ent} (h : Ents w b off n c es) {B : Nat} (hb : Below B w w') (hB : w.heap.size ≤ B) : Ents w' b off n c es :=
  ⟨h.len, h.lec, h.max, by have := hb.size; have := h.lt; omega, fun i v hv => (hb.cell (by have := h.lt; show b < B; omega)).trans (h.cell i v hv), h.each⟩

/-- Where there is an element the address is known, and each cell. -/
theorem Strs.at {w : World} {a : Option Addr} {n c : Nat} {ss : List ByteArray} (h : Strs w a n c ss) (hp : 0 < n) :
    ∃ b off, a = some ⟨b, off, none⟩ ∧ b < w.heap.size ∧ ∀ i (hi : i < ss.length), w.cell? ⟨b, off + i, none⟩ = some (.string (ss[i]'hi)) := by
  obtain ⟨b, off, ha, hb, hc⟩ := h.row.at (by rw [strV_len, h.len]; exact hp)
  exact ⟨b, off, ha, hb, fun i hi => hc i _ (by simp [strV, hi])⟩
theorem Ints.at {w : World} {a : Option Addr} {n c : Nat} {ns : List Int} (h : Ints w a n c ns) (hp : 0 < n) :
    ∃ b off, a = some ⟨b, off, none⟩ ∧ b < w.heap.size ∧ ∀ i (hi : i < ns.length), w.cell? ⟨b, off + i, none⟩ = some (.int .u64 (ns[i]'hi)) := by
  obtain ⟨b, off, ha, hb, hc⟩ := h.row.at (by rw [intV_len, h.len]; exact hp)
  exact ⟨b, off, ha, hb, fun i hi => hc i _ (by simp [intV, hi])⟩
theorem entV_at : ∀ (es : List Pl.Ent) (i : Nat) (hi : i < es.length), (entV es)[i * 2]? = some (.string (es[i]'hi).1) ∧ (entV es)[i * 2 + 1]? = some (.int .u64 (es[i]'hi).2)
  | [], i, hi => by simp at hi
  | e :: r, 0, _ => by simp [entV]
  | e :: r, i + 1, hi => by
    have h := entV_at r i (by simpa using hi)
    have e1 : (i + 1) * 2 = i * 2 + 1 + 1 := by omega
    rw [e1]
    simpa [entV] using h
theorem Ents.at {w : World} {b off n c : Nat} {es : List Pl.Ent} (h : Ents w b off n c es) (i : Nat) (hi : i < es.length) : w.cell? ⟨b, off + i * 2, none⟩ = some (.string (es[i]'hi).1) ∧ w.cell? ⟨b, off + i * 2 + 1, none⟩ = some (.int .u64 (es[i]'hi).2) :=
  ⟨h.cell _ _ (entV_at es i hi).1, by rw [Nat.add_assoc]; exact h.cell _ _ (entV_at es i hi).2⟩

theorem below_bytes {w w' : World} {n : Nat} (h : w' = w.drewN n) : Below w.heap.size w w' := by subst h; exact below_drewN (Below.refl _ _) n

end Go.Proofs.Qxb6600413a
