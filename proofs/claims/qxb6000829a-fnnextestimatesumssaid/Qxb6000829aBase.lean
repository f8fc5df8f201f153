/-
  THE PLAIN LAW of 'FnNextEstimateSums', and what the walks are told of memory.
-/
import Derived.WalkKit
import Derived.WalkSpells
import Derived.WalkLawsBesides
import Derived.Below
import Derived.Carry
import Derived.WalkSmall
import Derived.OwnWalk
import Derived.Laws.OwnMore
namespace Go.Proofs.Qxb6000829a
open Go.RowKit

/-! ### The plain law -/
/-- What Estimate says of entry d: it is there and counted (ok, and the number); or not (false, 0). -/
def Est (l : List Int) (d : Nat) (v : Int) (ok : Bool) : Prop :=
  (ok = true ∧ ∃ h : d < l.length, l[d] = v ∧ v ≠ -1) ∨ (ok = false ∧ v = 0 ∧ ∀ h : d < l.length, l[d] = -1)
/-- One entry of Next. -/
def add1 (a b : Int) : Int := if a = -1 ∨ b = -1 then -1 else wrap64 (a + b)
def nxt (own : Int) (c r : List Int) : List Int := own :: List.zipWith add1 c r
def Fits (l : List Int) : Prop := ∀ z ∈ l, -1 ≤ z ∧ z ≤ 9223372036854775807

theorem add1_ne {a b : Int} (ha : -1 ≤ a ∧ a ≤ 9223372036854775807) (hb : -1 ≤ b ∧ b ≤ 9223372036854775807) (h1 : a ≠ -1) (h2 : b ≠ -1) : add1 a b = wrap64 (a + b) ∧ wrap64 (a + b) ≠ -1 := by
  unfold add1
  rw [if_neg (by omega)]
  refine ⟨rfl, ?_⟩
  unfold wrap64
  omega
theorem est_zero {own v : Int} {ok : Bool} {c r : List Int} (h : Est (nxt own c r) 0 v ok) : (ok = true ∧ v = own ∧ own ≠ -1) ∨ (ok = false ∧ v = 0 ∧ own = -1) := by
  rcases h with ⟨h1, h2, h3, h4⟩ | ⟨h1, h2, h3⟩
  · have : own = v := h3
    exact .inl ⟨h1, this.symm, by rw [this]; exact h4⟩
  · exact .inr ⟨h1, h2, h3 (by simp [nxt])⟩
theorem est_succ {own v vc vr : Int} {ok okc okr : Bool} {c r : List Int} {d : Nat} (fc : Fits c) (fr : Fits r) (h : Est (nxt own c r) (d + 1) v ok) (hc : Est c d vc okc) (hr : Est r d vr okr) :
    (ok = true ∧ okc = true ∧ okr = true ∧ v = wrap64 (vc + vr)) ∨ (ok = false ∧ v = 0 ∧ (okc = false ∨ (okc = true ∧ okr = false))) := by
  have hlen : (nxt own c r).length = min c.length r.length + 1 := by simp [nxt]
  have hat : ∀ (g : d + 1 < (nxt own c r).length) (h1 : d < c.length) (h2 : d < r.length), (nxt own c r)[d + 1] = add1 c[d] r[d] := by
    intro g h1 h2
    simp [nxt]
  rcases hc with ⟨c1, c2, c3, c4⟩ | ⟨c1, c2, c3⟩
  · rcases hr with ⟨r1, r2, r3, r4⟩ | ⟨r1, r2, r3⟩
    · have g : d + 1 < (nxt own c r).length := by rw [hlen]; omega
      have e := hat g c2 r2
      have := add1_ne (fc _ (List.getElem_mem c2)) (fr _ (List.getElem_mem r2)) (by rw [c3]; exact c4) (by rw [r3]; exact r4)
      rcases h with ⟨n1, n2, n3, n4⟩ | ⟨n1, n2, n3⟩
      · exact .inl ⟨n1, c1, r1, by rw [← n3, e, this.1, c3, r3]⟩
      · have := n3 g
        omega
    · refine .inr ?_
      have hno : ∀ g : d + 1 < (nxt own c r).length, (nxt own c r)[d + 1] = -1 := by
        intro g
        have h2 : d < r.length := by rw [hlen] at g; omega
        rw [hat g c2 h2]
        unfold add1
        rw [if_pos (.inr (r3 h2))]
      rcases h with ⟨n1, n2, n3, n4⟩ | ⟨n1, n2, n3⟩
      · exact absurd (n3.symm.trans (hno n2)) n4
      · exact ⟨n1, n2, .inr ⟨c1, r1⟩⟩
  · refine .inr ?_
    have hno : ∀ g : d + 1 < (nxt own c r).length, (nxt own c r)[d + 1] = -1 := by
      intro g
      have h1 : d < c.length := by rw [hlen] at g; omega
      have h2 : d < r.length := by rw [hlen] at g; omega
      rw [hat g h1 h2]
      unfold add1
      rw [if_pos (.inl (c3 h1))]
    rcases h with ⟨n1, n2, n3, n4⟩ | ⟨n1, n2, n3⟩
    · exact absurd (n3.symm.trans (hno n2)) n4
    · exact ⟨n1, n2, .inl c1⟩

/-! ### Memory -/
def Row (w : World) (a : Option Addr) (vs : List Value) : Prop :=
  vs = [] ∨ ∃ b off, a = some ⟨b, off, none⟩ ∧ b < w.heap.size ∧ ∀ i v, vs[i]? = some v → w.cell? ⟨b, off + i, none⟩ = some v
theorem Row.below {w w' : World} {a : Option Addr} {vs : List Value} (h : Row w a vs) {B : Nat} (hb : Below B w w') (hB : w.heap.size ≤ B) : Row w' a vs := by
  rcases h with h | ⟨b, off, rfl, hl, hc⟩
  · exact .inl h
  · exact .inr ⟨b, off, rfl, by have := hb.size; omega, fun i v hv => (hb.cell (by show b < B; omega)).trans (hc i v hv)⟩
theorem Row.at {w : World} {a : Option Addr} {vs : List Value} (h : Row w a vs) (hp : 0 < vs.length) :
    ∃ b off, a = some ⟨b, off, none⟩ ∧ b < w.heap.size ∧ ∀ i v, vs[i]? = some v → w.cell? ⟨b, off + i, none⟩ = some v := by
  rcases h with rfl | h
  · simp at hp
  · exact h
def intV (ns : List Int) : List Value := ns.map (Value.int .i64)
theorem intV_len (ns : List Int) : (intV ns).length = ns.length := by simp [intV]
/-- A slice of ints: 'ns' are its elements. -/
structure Ints (w : World) (a : Option Addr) (n c : Nat) (ns : List Int) : Prop where
  len : ns.length = n
  lec : n ≤ c
  max : c ≤ maxLen
  row : Row w a (intV ns)
  nil : a = none → c = 0
theorem Ints.below {w w' : World} {a : Option Addr} {n c : Nat} {ns : List Int} (h : Ints w a n c ns) {B : Nat} (hb : Below B w w') (hB : w.heap.size ≤ B) : Ints w' a n c ns :=
  ⟨h.len, h.lec, h.max, h.row.below hb hB, h.nil⟩
theorem Ints.at {w : World} {a : Option Addr} {n c : Nat} {ns : List Int} (h : Ints w a n c ns) (hp : 0 < n) :
    ∃ b off, a = some ⟨b, off, none⟩ ∧ b < w.heap.size ∧ ∀ i (hi : i < ns.length), w.cell? ⟨b, off + i, none⟩ = some (.int .i64 (ns[i]'hi)) := by
  obtain ⟨b, off, ha, hb, hc⟩ := h.row.at (by rw [intV_len, h.len]; exact hp)
  exact ⟨b, off, ha, hb, fun i hi => hc i _ (by simp [intV, hi])⟩
theorem below_bytes {w w' : World} {n : Nat} (h : w' = w.drewN n) : Below w.heap.size w w' := by subst h; exact below_drewN (Below.refl _ _) n

/-- 'make([]T, 1, n)', n A VARIABLE: one zero element is owned; there is room for n. -/
theorem wpList_make_one {P : Program} (w : World) {ops : Array Oper} {rest : List Oper} {o : Oper} {a : Act} {Q : Exit → Act → World → Prop}
    (hg : o.guard = none) (l c : Operand) (t : TypeId) (hop : o.op = Op.makeSlice t l c)
    (base : Nat) (e : TypeId) (i : TypeInfo) (z : Value) (h1 : P.underlying t = some (.slice e)) (h2 : P.info? e = some i) (h3 : i.zero = some z) (h4 : i.size = 1)
    (kl kc : IntKind) (C : Int) (n : Nat) (hl : a.eval l = .int kl 1) (hc : a.eval c = .int kc C) (hC : C = (n : Int)) (hn : 1 ≤ n) (b2 : i.bytes * n ≤ 281474976710656) (b3 : n ≤ maxLen) (b4 : base ≤ w.heap.size)
    (hK : ∀ w' zs, w'.ownsRow base e 1 (.slice (some ⟨w.heap.size, 0, none⟩) 1 n) 1 zs → w.grownBy w' none → wpList P ops Q rest (a.put o.dst (.slice (some ⟨w.heap.size, 0, none⟩) 1 n)) w') :
    wpList P ops Q (o :: rest) a w := by
  refine wpList_plain hg fun K hK' => ?_
  have h63' : (n : Int) ≤ 9223372036854775807 := by
    have h := b3
    simp [maxLen] at h
    omega
  have hb' : (i.bytes : Int) * (n : Int) ≤ 281474976710656 := by
    have h : ((i.bytes * n : Nat) : Int) ≤ 281474976710656 := by omega
    rwa [Int.natCast_mul] at h
  have hrun := run_make (P := P) w t e i z h1 h2 h3 kl kc 1 n (by omega) (by omega) hb' h63'
  simp only [Int.toNat_natCast] at hrun
  rw [show (1 : Int).toNat = 1 from rfl] at hrun
  subst hC
  unfold Oper.wp
  simp [execOp, hop, hl, hc, hrun, Result.andThen]
  refine hK' _ _ (hK _ ((madeCells z.cells (n * i.size)).toList.take 1) ⟨?_, .inr ⟨w.heap.size, n, _, rfl, b4, heap_alloc_new w _, hn, b3, by rw [size_madeCells, h4], by rw [Nat.one_mul]⟩⟩ (World.grownBy_alloc w _ none))
  rw [List.length_take, Array.length_toList, size_madeCells, h4]
  omega

end Go.Proofs.Qxb6000829a
