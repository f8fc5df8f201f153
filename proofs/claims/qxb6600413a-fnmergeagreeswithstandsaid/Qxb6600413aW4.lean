/-
  A law for the walk: 'zzc := make([]T, len(xs)); copy(zzc, xs)': the copy reads as xs does.
-/
import Derived.Test.Qxb6600413aW2
import Derived.Laws.CopyOwn
namespace Go.Proofs.Qxb6600413a
open Go.RowKit

theorem wpList_copy_row {P : Program} {w : World} {ops : Array Oper} {rest : List Oper} {o : Oper} {a : Act} {Q : Exit → Act → World → Prop} (hgd : o.guard = none) (d s : Operand) (T : TypeId)
    (ho : o.op = .call { callee := .builtin .copy, args := #[d, s], argTypes := #[T, T] }) (elem : TypeId) (hu : P.underlying T = some (.slice elem)) (hsz : (P.info? elem).map (·.size) = some 1)
    (g n sCap : Nat) (sa : Option Addr) (hd : a.eval d = .slice (some ⟨g, 0, none⟩) n n) (hs : a.eval s = .slice sa n sCap)
    (base : Nat) (zs : List Value) (hown : w.ownsRow base elem 1 (.slice (some ⟨g, 0, none⟩) n n) n zs) (vs : List Value) (hv : vs.length = n) (hrow : Row w sa vs) (h1 : ∀ v ∈ vs, v.oneCell' = true)
    (B : Nat) (w0 : World) (hb : Below B w0 w) (hBg : B ≤ g)
    (h : ∀ w', Row w' (some ⟨g, 0, none⟩) vs → Below B w0 w' → wpList P ops Q rest (a.put o.dst (goInt n)) w') :
    wpList P ops Q (o :: rest) a w := by
  rcases hown.2 with ⟨h', _⟩ | ⟨g', cap', cur, h', _, hg, _, _, hcs, _⟩
  · simp at h'
  simp only [Value.slice.injEq, Option.some.injEq, Addr.mk.injEq, and_true, true_and] at h'
  obtain ⟨rfl, rfl⟩ := h'
  have hlc : cur.toList.length = n := by simpa using hcs
  refine wpList_copy_splice hgd d s T T ho elem hu hsz (some ⟨g, 0, none⟩) sa n n n sCap hd hs g 0 cur.toList elem (by simpa using hg) vs (by simp [hv]) ?_ (by omega) h1 B w0 hb hBg ?_
  · intro h0
    obtain ⟨b, off, ha, _, hc⟩ := hrow.at h0
    exact ⟨rfl, _, ha, fun j v hj => by rw [Addr.add_lit]; exact hc j v hj⟩
  · intro w' hw' hb'
    rw [hv]
    refine h w' ?_ hb'
    have e : splice cur.toList 0 vs = vs := by
      unfold splice
      rw [List.take_zero, List.nil_append, List.drop_eq_nil_of_le (by omega), List.append_nil]
    have hw2 := hw'.out
    rw [e] at hw2
    refine .inr ⟨g, 0, rfl, ?_, fun i v hi => ?_⟩
    · have := Array.getElem?_eq_some_iff.1 hw2; exact this.1
    · rw [Nat.zero_add, cell_of_row w' g i vs.toArray elem (0, 0) hw2]; simpa using hi

theorem strV_one (ss : List ByteArray) : ∀ v ∈ strV ss, v.oneCell' = true := by
  intro v hv; obtain ⟨s, _, rfl⟩ := List.mem_map.1 hv; rfl
theorem intV_one (ns : List Int) : ∀ v ∈ intV ns, v.oneCell' = true := by
  intro v hv; obtain ⟨s, _, rfl⟩ := List.mem_map.1 hv; rfl
theorem Try.one9 : (Try.prog.info? 9).map (·.size) = some 1 := by kernel_rfl
theorem Try.one34 : (Try.prog.info? 34).map (·.size) = some 1 := by kernel_rfl

theorem Strs.copied {w w' : World} {a : Option Addr} {n c g : Nat} {ss : List ByteArray} (h : Strs w a n c ss) (hr : Row w' (some ⟨g, 0, none⟩) (strV ss)) : Strs w' (some ⟨g, 0, none⟩) n n ss :=
  ⟨h.len, Nat.le_refl _, Nat.le_trans h.lec h.max, hr, nofun, h.each⟩
theorem Ints.copied {w w' : World} {a : Option Addr} {n c g : Nat} {ss : List Int} (h : Ints w a n c ss) (hr : Row w' (some ⟨g, 0, none⟩) (intV ss)) : Ints w' (some ⟨g, 0, none⟩) n n ss :=
  ⟨h.len, Nat.le_refl _, Nat.le_trans h.lec h.max, hr, nofun, h.each⟩

end Go.Proofs.Qxb6600413a
