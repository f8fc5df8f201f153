/-
  THE PLAIN LAWS: vectors as lists of (id, counter), merged, walked, looked up. No Go in sight but the model's '<' on strings and its '&', '|' on a byte.
-/
import Derived.WalkKit
import Derived.Laws.BitsAllLaws
namespace Go.Proofs.Qxb6600413a.Pl
open Go

/-! ### The order of the ids -/
abbrev Ent := ByteArray × Int
def bl (a b : ByteArray) : Bool := Op.bytesLess a.toList b.toList
def be (a b : ByteArray) : Bool := a.toList == b.toList

theorem less_iff (x y : List UInt8) : Op.bytesLess x y = true ↔ x < y := by
  induction x generalizing y with
  | nil => cases y <;> simp [Op.bytesLess]
  | cons a x ih =>
    cases y with
    | nil => simp [Op.bytesLess]
    | cons b y =>
      rw [Op.bytesLess, List.cons_lt_cons_iff]
      simp [ih]

theorem be_iff (a b : ByteArray) : be a b = true ↔ a = b := by
  unfold be
  rw [beq_iff_eq, ByteArray.toList_eq, ByteArray.toList_eq]
  exact ⟨WideShapes.bytes_inj, fun h => by rw [h]⟩
theorem be_refl (a : ByteArray) : be a a = true := (be_iff a a).2 rfl
theorem be_false (a b : ByteArray) : be a b = false ↔ a ≠ b := by
  rw [← Bool.not_eq_true, be_iff]
theorem bl_iff (a b : ByteArray) : bl a b = true ↔ a.toList < b.toList := by
  unfold bl; exact less_iff _ _
theorem bl_irrefl (a : ByteArray) : bl a a = false := by
  rw [← Bool.not_eq_true, bl_iff]; exact List.lt_irrefl _
theorem bl_trans {a b c : ByteArray} (h1 : bl a b = true) (h2 : bl b c = true) : bl a c = true := by
  rw [bl_iff] at *; exact List.lt_trans h1 h2
theorem bl_ne {a b : ByteArray} (h : bl a b = true) : a ≠ b := by
  rintro rfl; rw [bl_irrefl] at h; cases h
theorem bl_asymm {a b : ByteArray} (h : bl a b = true) : bl b a = false := by
  rw [← Bool.not_eq_true]; intro h2; have := bl_trans h h2; rw [bl_irrefl] at this; cases this
theorem bl_total {a b : ByteArray} (h1 : bl a b = false) (h2 : a ≠ b) : bl b a = true := by
  rw [← Bool.not_eq_true, bl_iff] at h1
  rw [bl_iff]
  rcases List.le_iff_lt_or_eq.1 (List.not_lt.1 h1) with h | h
  · exact h
  · exact absurd (WideShapes.bytes_inj (by rw [← ByteArray.toList_eq, ← ByteArray.toList_eq]; exact h.symm)) h2

/-! ### Vectors -/
def Srt (l : List Ent) : Prop := l.Pairwise fun a b => bl a.1 b.1 = true
def Pos (l : List Ent) : Prop := ∀ e ∈ l, 0 < e.2
def get : List Ent → ByteArray → Int
  | [], _ => 0
  | e :: r, id => if be e.1 id then e.2 else get r id
def mrg : List Ent → List Ent → List Ent
  | [], ys => ys
  | x :: xs, [] => x :: xs
  | x :: xs, y :: ys =>
    if be x.1 y.1 then (x.1, max x.2 y.2) :: mrg xs ys
    else if bl x.1 y.1 then x :: mrg xs (y :: ys)
    else y :: mrg (x :: xs) ys
def prs : List Ent → List Ent → List (Int × Int)
  | [], ys => ys.map fun e => (0, e.2)
  | x :: xs, [] => (x :: xs).map fun e => (e.2, 0)
  | x :: xs, y :: ys =>
    if be x.1 y.1 then (x.2, y.2) :: prs xs ys
    else if bl x.1 y.1 then (x.2, 0) :: prs xs (y :: ys)
    else (0, y.2) :: prs (x :: xs) ys

theorem mrg_nil (x : List Ent) : mrg x [] = x := by cases x <;> simp [mrg]
theorem mrg_nil' (y : List Ent) : mrg [] y = y := by simp [mrg]
theorem prs_nil (x : List Ent) : prs x [] = x.map fun e => (e.2, 0) := by cases x <;> simp [prs]
theorem prs_nil' (y : List Ent) : prs [] y = y.map fun e => (0, e.2) := by simp [prs]

theorem get_of_not {l : List Ent} {id : ByteArray} (h : ∀ e ∈ l, e.1 ≠ id) : get l id = 0 := by
  induction l with
  | nil => rfl
  | cons e r ih =>
    have h1 : be e.1 id = false := (be_false _ _).2 (h e (by simp))
    simp only [get, h1]
    exact ih fun e he => h e (by simp [he])
theorem get_cons_ne {e : Ent} {r : List Ent} {id : ByteArray} (h : e.1 ≠ id) : get (e :: r) id = get r id := by
  simp [get, (be_false _ _).2 h]
theorem get_cons_eq (e : Ent) (r : List Ent) : get (e :: r) e.1 = e.2 := by
  simp [get, be_refl]
theorem get_of_mem {l : List Ent} (hs : Srt l) {e : Ent} (he : e ∈ l) : get l e.1 = e.2 := by
  induction l with
  | nil => cases he
  | cons x r ih =>
    unfold Srt at hs ih
    rw [List.pairwise_cons] at hs
    rcases List.mem_cons.1 he with rfl | h
    · exact get_cons_eq _ _
    · rw [get_cons_ne (bl_ne (hs.1 e h))]
      exact ih hs.2 h
theorem get_nonneg {l : List Ent} (hp : Pos l) (id : ByteArray) : 0 ≤ get l id := by
  induction l with
  | nil => simp [get]
  | cons x r ih =>
    simp only [get]
    split
    · exact Int.le_of_lt (hp x (by simp))
    · exact ih fun e he => hp e (by simp [he])
theorem get_pos_mem {l : List Ent} {id : ByteArray} (h : get l id ≠ 0) : ∃ e ∈ l, e.1 = id ∧ e.2 = get l id := by
  induction l with
  | nil => simp [get] at h
  | cons x r ih =>
    simp only [get] at h ⊢
    by_cases hb : be x.1 id = true
    · exact ⟨x, by simp, (be_iff _ _).1 hb, by simp [hb]⟩
    · simp only [hb] at h ⊢
      obtain ⟨e, he, h1, h2⟩ := ih h
      exact ⟨e, by simp [he], h1, h2⟩
theorem srt_tail {x : Ent} {l : List Ent} (h : Srt (x :: l)) : Srt l := (List.pairwise_cons.1 h).2
theorem srt_head {x : Ent} {l : List Ent} (h : Srt (x :: l)) : ∀ e ∈ l, bl x.1 e.1 = true := (List.pairwise_cons.1 h).1
theorem pos_tail {x : Ent} {l : List Ent} (h : Pos (x :: l)) : Pos l := fun e he => h e (by simp [he])
theorem pos_head {x : Ent} {l : List Ent} (h : Pos (x :: l)) : 0 < x.2 := h x (by simp)

/-- Below every entry: the look-up says 0. -/
theorem get_below {l : List Ent} {id : ByteArray} (h : ∀ e ∈ l, bl id e.1 = true) : get l id = 0 :=
  get_of_not fun e he hh => bl_ne (h e he) hh.symm

/-- Two sorted positive vectors of one look-up are one. -/
theorem ext {a : List Ent} : ∀ {b : List Ent}, Srt a → Srt b → Pos a → Pos b → (∀ id, get a id = get b id) → a = b := by
  induction a with
  | nil =>
    intro b _ _ _ pb h
    cases b with
    | nil => rfl
    | cons y ys =>
      have := h y.1
      rw [get_cons_eq] at this
      have := pos_head pb
      simp [get] at *; omega
  | cons x xs ih =>
    intro b sa sb pa pb h
    cases b with
    | nil =>
      have := h x.1
      rw [get_cons_eq] at this
      have := pos_head pa
      simp [get] at *; omega
    | cons y ys =>
      have hxy : x.1 = y.1 := by
        by_cases hn : x.1 = y.1
        · exact hn
        · exfalso
          by_cases hl : bl x.1 y.1 = true
          · have h1 := h x.1
            rw [get_cons_eq, get_cons_ne (fun hh => hn hh.symm), get_below fun e he => bl_trans hl (srt_head sb e he)] at h1
            have := pos_head pa; omega
          · have hl' := bl_total (Bool.not_eq_true _ ▸ hl) hn
            have h1 := h y.1
            rw [get_cons_eq, get_cons_ne hn, get_below fun e he => bl_trans hl' (srt_head sa e he)] at h1
            have := pos_head pb; omega
      have hn : x.2 = y.2 := by
        have h1 := h x.1
        rw [get_cons_eq, hxy, get_cons_eq] at h1
        exact h1
      have hr : xs = ys := ih (srt_tail sa) (srt_tail sb) (pos_tail pa) (pos_tail pb) fun id => by
        by_cases hid : x.1 = id
        · subst hid
          rw [get_below (srt_head sa), get_below fun e he => by rw [hxy]; exact srt_head sb e he]
        · have h1 := h id
          rw [get_cons_ne hid, get_cons_ne (hxy ▸ hid)] at h1
          exact h1
      rw [hr, show x = y from Prod.ext hxy hn]

/-! ### The merge -/
theorem mrg_mem : ∀ (x y : List Ent) (e : Ent), e ∈ mrg x y → (∃ a ∈ x, a.1 = e.1) ∨ (∃ b ∈ y, b.1 = e.1)
  | [], y, e, h => by rw [mrg_nil'] at h; exact .inr ⟨e, h, rfl⟩
  | x :: xs, [], e, h => by rw [mrg_nil] at h; exact .inl ⟨e, h, rfl⟩
  | x :: xs, y :: ys, e, h => by
    rw [mrg] at h
    split at h
    · rcases List.mem_cons.1 h with rfl | h
      · exact .inl ⟨x, by simp, rfl⟩
      · rcases mrg_mem xs ys e h with ⟨a, ha, hh⟩ | ⟨b, hb, hh⟩
        · exact .inl ⟨a, by simp [ha], hh⟩
        · exact .inr ⟨b, by simp [hb], hh⟩
    · split at h
      · rcases List.mem_cons.1 h with rfl | h
        · exact .inl ⟨e, by simp, rfl⟩
        · rcases mrg_mem xs (y :: ys) e h with ⟨a, ha, hh⟩ | hh
          · exact .inl ⟨a, by simp [ha], hh⟩
          · exact .inr hh
      · rcases List.mem_cons.1 h with rfl | h
        · exact .inr ⟨e, by simp, rfl⟩
        · rcases mrg_mem (x :: xs) ys e h with hh | ⟨b, hb, hh⟩
          · exact .inl hh
          · exact .inr ⟨b, by simp [hb], hh⟩

theorem mrg_above {x y : List Ent} {id : ByteArray} (hx : ∀ e ∈ x, bl id e.1 = true) (hy : ∀ e ∈ y, bl id e.1 = true) : ∀ e ∈ mrg x y, bl id e.1 = true := by
  intro e he
  rcases mrg_mem x y e he with ⟨a, ha, hh⟩ | ⟨b, hb, hh⟩
  · rw [← hh]; exact hx a ha
  · rw [← hh]; exact hy b hb

theorem head_all {y : Ent} {ys : List Ent} {id : ByteArray} (s : Srt (y :: ys)) (h : bl id y.1 = true) : ∀ e ∈ y :: ys, bl id e.1 = true := by
  intro e he
  rcases List.mem_cons.1 he with rfl | he
  · exact h
  · exact bl_trans h (srt_head s e he)

theorem mrg_srt : ∀ (x y : List Ent), Srt x → Srt y → Srt (mrg x y)
  | [], y, _, hy => by rw [mrg_nil']; exact hy
  | x :: xs, [], hx, _ => by rw [mrg_nil]; exact hx
  | x :: xs, y :: ys, hx, hy => by
    rw [mrg]
    split
    · rename_i hb
      have hxy := (be_iff _ _).1 hb
      exact List.pairwise_cons.2 ⟨mrg_above (id := x.1) (srt_head hx) (by rw [hxy]; exact srt_head hy), mrg_srt xs ys (srt_tail hx) (srt_tail hy)⟩
    · rename_i hb
      have hn : x.1 ≠ y.1 := fun hh => hb ((be_iff _ _).2 hh)
      split
      · rename_i hl
        exact List.pairwise_cons.2 ⟨mrg_above (srt_head hx) (head_all hy hl), mrg_srt xs (y :: ys) (srt_tail hx) hy⟩
      · rename_i hl
        have hl' := bl_total (Bool.not_eq_true _ ▸ hl) hn
        exact List.pairwise_cons.2 ⟨mrg_above (head_all hx hl') (srt_head hy), mrg_srt (x :: xs) ys hx (srt_tail hy)⟩

theorem mrg_pos : ∀ (x y : List Ent), Pos x → Pos y → Pos (mrg x y)
  | [], y, _, hy => by rw [mrg_nil']; exact hy
  | x :: xs, [], hx, _ => by rw [mrg_nil]; exact hx
  | x :: xs, y :: ys, hx, hy => by
    rw [mrg]
    split
    · intro e he
      rcases List.mem_cons.1 he with rfl | he
      · have := pos_head hx; show 0 < max x.2 y.2; omega
      · exact mrg_pos xs ys (pos_tail hx) (pos_tail hy) e he
    · split
      · intro e he
        rcases List.mem_cons.1 he with rfl | he
        · exact pos_head hx
        · exact mrg_pos xs (y :: ys) (pos_tail hx) hy e he
      · intro e he
        rcases List.mem_cons.1 he with rfl | he
        · exact pos_head hy
        · exact mrg_pos (x :: xs) ys hx (pos_tail hy) e he

theorem get_mrg : ∀ (x y : List Ent), Srt x → Srt y → Pos x → Pos y → ∀ id, get (mrg x y) id = max (get x id) (get y id)
  | [], y, _, _, _, hy, id => by rw [mrg_nil']; have := get_nonneg hy id; simp [get]; omega
  | x :: xs, [], _, _, hx, _, id => by rw [mrg_nil]; have := get_nonneg hx id; simp [get] at *; omega
  | x :: xs, y :: ys, sx, sy, px, py, id => by
    rw [mrg]
    split
    · rename_i hb
      have hxy := (be_iff _ _).1 hb
      by_cases hid : x.1 = id
      · subst hid
        have h1 : get ((x.1, max x.2 y.2) :: mrg xs ys) x.1 = max x.2 y.2 := get_cons_eq (x.1, max x.2 y.2) _
        rw [h1, get_cons_eq, hxy, get_cons_eq]
      · have h1 : get ((x.1, max x.2 y.2) :: mrg xs ys) id = get (mrg xs ys) id := get_cons_ne (e := (x.1, max x.2 y.2)) hid
        rw [h1, get_cons_ne hid, get_cons_ne (e := y) (hxy ▸ hid)]
        exact get_mrg xs ys (srt_tail sx) (srt_tail sy) (pos_tail px) (pos_tail py) id
    · rename_i hb
      have hn : x.1 ≠ y.1 := fun hh => hb ((be_iff _ _).2 hh)
      split
      · rename_i hl
        by_cases hid : x.1 = id
        · subst hid
          have := pos_head px
          rw [get_cons_eq, get_cons_eq, get_below (head_all sy hl)]; omega
        · rw [get_cons_ne hid, get_cons_ne hid]
          exact get_mrg xs (y :: ys) (srt_tail sx) sy (pos_tail px) py id
      · rename_i hl
        have hl' := bl_total (Bool.not_eq_true _ ▸ hl) hn
        by_cases hid : y.1 = id
        · subst hid
          have := pos_head py
          rw [get_cons_eq, get_cons_eq, get_below (head_all sx hl')]; omega
        · rw [get_cons_ne hid, get_cons_ne (e := y) hid]
          exact get_mrg (x :: xs) ys sx (srt_tail sy) px (pos_tail py) id

theorem mrg_comm {x y : List Ent} (sx : Srt x) (sy : Srt y) (px : Pos x) (py : Pos y) : mrg x y = mrg y x :=
  ext (mrg_srt _ _ sx sy) (mrg_srt _ _ sy sx) (mrg_pos _ _ px py) (mrg_pos _ _ py px) fun id => by
    rw [get_mrg _ _ sx sy px py, get_mrg _ _ sy sx py px]; omega
theorem mrg_idem {x : List Ent} (sx : Srt x) (px : Pos x) : mrg x x = x :=
  ext (mrg_srt _ _ sx sx) sx (mrg_pos _ _ px px) px fun id => by
    rw [get_mrg _ _ sx sx px px]; omega
theorem mrg_absorb {x y : List Ent} (sx : Srt x) (sy : Srt y) (px : Pos x) (py : Pos y) : mrg (mrg x y) x = mrg x y :=
  ext (mrg_srt _ _ (mrg_srt _ _ sx sy) sx) (mrg_srt _ _ sx sy) (mrg_pos _ _ (mrg_pos _ _ px py) px) (mrg_pos _ _ px py) fun id => by
    rw [get_mrg _ _ (mrg_srt _ _ sx sy) sx (mrg_pos _ _ px py) px, get_mrg _ _ sx sy px py]; omega
theorem mrg_assoc {x y z : List Ent} (sx : Srt x) (sy : Srt y) (sz : Srt z) (px : Pos x) (py : Pos y) (pz : Pos z) : mrg (mrg x y) z = mrg x (mrg y z) :=
  ext (mrg_srt _ _ (mrg_srt _ _ sx sy) sz) (mrg_srt _ _ sx (mrg_srt _ _ sy sz)) (mrg_pos _ _ (mrg_pos _ _ px py) pz) (mrg_pos _ _ px (mrg_pos _ _ py pz)) fun id => by
    rw [get_mrg _ _ (mrg_srt _ _ sx sy) sz (mrg_pos _ _ px py) pz, get_mrg _ _ sx sy px py, get_mrg _ _ sx (mrg_srt _ _ sy sz) px (mrg_pos _ _ py pz), get_mrg _ _ sy sz py pz]; omega

/-! ### The pairs of counters, in the order of the union of the ids -/
theorem prs_eq : ∀ (x y : List Ent), Srt x → Srt y → (mrg x y).map (fun e => (get x e.1, get y e.1)) = prs x y
  | [], y, _, sy => by
    rw [mrg_nil', prs_nil']
    exact List.map_congr_left fun e he => by rw [get_of_mem sy he]; rfl
  | x :: xs, [], sx, _ => by
    rw [mrg_nil, prs_nil]
    exact List.map_congr_left fun e he => by rw [get_of_mem sx he]; rfl
  | x :: xs, y :: ys, sx, sy => by
    rw [mrg, prs]
    split
    · rename_i hb
      have hxy := (be_iff _ _).1 hb
      rw [List.map_cons]
      show (get (x :: xs) x.1, get (y :: ys) x.1) :: _ = _
      rw [get_cons_eq, hxy, get_cons_eq, ← prs_eq xs ys (srt_tail sx) (srt_tail sy)]
      congr 1
      refine List.map_congr_left fun e he => ?_
      have h1 := bl_ne (mrg_above (srt_head sx) (by rw [hxy]; exact srt_head sy) e he)
      rw [get_cons_ne h1, get_cons_ne (hxy ▸ h1)]
    · rename_i hb
      have hn : x.1 ≠ y.1 := fun hh => hb ((be_iff _ _).2 hh)
      split
      · rename_i hl
        rw [List.map_cons, get_cons_eq, get_below (head_all sy hl), ← prs_eq xs (y :: ys) (srt_tail sx) sy]
        congr 1
        refine List.map_congr_left fun e he => ?_
        rw [get_cons_ne (bl_ne (mrg_above (srt_head sx) (head_all sy hl) e he))]
      · rename_i hl
        have hl' := bl_total (Bool.not_eq_true _ ▸ hl) hn
        rw [List.map_cons, get_cons_eq, get_below (head_all sx hl'), ← prs_eq (x :: xs) ys sx (srt_tail sy)]
        congr 1
        refine List.map_congr_left fun e he => ?_
        rw [get_cons_ne (e := y) (bl_ne (mrg_above (head_all sx hl') (srt_head sy) e he))]

/-! ### The walk over the pairs -/
def and8 (a b : Int) : Int := bits .and .u8 a b
def or8 (a b : Int) : Int := bits .or .u8 a b
def stl (f stop : Int) : Bool := and8 f stop != 0 || and8 f 3 == 3
def wk (stop : Int) : List (Int × Int) → Int → Int
  | [], f => f
  | (a, b) :: r, f =>
    if b < a then (if stl (or8 f 1) stop then or8 f 1 else wk stop r (or8 f 1))
    else if a < b then (if stl (or8 f 2) stop then or8 f 2 else wk stop r (or8 f 2))
    else if and8 stop 4 != 0 then (if stl (or8 f 4) stop then or8 f 4 else wk stop r (or8 f 4))
    else wk stop r f

def Byt (f : Int) : Prop := 0 ≤ f ∧ f < 256

theorem and8_nat {a b : Int} (ha : Byt a) (hb : Byt b) : and8 a b = ((a.toNat &&& b.toNat : Nat) : Int) := u8_and a b ha.1 ha.2 hb.1 hb.2
theorem or8_nat {a b : Int} (ha : Byt a) (hb : Byt b) : or8 a b = ((a.toNat ||| b.toNat : Nat) : Int) := u8_or a b ha.1 ha.2 hb.1 hb.2
theorem or8_byt {a b : Int} (ha : Byt a) (hb : Byt b) : Byt (or8 a b) := by
  rw [or8_nat ha hb]
  have h1 : a.toNat < 2 ^ 8 := by have := ha.1; have := ha.2; omega
  have h2 : b.toNat < 2 ^ 8 := by have := hb.1; have := hb.2; omega
  have := Nat.or_lt_two_pow h1 h2
  exact ⟨by omega, by omega⟩
theorem or8_idem {f k : Int} (hf : Byt f) (hk : Byt k) : or8 (or8 f k) k = or8 f k := by
  rw [or8_nat (or8_byt hf hk) hk, or8_nat hf hk]
  have : ((((f.toNat ||| k.toNat : Nat) : Int).toNat ||| k.toNat : Nat)) = (f.toNat ||| k.toNat) := by
    rw [Int.toNat_natCast, Nat.or_assoc, Nat.or_self]
  rw [this]
theorem byt1 : Byt 1 := ⟨by omega, by omega⟩
theorem byt2 : Byt 2 := ⟨by omega, by omega⟩
theorem byt4 : Byt 4 := ⟨by omega, by omega⟩
theorem byt3 : Byt 3 := ⟨by omega, by omega⟩
theorem byt0 : Byt 0 := ⟨by omega, by omega⟩

/-- Where 'stop' holds level, a walk that has found level is settled. -/
theorem stl_level {f stop : Int} (hf : Byt f) (hs : Byt stop) (h : (and8 stop 4 != 0) = true) : stl (or8 f 4) stop = true := by
  unfold stl
  have h1 : and8 (or8 f 4) stop ≠ 0 := by
    intro h0
    rw [and8_nat (or8_byt hf byt4) hs, or8_nat hf byt4, Int.toNat_natCast] at h0
    have h0' : (f.toNat ||| (4 : Int).toNat) &&& stop.toNat = 0 := by omega
    have ht := congrArg (fun n => n.testBit 2) h0'
    simp only [Nat.testBit_and, Nat.testBit_or, Nat.zero_testBit] at ht
    have h4 : ((4 : Int).toNat).testBit 2 = true := by decide
    rw [h4] at ht
    simp only [Bool.or_true, Bool.true_and] at ht
    rw [and8_nat hs byt4] at h
    simp only [bne_iff_ne, ne_eq] at h
    apply h
    have : stop.toNat &&& (4 : Int).toNat = 0 := by
      apply Nat.eq_of_testBit_eq
      intro i
      rw [Nat.testBit_and, Nat.zero_testBit]
      by_cases hi : i = 2
      · subst hi; rw [ht]; rfl
      · have : ((4 : Int).toNat).testBit i = false := by
          show Nat.testBit 4 i = false
          rw [show (4 : Nat) = 2 ^ 2 from rfl, Nat.testBit_two_pow]
          simp; omega
        rw [this, Bool.and_false]
    rw [this]; rfl
  have : (and8 (or8 f 4) stop != 0) = true := by simpa using h1
  rw [this]; rfl

theorem wk_left {stop f : Int} (hf : Byt f) : ∀ (l : List Ent), Pos l → wk stop (l.map fun e => (e.2, 0)) f = if l = [] then f else or8 f 1 := by
  have main : ∀ (l : List Ent), Pos l → wk stop (l.map fun e => (e.2, 0)) (or8 f 1) = or8 f 1 := by
    intro l
    induction l with
    | nil => intro _; rfl
    | cons e r ih =>
      intro hp
      rw [List.map_cons, wk, if_pos (pos_head hp), or8_idem hf byt1]
      split
      · rfl
      · exact ih (pos_tail hp)
  intro l hp
  cases l with
  | nil => rfl
  | cons e r =>
    rw [List.map_cons, wk, if_pos (pos_head hp), main r (pos_tail hp)]
    simp
theorem wk_right {stop f : Int} (hf : Byt f) : ∀ (l : List Ent), Pos l → wk stop (l.map fun e => (0, e.2)) f = if l = [] then f else or8 f 2 := by
  have main : ∀ (l : List Ent), Pos l → wk stop (l.map fun e => (0, e.2)) (or8 f 2) = or8 f 2 := by
    intro l
    induction l with
    | nil => intro _; rfl
    | cons e r ih =>
      intro hp
      have := pos_head hp
      rw [List.map_cons, wk, if_neg (by omega), if_pos (pos_head hp), or8_idem hf byt2]
      split
      · rfl
      · exact ih (pos_tail hp)
  intro l hp
  cases l with
  | nil => rfl
  | cons e r =>
    have := pos_head hp
    rw [List.map_cons, wk, if_neg (by omega), if_pos (pos_head hp), main r (pos_tail hp)]
    simp

/-! ### The full comparison ('stop' holds nothing) in closed form -/
def cf (hv hw : Bool) : Int := (if hv then 1 else 0) + (if hw then 2 else 0)
theorem cf_byt (p q : Bool) : Byt (cf p q) := by cases p <;> cases q <;> exact ⟨by decide, by decide⟩
theorem cf_or1 (p q : Bool) : or8 (cf p q) 1 = cf true q := by cases p <;> cases q <;> decide
theorem cf_or2 (p q : Bool) : or8 (cf p q) 2 = cf p true := by cases p <;> cases q <;> decide
theorem cf_stl (p q : Bool) : stl (cf p q) 0 = (p && q) := by cases p <;> cases q <;> decide
theorem wk_zero : ∀ (l : List (Int × Int)) (p q : Bool), wk 0 l (cf p q) = cf (p || l.any fun x => decide (x.2 < x.1)) (q || l.any fun x => decide (x.1 < x.2))
  | [], p, q => by simp [wk]
  | (a, b) :: r, p, q => by
    rw [wk, List.any_cons, List.any_cons]
    by_cases h1 : b < a
    · have h2 : ¬ a < b := by omega
      rw [if_pos h1, cf_or1, cf_stl]
      cases q
      · simp [h1, h2]
        exact (wk_zero r true false).trans (by simp)
      · simp [h1]
    · rw [if_neg h1]
      by_cases h2 : a < b
      · rw [if_pos h2, cf_or2, cf_stl]
        cases p
        · simp [h1, h2]
          exact (wk_zero r false true).trans (by simp)
        · simp [h2]
      · rw [if_neg h2, show (and8 0 4 != 0) = false from by decide, if_neg (by simp), wk_zero r p q]
        simp [h1, h2]

/-- Some id of v has a counter above w's. -/
def hi (v w : List Ent) : Bool := v.any fun e => decide (get w e.1 < e.2)
theorem hi_iff {v w : List Ent} (sv : Srt v) (pw : Pos w) : hi v w = true ↔ ∃ id, get w id < get v id := by
  unfold hi
  rw [List.any_eq_true]
  constructor
  · rintro ⟨e, he, h⟩
    exact ⟨e.1, by rw [get_of_mem sv he]; simpa using h⟩
  · rintro ⟨id, h⟩
    have := get_nonneg pw id
    obtain ⟨e, he, rfl, h2⟩ := get_pos_mem (l := v) (id := id) (by omega)
    exact ⟨e, he, by rw [h2]; simpa using h⟩
theorem mem_mrg_of_get {x y : List Ent} (sx : Srt x) (sy : Srt y) (px : Pos x) (py : Pos y) {id : ByteArray} (h : get x id ≠ get y id) : ∃ e ∈ mrg x y, e.1 = id := by
  have h1 := get_mrg x y sx sy px py id
  have := get_nonneg px id
  have := get_nonneg py id
  obtain ⟨e, he, hid, _⟩ := get_pos_mem (l := mrg x y) (id := id) (by omega)
  exact ⟨e, he, hid⟩
theorem wk_full {x y : List Ent} (sx : Srt x) (sy : Srt y) (px : Pos x) (py : Pos y) : wk 0 (prs x y) 0 = cf (hi x y) (hi y x) := by
  have h0 := wk_zero (prs x y) false false
  rw [show cf false false = 0 from rfl] at h0
  rw [h0, ← prs_eq x y sx sy]
  congr 1
  · rw [Bool.false_or, Bool.eq_iff_iff, hi_iff sx py, List.any_map, List.any_eq_true]
    constructor
    · rintro ⟨e, _, h⟩
      exact ⟨e.1, by simpa using h⟩
    · rintro ⟨id, h⟩
      obtain ⟨e, he, rfl⟩ := mem_mrg_of_get sx sy px py (id := id) (by omega)
      exact ⟨e, he, by simpa using h⟩
  · rw [Bool.false_or, Bool.eq_iff_iff, hi_iff sy px, List.any_map, List.any_eq_true]
    constructor
    · rintro ⟨e, _, h⟩
      exact ⟨e.1, by simpa using h⟩
    · rintro ⟨id, h⟩
      obtain ⟨e, he, rfl⟩ := mem_mrg_of_get sx sy px py (id := id) (by omega)
      exact ⟨e, he, by simpa using h⟩

/-- Against the merge neither side is higher. -/
theorem hi_mrg_left {x y : List Ent} (sx : Srt x) (sy : Srt y) (px : Pos x) (py : Pos y) : hi x (mrg x y) = false := by
  rw [← Bool.not_eq_true, hi_iff sx (mrg_pos _ _ px py)]
  rintro ⟨id, h⟩
  rw [get_mrg x y sx sy px py] at h; omega
theorem hi_mrg_right {x y : List Ent} (sx : Srt x) (sy : Srt y) (px : Pos x) (py : Pos y) : hi y (mrg x y) = false := by
  rw [← Bool.not_eq_true, hi_iff sy (mrg_pos _ _ px py)]
  rintro ⟨id, h⟩
  rw [get_mrg x y sx sy px py] at h; omega
/-- The merge is v exactly where w is nowhere higher. -/
theorem mrg_eq_iff {x y : List Ent} (sx : Srt x) (sy : Srt y) (px : Pos x) (py : Pos y) : mrg x y = x ↔ hi y x = false := by
  constructor
  · intro h
    rw [← Bool.not_eq_true, hi_iff sy px]
    rintro ⟨id, h2⟩
    have := get_mrg x y sx sy px py id
    rw [h] at this; omega
  · intro h
    refine ext (mrg_srt _ _ sx sy) sx (mrg_pos _ _ px py) px fun id => ?_
    rw [get_mrg x y sx sy px py]
    by_cases h2 : get x id < get y id
    · have := (hi_iff sy px).2 ⟨id, h2⟩
      rw [h] at this; cases this
    · omega

end Go.Proofs.Qxb6600413a.Pl
