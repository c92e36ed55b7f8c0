/-
  The plain law: a byte of a name, a name written with capitals at the beginning of its words, and that writing it once more changes nothing.
  No condition. No program in sight: lists of bytes alone.
-/
namespace Go.Proofs.Ytbmidcahepfjeaa.Pl

/-- A byte of a name (RFC 9110: a sign of a token). -/
def tok (b : UInt8) : Bool :=
  (97 ≤ b && b ≤ 122) || (65 ≤ b && b ≤ 90) || (48 ≤ b && b ≤ 57) ||
  b == 33 || b == 35 || b == 36 || b == 37 || b == 38 || b == 39 || b == 42 || b == 43 || b == 45 || b == 46 || b == 94 || b == 95 || b == 96 || b == 124 || b == 126

/-- A byte at the beginning of a word (f = true), or behind it. -/
def cn (f : Bool) (b : UInt8) : UInt8 :=
  if f then (if 97 ≤ b && b ≤ 122 then b - 32 else b) else (if 65 ≤ b && b ≤ 90 then b + 32 else b)

def canonL : Bool → List UInt8 → List UInt8
  | _, [] => []
  | f, b :: r => cn f b :: canonL (b == 45) r

/-- The name as headers have it; what is no name stays. -/
def canon (l : List UInt8) : List UInt8 := if l.all tok then canonL true l else l

theorem forall_byte {p : UInt8 → Prop} (h : ∀ n : Fin 256, p (UInt8.ofFin n)) (b : UInt8) : p b := by
  have := h b.toFin
  simpa using this

theorem cn_dash (f : Bool) (b : UInt8) : (cn f b == 45) = (b == 45) := by
  revert b; refine forall_byte ?_; cases f <;> decide +kernel
theorem cn_cn (f : Bool) (b : UInt8) : cn f (cn f b) = cn f b := by
  revert b; refine forall_byte ?_; cases f <;> decide +kernel
theorem tok_cn (f : Bool) (b : UInt8) : tok (cn f b) = tok b := by
  revert b; refine forall_byte ?_; cases f <;> decide +kernel

theorem canonL_canonL (l : List UInt8) : ∀ f, canonL f (canonL f l) = canonL f l := by
  induction l with
  | nil => intro f; rfl
  | cons b r ih => intro f; simp only [canonL, cn_cn, cn_dash, ih]
theorem all_canonL (l : List UInt8) : ∀ f, (canonL f l).all tok = l.all tok := by
  induction l with
  | nil => intro f; rfl
  | cons b r ih => intro f; simp only [canonL, List.all_cons, tok_cn, ih]

/-- Done once more nothing changes. -/
theorem canon_canon (l : List UInt8) : canon (canon l) = canon l := by
  unfold canon
  cases h : l.all tok with
  | false => simp [h]
  | true => simp only [if_true, all_canonL, h, canonL_canonL]

theorem length_canonL (l : List UInt8) : ∀ f, (canonL f l).length = l.length := by
  induction l with
  | nil => intro f; rfl
  | cons b r ih => intro f; simp only [canonL, List.length_cons, ih]
theorem length_canon (l : List UInt8) : (canon l).length = l.length := by
  unfold canon; split
  · exact length_canonL l true
  · rfl

/-- Does a word begin at place k? -/
def first (l : List UInt8) (k : Nat) : Bool := k == 0 || l.getD (k - 1) 0 == 45

theorem getElem?_canonL (l : List UInt8) : ∀ (f : Bool) (k : Nat), (canonL f l)[k]? = (l[k]?).map (cn (if k = 0 then f else l.getD (k - 1) 0 == 45)) := by
  induction l with
  | nil => intro f k; simp [canonL]
  | cons b r ih =>
    intro f k
    cases k with
    | zero => simp [canonL]
    | succ k =>
      simp only [canonL, List.getElem?_cons_succ, ih]
      congr 2
      cases k with
      | zero => simp
      | succ k => simp

theorem canonL_at (l : List UInt8) (k : Nat) (hk : k < l.length) : (canonL true l)[k]? = some (cn (first l k) (l.getD k 0)) := by
  rw [getElem?_canonL, List.getElem?_eq_getElem hk]
  simp only [Option.map_some, first, List.getD_eq_getElem?_getD, List.getElem?_eq_getElem hk, Option.getD_some]
  congr 2
  cases k with
  | zero => simp
  | succ k => simp

/-- The first k places written, the others still as they came. -/
def part (l : List UInt8) (k : Nat) : List UInt8 := (canonL true l).take k ++ l.drop k

theorem part_zero (l : List UInt8) : part l 0 = l := by simp [part]
theorem part_all (l : List UInt8) : part l l.length = canonL true l := by
  unfold part
  rw [List.take_of_length_le (by rw [length_canonL]; omega)]; simp
theorem length_part (l : List UInt8) (k : Nat) : (part l k).length = l.length := by
  unfold part
  rw [List.length_append, List.length_take, List.length_drop, length_canonL]; omega
theorem part_succ (l : List UInt8) (k : Nat) (hk : k < l.length) : part l (k + 1) = (part l k).set k (cn (first l k) (l.getD k 0)) := by
  apply List.ext_getElem?
  intro j
  have hl := length_canonL l true
  unfold part
  rw [List.getElem?_set]
  have hlen : ((canonL true l).take k ++ l.drop k).length = l.length := length_part l k
  rw [hlen]
  by_cases hj : k = j
  · subst hj
    rw [if_pos rfl, if_pos hk, List.getElem?_append_left (by rw [List.length_take]; omega), List.getElem?_take, if_pos (by omega), canonL_at l k hk]
  · rw [if_neg hj]
    by_cases hlt : j < k
    · rw [List.getElem?_append_left (by rw [List.length_take]; omega), List.getElem?_append_left (by rw [List.length_take]; omega), List.getElem?_take, List.getElem?_take, if_pos (by omega), if_pos hlt]
    · rw [List.getElem?_append_right (by rw [List.length_take]; omega), List.getElem?_append_right (by rw [List.length_take]; omega), List.length_take, List.length_take, List.getElem?_drop, List.getElem?_drop]
      congr 1
      omega
/-- What lies behind place k is still as it came. -/
theorem part_at (l : List UInt8) (k : Nat) (hk : k < l.length) : (part l k).getD k 0 = l.getD k 0 := by
  unfold part
  rw [List.getD_eq_getElem?_getD, List.getD_eq_getElem?_getD, List.getElem?_append_right (by rw [List.length_take]; omega), List.length_take, List.getElem?_drop, length_canonL]
  congr 2
  omega
/-- What lies ahead of it is written. -/
theorem part_before (l : List UInt8) (k : Nat) (hk : k < l.length) (h0 : 0 < k) : ((part l k).getD (k - 1) 0 == 45) = first l k := by
  unfold part
  have hl := length_canonL l true
  rw [List.getD_eq_getElem?_getD, List.getElem?_append_left (by rw [List.length_take]; omega), List.getElem?_take, if_pos (by omega), canonL_at l (k - 1) (by omega), Option.getD_some, cn_dash]
  have hz : (k == 0) = false := by simp; omega
  unfold first
  rw [hz, Bool.false_or]

/-! ### The quick look: a name that is written so already -/
/-- Nothing is to be turned at the first k places, and all are bytes of names. -/
def clean (l : List UInt8) (k : Nat) : Prop := ∀ j, j < k → tok (l.getD j 0) = true ∧ cn (first l j) (l.getD j 0) = l.getD j 0

theorem clean_zero (l : List UInt8) : clean l 0 := fun j hj => by omega
theorem clean_succ {l : List UInt8} {k : Nat} (h : clean l k) (ht : tok (l.getD k 0) = true) (hc : cn (first l k) (l.getD k 0) = l.getD k 0) : clean l (k + 1) := fun j hj => by
  by_cases e : j = k
  · subst e; exact ⟨ht, hc⟩
  · exact h j (by omega)
theorem getElem?_getD (l : List UInt8) (k : Nat) (hk : k < l.length) : l[k]? = some (l.getD k 0) := by
  rw [List.getD_eq_getElem?_getD, List.getElem?_eq_getElem hk]; rfl
theorem all_of_clean {l : List UInt8} (h : ∀ j, j < l.length → tok (l.getD j 0) = true) : l.all tok = true := by
  rw [List.all_eq_true]
  intro x hx
  obtain ⟨j, hj, rfl⟩ := List.getElem_of_mem hx
  have := h j hj
  rwa [List.getD_eq_getElem?_getD, List.getElem?_eq_getElem hj] at this
theorem canon_clean {l : List UInt8} (h : clean l l.length) : canon l = l := by
  unfold canon
  split
  · apply List.ext_getElem?
    intro j
    by_cases hj : j < l.length
    · rw [canonL_at l j hj, (h j hj).2, getElem?_getD l j hj]
    · rw [List.getElem?_eq_none (by rw [length_canonL]; omega), List.getElem?_eq_none (by omega)]
  · rfl
theorem not_all {l : List UInt8} {k : Nat} (hk : k < l.length) (h : tok (l.getD k 0) = false) : l.all tok = false := by
  rw [List.all_eq_false]
  refine ⟨l.getD k 0, ?_, by rw [h]; decide⟩
  rw [List.getD_eq_getElem?_getD, List.getElem?_eq_getElem hk]
  exact List.getElem_mem hk
theorem canon_bad {l : List UInt8} {k : Nat} (hk : k < l.length) (h : tok (l.getD k 0) = false) : canon l = l := by
  unfold canon; rw [not_all hk h]; rfl

end Go.Proofs.Ytbmidcahepfjeaa.Pl
