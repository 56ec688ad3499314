import Derived.Test.Qxb6601388aBase
namespace Go.Proofs.Qxb6601388a
set_option linter.unusedVariables false

def allS : ByteArray := ⟨#[97, 108, 108]⟩

def anySuf (p : List ByteArray → Bool) : List ByteArray → Bool
  | [] => p []
  | f :: fs => p (f :: fs) || anySuf p fs

/-- Can the items be laid over the frames in order? -/
def mt (cov : ByteArray → ByteArray → Bool) : List ByteArray → List ByteArray → Bool
  | [], st => st.isEmpty
  | it :: is, st => if it = allS then anySuf (mt cov is) st else match st with
    | [] => false
    | f :: fs => cov it f && mt cov is fs

theorem anySuf_iff (p : List ByteArray → Bool) : ∀ st, anySuf p st = true ↔ ∃ c d, st = c ++ d ∧ p d = true := by
  intro st
  induction st with
  | nil =>
    simp only [anySuf]
    constructor
    · intro h; exact ⟨[], [], rfl, h⟩
    · rintro ⟨c, d, h, hp⟩
      have := List.append_eq_nil_iff.1 h.symm
      rw [this.2] at hp
      exact hp
  | cons f fs ih =>
    simp only [anySuf, Bool.or_eq_true, ih]
    constructor
    · rintro (h | ⟨c, d, rfl, hp⟩)
      · exact ⟨[], f :: fs, rfl, h⟩
      · exact ⟨f :: c, d, rfl, hp⟩
    · rintro ⟨c, d, h, hp⟩
      cases c with
      | nil => left; simp at h; rw [h]; exact hp
      | cons x c =>
        simp at h
        exact .inr ⟨c, d, h.2, hp⟩

theorem mt_append (cov : ByteArray → ByteArray → Bool) (r : List ByteArray) : ∀ l st, mt cov (l ++ r) st = true ↔ ∃ a b, st = a ++ b ∧ mt cov l a = true ∧ mt cov r b = true := by
  intro l
  induction l with
  | nil =>
    intro st
    simp only [List.nil_append, mt, List.isEmpty_iff]
    constructor
    · intro h; exact ⟨[], st, rfl, rfl, h⟩
    · rintro ⟨a, b, rfl, rfl, h⟩; exact h
  | cons it l ih =>
    intro st
    by_cases e : it = allS
    · simp only [List.cons_append, mt, e, if_true, anySuf_iff, ih]
      constructor
      · rintro ⟨c, d, rfl, a, b, rfl, h1, h2⟩
        exact ⟨c ++ a, b, by simp, ⟨c, a, rfl, h1⟩, h2⟩
      · rintro ⟨a, b, rfl, ⟨c, d, rfl, h1⟩, h2⟩
        exact ⟨c, d ++ b, by simp, d, b, rfl, h1, h2⟩
    · simp only [List.cons_append, mt, e, if_false]
      cases st with
      | nil =>
        simp only [Bool.false_eq_true, false_iff]
        rintro ⟨a, b, h, h1, _⟩
        have := List.append_eq_nil_iff.1 h.symm
        rw [this.1] at h1
        simp at h1
      | cons f fs =>
        simp only [Bool.and_eq_true, ih]
        constructor
        · rintro ⟨h1, a, b, rfl, h2, h3⟩
          exact ⟨f :: a, b, rfl, by simp only [Bool.and_eq_true]; exact ⟨h1, h2⟩, h3⟩
        · rintro ⟨a, b, h, h1, h2⟩
          cases a with
          | nil => simp at h1
          | cons x a =>
            simp at h
            obtain ⟨rfl, rfl⟩ := h
            simp only [Bool.and_eq_true] at h1
            exact ⟨h1.1, a, b, rfl, h1.2, h2⟩

theorem mt_all (cov : ByteArray → ByteArray → Bool) (b : List ByteArray) : mt cov [allS] b = true := by
  simp only [mt, if_true]
  exact (anySuf_iff _ b).2 ⟨b, [], by simp, rfl⟩

theorem mt_one (cov : ByteArray → ByteArray → Bool) {it : ByteArray} (h : it ≠ allS) (b : List ByteArray) : mt cov [it] b = true ↔ ∃ f, b = [f] ∧ cov it f = true := by
  simp only [mt, if_neg h]
  cases b with
  | nil => simp
  | cons f fs =>
    simp only [Bool.and_eq_true, List.isEmpty_iff]
    constructor
    · rintro ⟨h1, rfl⟩; exact ⟨f, rfl, h1⟩
    · rintro ⟨g, h1, h2⟩
      simp at h1
      obtain ⟨rfl, rfl⟩ := h1
      exact ⟨h2, rfl⟩

/-! ### Top down -/
section
variable (cov : ByteArray → ByteArray → Bool) (items stack : List ByteArray)

def mtAt (i j : Nat) : Bool := mt cov (items.drop i) (stack.drop j)

theorem drop_cons {α : Type} {l : List α} {k : Nat} {x : α} (h : l[k]? = some x) : l.drop k = x :: l.drop (k + 1) := by
  obtain ⟨hk, rfl⟩ := List.getElem?_eq_some_iff.1 h
  exact List.drop_eq_getElem_cons hk

theorem mtAt_end {j : Nat} (hj : j ≤ stack.length) : mtAt cov items stack items.length j = decide (j = stack.length) := by
  simp only [mtAt, List.drop_length, mt]
  rw [Bool.eq_iff_iff]
  simp
  omega

theorem mtAt_all {i j : Nat} (h : items[i]? = some allS) (hj : j < stack.length) : mtAt cov items stack i j = (mtAt cov items stack (i + 1) j || mtAt cov items stack i (j + 1)) := by
  simp only [mtAt, drop_cons h, mt, if_true]
  rw [drop_cons (show stack[j]? = some stack[j] by simp [hj])]
  rfl

theorem mtAt_all_end {i : Nat} (h : items[i]? = some allS) : mtAt cov items stack i stack.length = mtAt cov items stack (i + 1) stack.length := by
  simp only [mtAt, drop_cons h, mt, if_true, List.drop_length]
  rfl

theorem mtAt_one {i j : Nat} {it f : ByteArray} (h : items[i]? = some it) (hne : it ≠ allS) (hf : stack[j]? = some f) : mtAt cov items stack i j = (cov it f && mtAt cov items stack (i + 1) (j + 1)) := by
  simp only [mtAt, drop_cons h, mt, if_neg hne, drop_cons hf]

theorem mtAt_one_end {i : Nat} {it : ByteArray} (h : items[i]? = some it) (hne : it ≠ allS) : mtAt cov items stack i stack.length = false := by
  simp only [mtAt, drop_cons h, mt, if_neg hne, List.drop_length]

/-! ### Item by item -/

def cAt (i j : Nat) : Bool := mt cov (items.take i) (stack.take j)

theorem cAt_zero {j : Nat} (hj : j ≤ stack.length) : cAt cov items stack 0 j = decide (j = 0) := by
  simp only [cAt, List.take_zero, mt]
  rw [Bool.eq_iff_iff]
  simp only [List.isEmpty_iff, decide_eq_true_eq, List.take_eq_nil_iff]
  constructor
  · rintro (h | h)
    · exact h
    · rw [h] at hj; simpa using hj
  · intro h; exact .inl h

theorem cAt_end : cAt cov items stack items.length stack.length = mtAt cov items stack 0 0 := by simp [cAt, mtAt]

theorem take_snoc {α : Type} {l : List α} {k : Nat} {x : α} (h : l[k]? = some x) : l.take (k + 1) = l.take k ++ [x] := by
  rw [List.take_add_one, h]; rfl

theorem cAt_all_zero {i : Nat} (h : items[i]? = some allS) : cAt cov items stack (i + 1) 0 = cAt cov items stack i 0 := by
  rw [Bool.eq_iff_iff]
  simp only [cAt, take_snoc h, mt_append, List.take_zero]
  constructor
  · rintro ⟨a, b, h, h1, _⟩
    have := List.append_eq_nil_iff.1 h.symm
    rw [this.1] at h1
    exact h1
  · intro h; exact ⟨[], [], rfl, h, mt_all cov []⟩

theorem cAt_all {i j : Nat} {f : ByteArray} (h : items[i]? = some allS) (hf : stack[j]? = some f) : cAt cov items stack (i + 1) (j + 1) = (cAt cov items stack i (j + 1) || cAt cov items stack (i + 1) j) := by
  rw [Bool.eq_iff_iff, Bool.or_eq_true]
  simp only [cAt, take_snoc h, mt_append]
  constructor
  · rintro ⟨a, b, h, h1, _⟩
    rcases List.eq_nil_or_concat b with rfl | ⟨b', x, rfl⟩
    · left; rw [h, List.append_nil]; exact h1
    · right
      rw [take_snoc hf, List.concat_eq_append, ← List.append_assoc] at h
      have := List.append_inj' h rfl
      exact ⟨a, b', this.1, h1, mt_all cov b'⟩
  · rintro (h | ⟨a, b, h, h1, _⟩)
    · exact ⟨stack.take (j + 1), [], by simp, h, mt_all cov []⟩
    · exact ⟨a, b ++ [f], by rw [take_snoc hf, h]; simp, h1, mt_all cov _⟩

theorem cAt_one_zero {i : Nat} {it : ByteArray} (h : items[i]? = some it) (hne : it ≠ allS) : cAt cov items stack (i + 1) 0 = false := by
  rw [← Bool.not_eq_true]
  simp only [cAt, take_snoc h, mt_append, List.take_zero]
  rintro ⟨a, b, h, _, h2⟩
  obtain ⟨f, rfl, _⟩ := (mt_one cov hne b).1 h2
  have := List.append_eq_nil_iff.1 h.symm
  simp at this

theorem cAt_one {i j : Nat} {it f : ByteArray} (h : items[i]? = some it) (hne : it ≠ allS) (hf : stack[j]? = some f) : cAt cov items stack (i + 1) (j + 1) = (cAt cov items stack i j && cov it f) := by
  rw [Bool.eq_iff_iff, Bool.and_eq_true]
  simp only [cAt, take_snoc h, mt_append, take_snoc hf]
  constructor
  · rintro ⟨a, b, h, h1, h2⟩
    obtain ⟨g, rfl, h3⟩ := (mt_one cov hne b).1 h2
    have := List.append_inj' h rfl
    rw [this.1]
    simp at this
    rw [this.2]
    exact ⟨h1, h3⟩
  · rintro ⟨h1, h2⟩
    exact ⟨_, [f], rfl, h1, (mt_one cov hne _).2 ⟨f, rfl, h2⟩⟩

end
end Go.Proofs.Qxb6601388a
