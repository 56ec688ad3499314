import Derived.Test.Qxb6601388aFl5
namespace Go.Proofs.Qxb6601388a
open Go.RowKit
set_option linter.unusedVariables false

/-! ### unranged: what its phases hold, plain -/

/-- The edges that have been passed: all of the nodes below k, and of node k the first j of l. -/
def Dn (next : List (List Nat)) (k : Nat) (l : List Nat) (j : Nat) (a x : Nat) : Prop := (a < k ∧ Ed next a x) ∨ (a = k ∧ ∃ t, t < j ∧ l[t]? = some x)

theorem Dn.zero {next : List (List Nat)} {k : Nat} {l : List Nat} {a x : Nat} : Dn next k l 0 a x ↔ a < k ∧ Ed next a x := by simp [Dn]

theorem Dn.succ {next : List (List Nat)} {k j y : Nat} {l : List Nat} (hy : l[j]? = some y) {a x : Nat} : Dn next k l (j + 1) a x ↔ Dn next k l j a x ∨ (a = k ∧ x = y) := by
  constructor
  · rintro (h | ⟨h1, t, h2, h3⟩)
    · exact .inl (.inl h)
    · by_cases e : t = j
      · subst e
        rw [hy] at h3
        simp at h3
        exact .inr ⟨h1, h3.symm⟩
      · exact .inl (.inr ⟨h1, t, by omega, h3⟩)
  · rintro ((h | ⟨h1, t, h2, h3⟩) | ⟨h1, h2⟩)
    · exact .inl h
    · exact .inr ⟨h1, t, by omega, h3⟩
    · exact .inr ⟨h1, j, by omega, by rw [hy, h2]⟩

theorem Dn.last {next : List (List Nat)} {k : Nat} {l : List Nat} (hl : next[k]? = some l) {a x : Nat} : Dn next k l l.length a x ↔ a < k + 1 ∧ Ed next a x := by
  constructor
  · rintro (⟨h1, h2⟩ | ⟨h1, t, h2, h3⟩)
    · exact ⟨by omega, h2⟩
    · subst h1
      exact ⟨by omega, l, hl, List.mem_of_getElem? h3⟩
  · rintro ⟨h1, h2⟩
    by_cases e : a = k
    · subst e
      obtain ⟨l', hl', hx⟩ := h2
      rw [hl] at hl'
      simp at hl'
      subst hl'
      obtain ⟨t, ht⟩ := List.getElem?_of_mem hx
      exact .inr ⟨rfl, t, lt_of_some ht, ht⟩
    · exact .inl ⟨by omega, h2⟩

/-! Phase 2 -/

def BaseP (n : Nat) (next : List (List Nat)) (needs : List Bool) (E : Nat → Nat → Prop) (p : Nat) : Prop :=
  needs.getD p false = true ∨ (∃ a x, E a x ∧ x ≠ a ∧ x < n ∧ (p = a ∨ p = x)) ∨ (∃ x y, n ≤ x ∧ E p x ∧ Ed next x y ∧ y ≠ p)

def InvP (n : Nat) (next : List (List Nat)) (needs : List Bool) (E : Nat → Nat → Prop) (P : Nat → Bool) : Prop := ∀ p, p < n → (P p = true ↔ BaseP n next needs E p)

def InvS (n d : Nat) (E : Nat → Nat → Prop) (S : Nat → Int × Int) : Prop := ∀ y, y < d → ∃ L : List Nat, S y = foldT L ∧ ∀ a, a ∈ L ↔ E a (n + y)

theorem BaseP.congr {n : Nat} {next : List (List Nat)} {needs : List Bool} {E E' : Nat → Nat → Prop} (h : ∀ a x, E a x ↔ E' a x) (p : Nat) : BaseP n next needs E p ↔ BaseP n next needs E' p := by
  have : E = E' := by funext a x; exact propext (h a x)
  rw [this]
theorem InvP.congr {n : Nat} {next : List (List Nat)} {needs : List Bool} {E E' : Nat → Nat → Prop} {P : Nat → Bool} (hi : InvP n next needs E P) (h : ∀ a x, E a x ↔ E' a x) : InvP n next needs E' P := by
  have : E = E' := by funext a x; exact propext (h a x)
  rw [← this]; exact hi
theorem InvS.congr {n d : Nat} {E E' : Nat → Nat → Prop} {S : Nat → Int × Int} (hi : InvS n d E S) (h : ∀ a x, E a x ↔ E' a x) : InvS n d E' S := by
  have : E = E' := by funext a x; exact propext (h a x)
  rw [← this]; exact hi

theorem baseP_more {n : Nat} {next : List (List Nat)} {needs : List Bool} {E E' : Nat → Nat → Prop} {u y : Nat} (h : ∀ a x, E' a x ↔ E a x ∨ (a = u ∧ x = y)) (p : Nat) :
    BaseP n next needs E' p ↔ BaseP n next needs E p ∨ (y ≠ u ∧ y < n ∧ (p = u ∨ p = y)) ∨ (p = u ∧ n ≤ y ∧ ∃ z, Ed next y z ∧ z ≠ u) := by
  unfold BaseP
  constructor
  · rintro (h1 | ⟨a, x, h1, h2, h3, h4⟩ | ⟨x, z, h1, h2, h3, h4⟩)
    · exact .inl (.inl h1)
    · rcases (h a x).1 h1 with h1 | ⟨rfl, rfl⟩
      · exact .inl (.inr (.inl ⟨a, x, h1, h2, h3, h4⟩))
      · exact .inr (.inl ⟨h2, h3, h4⟩)
    · rcases (h p x).1 h2 with h2 | ⟨rfl, rfl⟩
      · exact .inl (.inr (.inr ⟨x, z, h1, h2, h3, h4⟩))
      · exact .inr (.inr ⟨rfl, h1, z, h3, h4⟩)
  · rintro ((h1 | ⟨a, x, h1, h2, h3, h4⟩ | ⟨x, z, h1, h2, h3, h4⟩) | ⟨h2, h3, h4⟩ | ⟨h0, h1, z, h3, h4⟩)
    · exact .inl h1
    · exact .inr (.inl ⟨a, x, (h a x).2 (.inl h1), h2, h3, h4⟩)
    · exact .inr (.inr ⟨x, z, h1, (h p x).2 (.inl h2), h3, h4⟩)
    · exact .inr (.inl ⟨u, y, (h u y).2 (.inr ⟨rfl, rfl⟩), h2, h3, h4⟩)
    · subst h0
      exact .inr (.inr ⟨y, z, h1, (h p y).2 (.inr ⟨rfl, rfl⟩), h3, h4⟩)

theorem InvP.self {n : Nat} {next : List (List Nat)} {needs : List Bool} {E E' : Nat → Nat → Prop} {u : Nat} {P : Nat → Bool} (hi : InvP n next needs E P) (hu : u < n) (h : ∀ a x, E' a x ↔ E a x ∨ (a = u ∧ x = u)) : InvP n next needs E' P := by
  intro p hp
  rw [hi p hp, baseP_more h]
  constructor
  · exact .inl
  · rintro (h1 | ⟨h1, _⟩ | ⟨_, h1, _⟩)
    · exact h1
    · exact absurd rfl h1
    · omega

theorem InvP.direct {n : Nat} {next : List (List Nat)} {needs : List Bool} {E E' : Nat → Nat → Prop} {u y : Nat} {P : Nat → Bool} (hi : InvP n next needs E P) (hy : y < n) (hne : y ≠ u) (h : ∀ a x, E' a x ↔ E a x ∨ (a = u ∧ x = y)) : InvP n next needs E' (fun p => if p = y then true else if p = u then true else P p) := by
  intro p hp
  rw [baseP_more h]
  dsimp only
  by_cases e1 : p = y
  · rw [if_pos e1]
    refine ⟨fun _ => ?_, fun _ => rfl⟩
    subst e1
    exact .inr (.inl ⟨hne, hy, .inr rfl⟩)
  · by_cases e2 : p = u
    · rw [if_neg e1, if_pos e2]
      refine ⟨fun _ => ?_, fun _ => rfl⟩
      subst e2
      exact .inr (.inl ⟨hne, hy, .inl rfl⟩)
    · rw [if_neg e1, if_neg e2, hi p hp]
      constructor
      · exact .inl
      · rintro (h1 | ⟨_, _, h1⟩ | ⟨h1, _⟩)
        · exact h1
        · rcases h1 with h1 | h1
          · exact absurd h1 e2
          · exact absurd h1 e1
        · exact absurd h1 e2

theorem InvP.far {n : Nat} {next : List (List Nat)} {needs : List Bool} {E E' : Nat → Nat → Prop} {u y : Nat} {P : Nat → Bool} {l : List Nat} (hi : InvP n next needs E P) (hu : u < n) (hy : n ≤ y) (hl : next[y]? = some l) (h : ∀ a x, E' a x ↔ E a x ∨ (a = u ∧ x = y)) : InvP n next needs E' (fun p => if p = u then (P u || otherT (foldT l) u) else P p) := by
  intro p hp
  rw [baseP_more h]
  dsimp only
  by_cases e2 : p = u
  · subst e2
    rw [if_pos rfl, Bool.or_eq_true, hi p hp, other_iff]
    constructor
    · rintro (h1 | ⟨z, h1, h2⟩)
      · exact .inl h1
      · exact .inr (.inr ⟨rfl, hy, z, ⟨l, hl, h1⟩, h2⟩)
    · rintro (h1 | ⟨_, h1, _⟩ | ⟨_, _, z, ⟨l', hl', h1⟩, h2⟩)
      · exact .inl h1
      · omega
      · rw [hl] at hl'
        simp at hl'
        subst hl'
        exact .inr ⟨z, h1, h2⟩
  · rw [if_neg e2, hi p hp]
    constructor
    · exact .inl
    · rintro (h1 | ⟨_, h1, _⟩ | ⟨h1, _⟩)
      · exact h1
      · omega
      · exact absurd h1 e2

theorem InvS.near {n d : Nat} {E E' : Nat → Nat → Prop} {u y : Nat} {S : Nat → Int × Int} (hi : InvS n d E S) (hy : y < n) (h : ∀ a x, E' a x ↔ E a x ∨ (a = u ∧ x = y)) : InvS n d E' S := by
  intro t ht
  obtain ⟨L, h1, h2⟩ := hi t ht
  refine ⟨L, h1, fun a => ?_⟩
  rw [h2, h]
  constructor
  · exact .inl
  · rintro (h3 | ⟨_, h3⟩)
    · exact h3
    · omega

theorem InvS.far {n d : Nat} {E E' : Nat → Nat → Prop} {u y z : Nat} {S : Nat → Int × Int} (hi : InvS n d E S) (hy : n + z = y) (h : ∀ a x, E' a x ↔ E a x ∨ (a = u ∧ x = y)) : InvS n d E' (fun t => if t = z then addT (S z) u else S t) := by
  intro t ht
  obtain ⟨L, h1, h2⟩ := hi t ht
  by_cases e : t = z
  · subst e
    refine ⟨L ++ [u], by show (if t = t then _ else _) = _; rw [if_pos rfl, foldT_snoc, h1], fun a => ?_⟩
    rw [List.mem_append, h2, h]
    simp [hy]
  · refine ⟨L, by show (if t = z then _ else _) = _; rw [if_neg e]; exact h1, fun a => ?_⟩
    rw [h2, h]
    constructor
    · exact .inl
    · rintro (h3 | ⟨_, h3⟩)
      · exact h3
      · omega

theorem InvP.start {n : Nat} {next : List (List Nat)} {needs : List Bool} {P : Nat → Bool} (h : ∀ p, p < n → P p = needs.getD p false) (l : List Nat) : InvP n next needs (fun a x => a < 0 ∧ Ed next a x) P := by
  intro p hp
  rw [h p hp]
  unfold BaseP
  simp

theorem InvS.start {n d : Nat} {next : List (List Nat)} {S : Nat → Int × Int} (h : ∀ y, y < d → S y = (-1, -1)) : InvS n d (fun a x => a < 0 ∧ Ed next a x) S := by
  intro y hy
  exact ⟨[], by rw [h y hy]; rfl, fun a => by simp⟩

theorem InvS.bound {n d : Nat} {E : Nat → Nat → Prop} {S : Nat → Int × Int} (hi : InvS n d E S) (B : Nat) (hE : ∀ a x, E a x → a ≤ B) (y : Nat) (hy : y < d) : -1 ≤ (S y).1 ∧ (S y).1 ≤ B ∧ -1 ≤ (S y).2 ∧ (S y).2 ≤ B := by
  obtain ⟨L, h1, h2⟩ := hi y hy
  rw [h1]
  exact foldT_bound L B (by omega) (fun x hx => by have := hE _ _ ((h2 x).1 hx); omega)

/-! Phase 3 -/

def Inv3 (n : Nat) (next : List (List Nat)) (needs : List Bool) (E : Nat → Nat → Prop) (P : Nat → Bool) : Prop :=
  ∀ p, p < n → (P p = true ↔ BaseP n next needs (fun a x => a < n ∧ Ed next a x) p ∨ ∃ x u, n ≤ x ∧ E x p ∧ u < n ∧ Ed next u x ∧ u ≠ p)

theorem Inv3.congr {n : Nat} {next : List (List Nat)} {needs : List Bool} {E E' : Nat → Nat → Prop} {P : Nat → Bool} (hi : Inv3 n next needs E P) (h : ∀ a x, E a x ↔ E' a x) : Inv3 n next needs E' P := by
  have : E = E' := by funext a x; exact propext (h a x)
  rw [← this]; exact hi

theorem Inv3.start {n : Nat} {next : List (List Nat)} {needs : List Bool} {E : Nat → Nat → Prop} {P : Nat → Bool} (hi : InvP n next needs (fun a x => a < n ∧ Ed next a x) P) (h : ∀ x p, E x p → x < n) : Inv3 n next needs E P := by
  intro p hp
  rw [hi p hp]
  constructor
  · exact .inl
  · rintro (h1 | ⟨x, u, h1, h2, _⟩)
    · exact h1
    · have := h x p h2; omega

theorem Inv3.step {n : Nat} {next : List (List Nat)} {needs : List Bool} {E E' : Nat → Nat → Prop} {P : Nat → Bool} {x y : Nat} {L : List Nat} (hi : Inv3 n next needs E P) (hx : n ≤ x) (hL : ∀ a, a ∈ L ↔ a < n ∧ Ed next a x) (h : ∀ a p, E' a p ↔ E a p ∨ (a = x ∧ p = y)) : Inv3 n next needs E' (fun p => if p = y then (P y || otherT (foldT L) y) else P p) := by
  intro p hp
  by_cases e : p = y
  · subst e
    simp only [if_true, Bool.or_eq_true, hi p hp, other_iff]
    constructor
    · rintro ((h1 | ⟨x', u, h1, h2, h3⟩) | ⟨u, h1, h2⟩)
      · exact .inl h1
      · exact .inr ⟨x', u, h1, (h _ _).2 (.inl h2), h3⟩
      · obtain ⟨h3, h4⟩ := (hL u).1 h1
        exact .inr ⟨x, u, hx, (h _ _).2 (.inr ⟨rfl, rfl⟩), h3, h4, h2⟩
    · rintro (h1 | ⟨x', u, h1, h2, h3, h4, h5⟩)
      · exact .inl (.inl h1)
      · rcases (h _ _).1 h2 with h2 | ⟨rfl, _⟩
        · exact .inl (.inr ⟨x', u, h1, h2, h3, h4, h5⟩)
        · exact .inr ⟨u, (hL u).2 ⟨h3, h4⟩, h5⟩
  · simp only [e, if_false]
    rw [hi p hp]
    constructor
    · rintro (h1 | ⟨x', u, h1, h2, h3⟩)
      · exact .inl h1
      · exact .inr ⟨x', u, h1, (h _ _).2 (.inl h2), h3⟩
    · rintro (h1 | ⟨x', u, h1, h2, h3⟩)
      · exact .inl h1
      · rcases (h _ _).1 h2 with h2 | ⟨_, h2⟩
        · exact .inr ⟨x', u, h1, h2, h3⟩
        · exact absurd h2 e

theorem Inv3.fin {n : Nat} {next : List (List Nat)} {needs : List Bool} {E : Nat → Nat → Prop} {P : Nat → Bool} (hs : Shaped n next) (hi : Inv3 n next needs E P) (hE : ∀ x p, n ≤ x → (E x p ↔ Ed next x p)) (p : Nat) (hp : p < n) : P p = true ↔ needs.getD p false = true ∨ Party n next p := by
  rw [hi p hp, party_iff hs p hp]
  unfold BaseP
  constructor
  · rintro ((h1 | ⟨a, x, ⟨h0, h1⟩, h2, h3, h4⟩ | ⟨x, y, h1, ⟨h0, h2⟩, h3, h4⟩) | ⟨x, u, h1, h2, h3, h4, h5⟩)
    · exact .inl h1
    · exact .inr (.inl ⟨a, x, h0, h3, h2, h1, h4⟩)
    · exact .inr (.inr (.inl ⟨x, y, h1, h2, h3, h4⟩))
    · exact .inr (.inr (.inr ⟨x, u, h1, (hE x p h1).1 h2, h3, h4, h5⟩))
  · rintro (h1 | ⟨a, x, h0, h3, h2, h1, h4⟩ | ⟨x, y, h1, h2, h3, h4⟩ | ⟨x, u, h1, h2, h3, h4, h5⟩)
    · exact .inl (.inl h1)
    · exact .inl (.inr (.inl ⟨a, x, ⟨h0, h1⟩, h2, h3, h4⟩))
    · exact .inl (.inr (.inr ⟨x, y, h1, ⟨hp, h2⟩, h3, h4⟩))
    · exact .inr ⟨x, u, h1, (hE x p h1).2 h2, h3, h4, h5⟩

end Go.Proofs.Qxb6601388a
