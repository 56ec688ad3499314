import Derived.Test.Qxb6601388aBase
namespace Go.Proofs.Qxb6601388a
set_option linter.unusedVariables false

/-! ### The graph -/

/-- There is an edge from u to x. -/
def Ed (next : List (List Nat)) (u x : Nat) : Prop := ∃ l, next[u]? = some l ∧ x ∈ l

def Shaped (v : Nat) (next : List (List Nat)) : Prop := v ≤ next.length ∧ ∀ (u : Nat) l x, next[u]? = some l → x ∈ l → x < next.length ∧ (v ≤ u → x < v)

theorem Shaped.lt {v : Nat} {next : List (List Nat)} (h : Shaped v next) {u x : Nat} (he : Ed next u x) : u < next.length ∧ x < next.length ∧ (v ≤ u → x < v) := by
  obtain ⟨l, hl, hx⟩ := he
  exact ⟨lt_of_some hl, h.2 u l x hl hx⟩

def Flow (v : Nat) (next : List (List Nat)) (a b : Nat) : Prop := Ed next a b ∨ ∃ x, v ≤ x ∧ Ed next a x ∧ Ed next x b

/-- p takes part in a flow. -/
def Party (v : Nat) (next : List (List Nat)) (p : Nat) : Prop := ∃ a b, a < v ∧ b < v ∧ a ≠ b ∧ Flow v next a b ∧ (p = a ∨ p = b)

/-- What unranged gathers: direct edges; p sends through a node that another receives from; p receives from a node that another sends to. -/
theorem party_iff {v : Nat} {next : List (List Nat)} (hs : Shaped v next) (p : Nat) (hp : p < v) :
    Party v next p ↔ (∃ u x, u < v ∧ x < v ∧ x ≠ u ∧ Ed next u x ∧ (p = u ∨ p = x)) ∨ (∃ x y, v ≤ x ∧ Ed next p x ∧ Ed next x y ∧ y ≠ p) ∨ (∃ x u, v ≤ x ∧ Ed next x p ∧ u < v ∧ Ed next u x ∧ u ≠ p) := by
  constructor
  · rintro ⟨a, b, ha, hb, hne, hf, hpp⟩
    rcases hf with he | ⟨x, hx, h1, h2⟩
    · exact .inl ⟨a, b, ha, hb, fun e => hne e.symm, he, hpp⟩
    · rcases hpp with rfl | rfl
      · exact .inr (.inl ⟨x, b, hx, h1, h2, fun e => hne e.symm⟩)
      · exact .inr (.inr ⟨x, a, hx, h2, ha, h1, hne⟩)
  · rintro (⟨u, x, hu, hx, hne, he, hpp⟩ | ⟨x, y, hx, h1, h2, hne⟩ | ⟨x, u, hx, h1, hu, h2, hne⟩)
    · exact ⟨u, x, hu, hx, fun e => hne e.symm, .inl he, hpp⟩
    · exact ⟨p, y, hp, (hs.lt h2).2.2 hx, fun e => hne e.symm, .inr ⟨x, hx, h1, h2⟩, .inl rfl⟩
    · exact ⟨u, p, hu, hp, hne, .inr ⟨x, hx, h2, h1⟩, .inr rfl⟩

/-! ### twoPlaces -/

def addT (t : Int × Int) (v : Nat) : Int × Int := if t.1 < 0 then ((v : Int), t.2) else if t.2 < 0 ∧ (v : Int) ≠ t.1 then (t.1, (v : Int)) else t

def otherT (t : Int × Int) (v : Nat) : Bool := decide (0 ≤ t.2) || (decide (0 ≤ t.1) && !(t.1 == (v : Int)))

def foldT (l : List Nat) : Int × Int := l.foldl addT (-1, -1)

theorem foldT_snoc (l : List Nat) (v : Nat) : foldT (l ++ [v]) = addT (foldT l) v := by simp [foldT]

/-- The two places: both -1; or one that is all there is; or two different ones. -/
theorem foldT_cases : ∀ l : List Nat, (l = [] ∧ foldT l = (-1, -1)) ∨ (∃ a : Nat, a ∈ l ∧ (∀ x ∈ l, x = a) ∧ foldT l = ((a : Int), -1)) ∨ ∃ a b : Nat, a ∈ l ∧ b ∈ l ∧ a ≠ b ∧ foldT l = ((a : Int), (b : Int)) := by
  suffices h : ∀ (k : Nat) (l : List Nat), l.length = k → (l = [] ∧ foldT l = (-1, -1)) ∨ (∃ a : Nat, a ∈ l ∧ (∀ x ∈ l, x = a) ∧ foldT l = ((a : Int), -1)) ∨ ∃ a b : Nat, a ∈ l ∧ b ∈ l ∧ a ≠ b ∧ foldT l = ((a : Int), (b : Int)) from fun l => h l.length l rfl
  intro k
  induction k with
  | zero => intro l h; left; exact ⟨List.eq_nil_of_length_eq_zero h, by rw [List.eq_nil_of_length_eq_zero h]; rfl⟩
  | succ k ih =>
    intro l h
    rcases List.eq_nil_or_concat l with rfl | ⟨l', v, rfl⟩
    · simp at h
    · rw [List.concat_eq_append] at h ⊢
      have hl : l'.length = k := by simp at h; exact h
      rw [foldT_snoc]
      rcases ih l' hl with ⟨rfl, h0⟩ | ⟨a, ha, hall, h0⟩ | ⟨a, b, ha, hb, hne, h0⟩
      · right; left
        refine ⟨v, by simp, by simp, ?_⟩
        rw [h0]; simp [addT]
      · by_cases e : v = a
        · subst e
          right; left
          refine ⟨v, by simp, fun x hx => ?_, ?_⟩
          · simp at hx
            rcases hx with hx | hx
            · exact hall x hx
            · exact hx
          · rw [h0]
            have h1 : ¬ ((v : Int) < 0) := by omega
            simp [addT, h1]
        · right; right
          refine ⟨a, v, by simp [ha], by simp, fun e' => e e'.symm, ?_⟩
          rw [h0]
          have h1 : ¬ ((a : Int) < 0) := by omega
          have h2 : ¬ ((v : Int) = (a : Int)) := by omega
          simp [addT, h1, h2]
      · right; right
        refine ⟨a, b, by simp [ha], by simp [hb], hne, ?_⟩
        rw [h0]
        have h1 : ¬ ((a : Int) < 0) := by omega
        have h2 : ¬ ((b : Int) < 0) := by omega
        simp [addT, h1, h2]

theorem other_iff (l : List Nat) (v : Nat) : otherT (foldT l) v = true ↔ ∃ y ∈ l, y ≠ v := by
  rcases foldT_cases l with ⟨rfl, h0⟩ | ⟨a, ha, hall, h0⟩ | ⟨a, b, ha, hb, hne, h0⟩
  · rw [h0]; simp [otherT]
  · rw [h0]
    simp only [otherT]
    constructor
    · intro h
      refine ⟨a, ha, fun e => ?_⟩
      subst e
      simp at h
    · rintro ⟨y, hy, hne⟩
      have := hall y hy
      subst this
      have h1 : ¬ ((y : Int) = (v : Int)) := by omega
      simp [h1]
  · rw [h0]
    constructor
    · intro _
      by_cases e : a = v
      · exact ⟨b, hb, fun e' => hne (e.trans e'.symm)⟩
      · exact ⟨a, ha, e⟩
    · intro _; simp [otherT]

theorem foldT_bound (l : List Nat) (B : Int) (hB : 0 ≤ B) (h : ∀ x ∈ l, (x : Int) ≤ B) : -1 ≤ (foldT l).1 ∧ (foldT l).1 ≤ B ∧ -1 ≤ (foldT l).2 ∧ (foldT l).2 ≤ B := by
  rcases foldT_cases l with ⟨rfl, h0⟩ | ⟨a, ha, hall, h0⟩ | ⟨a, b, ha, hb, hne, h0⟩
  · rw [h0]; simp; omega
  · rw [h0]; have := h a ha; simp only; omega
  · rw [h0]; have := h a ha; have := h b hb; simp only; omega

/-! ### What is handed back -/

def outTo (names : List ByteArray) (keep : Nat → Bool) (k : Nat) : List ByteArray := ((List.range k).filter keep).map fun p => names.getD p ByteArray.empty

theorem outTo_yes {names : List ByteArray} {keep : Nat → Bool} {k : Nat} (h : keep k = true) : outTo names keep (k + 1) = outTo names keep k ++ [names.getD k ByteArray.empty] := by
  simp [outTo, List.range_succ, h]
theorem outTo_no {names : List ByteArray} {keep : Nat → Bool} {k : Nat} (h : keep k = false) : outTo names keep (k + 1) = outTo names keep k := by
  simp [outTo, List.range_succ, h]
theorem outTo_len (names : List ByteArray) (keep : Nat → Bool) (k : Nat) : (outTo names keep k).length ≤ k := by
  unfold outTo
  rw [List.length_map]
  have := List.length_filter_le keep (List.range k)
  simpa using this
theorem outTo_congr {names : List ByteArray} {k1 k2 : Nat → Bool} {n : Nat} (h : ∀ p, p < n → k1 p = k2 p) : outTo names k1 n = outTo names k2 n := by
  unfold outTo
  congr 1
  apply List.filter_congr
  intro p hp
  exact h p (by simpa using hp)

/-- The names that are to be listed. -/
def KeepOK (names : List ByteArray) (next : List (List Nat)) (ranged : List ByteArray) (needs : List Bool) (keep : Nat → Bool) : Prop :=
  ∀ p, p < names.length → (keep p = true ↔ (needs.getD p false = true ∨ Party names.length next p) ∧ ¬ names.getD p ByteArray.empty ∈ ranged)

theorem keep_unique {names : List ByteArray} {next : List (List Nat)} {ranged : List ByteArray} {needs : List Bool} {k1 k2 : Nat → Bool} (h1 : KeepOK names next ranged needs k1) (h2 : KeepOK names next ranged needs k2) : outTo names k1 names.length = outTo names k2 names.length :=
  outTo_congr (fun p hp => by rw [Bool.eq_iff_iff, h1 p hp, h2 p hp])

end Go.Proofs.Qxb6601388a
