import Derived.Test.Qxb6601388aFl2
namespace Go.Proofs.Qxb6601388a
open Go.RowKit
set_option linter.unusedVariables false

/-! ### Plain -/

theorem sq_lt {n u x : Nat} (hu : u < n) (hx : x < n) : u * n + x < n * n := by
  have h1 : (u + 1) * n ≤ n * n := Nat.mul_le_mul_right n hu
  have h2 : (u + 1) * n = u * n + n := by rw [Nat.add_mul, Nat.one_mul]
  omega

theorem sq_inj {n u x u' x' : Nat} (hx : x < n) (hx' : x' < n) (h : u * n + x = u' * n + x') : u = u' ∧ x = x' := by
  have e1 : (u * n + x) / n = u := by rw [Nat.add_comm, Nat.add_mul_div_right _ _ (by omega), Nat.div_eq_of_lt hx]; omega
  have e2 : (u' * n + x') / n = u' := by rw [Nat.add_comm, Nat.add_mul_div_right _ _ (by omega), Nat.div_eq_of_lt hx']; omega
  rw [h, e2] at e1
  subst e1
  exact ⟨rfl, by omega⟩

def PartOK (v : Nat) (next : List (List Nat)) (a b : Nat) (Pm : Nat → Bool) : Prop :=
  ∀ p, p < v → (Pm p = true ↔ ∃ a' b', a' < v ∧ b' < v ∧ (a' < a ∨ a' = a ∧ b' < b) ∧ a' ≠ b' ∧ Flow v next a' b' ∧ (p = a' ∨ p = b'))

theorem part_start (v : Nat) (next : List (List Nat)) : PartOK v next 0 0 (fun _ => false) := by
  intro p hp
  simp only [Bool.false_eq_true, false_iff]
  rintro ⟨a', b', _, _, h, _⟩
  omega

theorem part_skip {v : Nat} {next : List (List Nat)} {a b : Nat} {Pm : Nat → Bool} (h : PartOK v next a b Pm) (hn : a = b ∨ ¬ Flow v next a b) : PartOK v next a (b + 1) Pm := by
  intro p hp
  rw [h p hp]
  constructor
  · rintro ⟨a', b', h1, h2, h3, h4⟩
    exact ⟨a', b', h1, h2, by omega, h4⟩
  · rintro ⟨a', b', h1, h2, h3, h4, h5, h6⟩
    refine ⟨a', b', h1, h2, ?_, h4, h5, h6⟩
    rcases h3 with h3 | ⟨rfl, h3⟩
    · exact .inl h3
    · by_cases e : b' = b
      · subst e
        rcases hn with hn | hn
        · exact absurd hn h4
        · exact absurd h5 hn
      · exact .inr ⟨rfl, by omega⟩

theorem part_hit {v : Nat} {next : List (List Nat)} {a b : Nat} {Pm : Nat → Bool} (h : PartOK v next a b Pm) (ha : a < v) (hb : b < v) (hne : a ≠ b) (hf : Flow v next a b) : PartOK v next a (b + 1) (fun p => if p = b then true else if p = a then true else Pm p) := by
  intro p hp
  by_cases e1 : p = b
  · simp only [e1, if_true, true_iff]
    exact ⟨a, b, ha, hb, .inr ⟨rfl, by omega⟩, hne, hf, .inr rfl⟩
  · by_cases e2 : p = a
    · simp only [e2, if_true, ite_self, true_iff]
      exact ⟨a, b, ha, hb, .inr ⟨rfl, by omega⟩, hne, hf, .inl rfl⟩
    · simp only [e1, e2, if_false]
      rw [h p hp]
      constructor
      · rintro ⟨a', b', h1, h2, h3, h4⟩
        exact ⟨a', b', h1, h2, by omega, h4⟩
      · rintro ⟨a', b', h1, h2, h3, h4, h5, h6⟩
        refine ⟨a', b', h1, h2, ?_, h4, h5, h6⟩
        rcases h3 with h3 | ⟨rfl, h3⟩
        · exact .inl h3
        · by_cases e : b' = b
          · subst e
            rcases h6 with h6 | h6
            · exact absurd h6 e2
            · exact absurd h6 e1
          · exact .inr ⟨rfl, by omega⟩

theorem part_row {v : Nat} {next : List (List Nat)} {a : Nat} {Pm : Nat → Bool} (h : PartOK v next a v Pm) : PartOK v next (a + 1) 0 Pm := by
  intro p hp
  rw [h p hp]
  constructor
  · rintro ⟨a', b', h1, h2, h3, h4⟩
    exact ⟨a', b', h1, h2, by omega, h4⟩
  · rintro ⟨a', b', h1, h2, h3, h4⟩
    exact ⟨a', b', h1, h2, by omega, h4⟩

theorem part_end {v : Nat} {next : List (List Nat)} {Pm : Nat → Bool} (h : PartOK v next v 0 Pm) (p : Nat) (hp : p < v) : Pm p = true ↔ Party v next p := by
  rw [h p hp]
  constructor
  · rintro ⟨a', b', h1, h2, h3, h4, h5, h6⟩
    exact ⟨a', b', h1, h2, h4, h5, h6⟩
  · rintro ⟨a', b', h1, h2, h4, h5, h6⟩
    exact ⟨a', b', h1, h2, .inl h1, h4, h5, h6⟩

def hasB (ranged : List ByteArray) (s : ByteArray) : Bool := ranged.any fun y => y.toList == s.toList

theorem hasB_iff (ranged : List ByteArray) (s : ByteArray) : s ∈ ranged ↔ hasB ranged s = true := by
  simp only [hasB, List.any_eq_true, beq_str, decide_eq_true_eq]
  constructor
  · intro h; exact ⟨s, h, rfl⟩
  · rintro ⟨y, hy, rfl⟩; exact hy

def keepB (names : List ByteArray) (ranged : List ByteArray) (Q : Nat → Bool) (p : Nat) : Bool := Q p && !hasB ranged (names.getD p ByteArray.empty)

theorem keepB_ok {names : List ByteArray} {next : List (List Nat)} {ranged : List ByteArray} {needs : List Bool} {Q : Nat → Bool} (h : ∀ p, p < names.length → (Q p = true ↔ needs.getD p false = true ∨ Party names.length next p)) : KeepOK names next ranged needs (keepB names ranged Q) := by
  intro p hp
  simp only [keepB, Bool.and_eq_true, Bool.not_eq_true', h p hp, hasB_iff]
  simp

def FlowSaid (names : List ByteArray) (next : List (List Nat)) (ranged : List ByteArray) (needs : List Bool) (w : World) (e : Ending) (w' : World) : Prop :=
  ∃ v' keep, e = .returned v' ∧ KeepOK names next ranged needs keep ∧ w'.ownsRow w.heap.size 9 1 v' (outTo names keep names.length).length ((outTo names keep names.length).map Value.string) ∧ (outTo names keep names.length = [] → v' = .slice none 0 0) ∧ Below w.heap.size w w'

/-! ### The matrix -/

def Adj (w : World) (ba n : Nat) (A : Nat → Nat → Bool) : Prop := ∃ F, w.rowIs ba 4 (n * n) F ∧ ∀ u x, u < n → x < n → F (u * n + x) = .bool (A u x)

theorem Adj.cell {w : World} {ba n : Nat} {A : Nat → Nat → Bool} (h : Adj w ba n A) {u x q : Nat} (hu : u < n) (hx : x < n) (hq : u * n + x = q) : w.cell? ⟨ba, q, none⟩ = some (.bool (A u x)) ∧ w.frozen? ⟨ba, q, none⟩ = false := by
  obtain ⟨F, hr, hF⟩ := h
  subst hq
  exact ⟨by rw [hr.cell (sq_lt hu hx), hF u x hu hx], hr.frozen _⟩

theorem Adj.store {w : World} {ba n : Nat} {A : Nat → Nat → Bool} (h : Adj w ba n A) {u x q : Nat} (hx : x < n) (hq : u * n + x = q) : Adj (w.setCell ⟨ba, q, none⟩ (.bool true)) ba n (fun u' x' => A u' x' || (decide (u' = u) && decide (x' = x))) := by
  obtain ⟨F, hr, hF⟩ := h
  subst hq
  refine ⟨_, hr.set _ _, fun u' x' hu' hx' => ?_⟩
  by_cases e : u' * n + x' = u * n + x
  · obtain ⟨rfl, rfl⟩ := sq_inj hx' hx e
    rw [if_pos rfl]; simp
  · rw [if_neg e, hF u' x' hu' hx']
    have : ¬ (u' = u ∧ x' = x) := fun ⟨e1, e2⟩ => e (by rw [e1, e2])
    by_cases e1 : u' = u
    · have e2 : ¬ x' = x := fun e2 => this ⟨e1, e2⟩
      simp [e2]
    · simp [e1]

theorem Adj.setOther {w : World} {ba n : Nat} {A : Nat → Nat → Bool} (h : Adj w ba n A) {p : Addr} (hp : ba ≠ p.block) (u : Value) : Adj (w.setCell p u) ba n A := by
  obtain ⟨F, hr, hF⟩ := h
  exact ⟨F, hr.setOther hp u, hF⟩

theorem Adj.alloc {w : World} {ba n : Nat} {A : Nat → Nat → Bool} (h : Adj w ba n A) (o : Obj) : Adj (w.alloc o) ba n A := by
  obtain ⟨F, hr, hF⟩ := h
  exact ⟨F, hr.alloc o, hF⟩

theorem Adj.lt {w : World} {ba n : Nat} {A : Nat → Nat → Bool} (h : Adj w ba n A) : ba < w.heap.size := by
  obtain ⟨F, hr, hF⟩ := h
  exact hr.lt

theorem Adj.made (w : World) (n N : Nat) (hN : n * n = N) : Adj (w.alloc (.cells (madeCells #[.bool false] N) 4)) w.heap.size n (fun _ _ => false) := by
  subst hN
  exact ⟨_, World.rowIs_made w (.bool false) (n * n) 4, fun u x _ _ => rfl⟩

/-- A row of bools. -/
def Bls (w : World) (b n : Nat) (P : Nat → Bool) : Prop := w.rowIs b 4 n (fun j => .bool (P j))

theorem Bls.store {w : World} {b n : Nat} {P : Nat → Bool} (h : Bls w b n P) (i : Nat) (x : Bool) : Bls (w.setCell ⟨b, i, none⟩ (.bool x)) b n (fun j => if j = i then x else P j) :=
  (World.rowIs.set h i (.bool x)).congr (fun j hj => by by_cases e : j = i <;> simp [e])

theorem Bls.congr {w : World} {b n : Nat} {P Q : Nat → Bool} (h : Bls w b n P) (e : ∀ j, j < n → P j = Q j) : Bls w b n Q := World.rowIs.congr h (fun j hj => by rw [e j hj])

end Go.Proofs.Qxb6601388a
