import Derived.Test.Qxb6000897aPtTable
namespace Go.Proofs.Qxb6000897a
open Go.RowKit
set_option linter.unusedVariables false

theorem flat_get (l : List (ByteArray × Bool)) : ∀ (j : Nat) (z : ByteArray × Bool), l[j]? = some z → (flat l)[j * 2]? = some (.string z.1) ∧ (flat l)[j * 2 + 1]? = some (.bool z.2) := by
  induction l with
  | nil => intro j z h; simp at h
  | cons x r ih =>
    intro j z h
    have e : flat (x :: r) = .string x.1 :: .bool x.2 :: flat r := by simp [flat]
    rw [e]
    cases j with
    | zero => simp at h; subst h; simp
    | succ j =>
      have := ih j z (by simpa using h)
      have e1 : (j + 1) * 2 = j * 2 + 1 + 1 := by omega
      rw [e1]
      simpa using this

theorem line_get {ss : List ByteArray} {bs : List Bool} {k j : Nat} (h : j < k) : (line ss bs k)[j]? = some (ss.getD j ByteArray.empty, bs.getD j false) := by
  simp [line, h]

/-- A heading's two cells. -/
theorem head_cells {w : World} {base n : Nat} {ao : Option Addr} {cp : Nat} {ts : List ByteArray} {bs : List Bool} (h : w.ownsRow base 49 2 (.slice ao n cp) n (flat (line ts bs n))) {j : Nat} (hj : j < n) :
    ∃ gh, ao = some ⟨gh, 0, none⟩ ∧ gh < w.heap.size ∧ ∀ i, i < n → w.cell? ⟨gh, i * 2, none⟩ = some (.string (ts.getD i ByteArray.empty)) ∧ w.cell? ⟨gh, i * 2 + 1, none⟩ = some (.bool (bs.getD i false)) := by
  have hlt := h.lt
  rcases h.2 with ⟨e, e0⟩ | ⟨g, cap, cur, e, _⟩
  · omega
  · simp only [Value.slice.injEq, true_and] at e
    obtain ⟨rfl, rfl⟩ := e
    refine ⟨g, rfl, (hlt g rfl).2, fun i hi => ?_⟩
    have := flat_get (line ts bs n) i _ (line_get hi)
    rw [h.cellAt (i * 2) (by omega), h.cellAt (i * 2 + 1) (by omega)]
    exact this

/-- The table's line i, by its cell. -/
theorem rows_cells {w : World} {base n : Nat} {ao : Option Addr} {cp : Nat} {T : Nat → Option Addr × Nat × Nat} (h : w.ownsRow base 39 1 (.slice ao n cp) n ((List.range n).map fun j => sl3 (T j))) {j : Nat} (hj : j < n) :
    ∃ gr, ao = some ⟨gr, 0, none⟩ ∧ gr < w.heap.size ∧ ∀ i, i < n → w.cell? ⟨gr, i, none⟩ = some (sl3 (T i)) := by
  have hlt := h.lt
  rcases h.2 with ⟨e, e0⟩ | ⟨g, cap, cur, e, _⟩
  · omega
  · simp only [Value.slice.injEq, true_and] at e
    obtain ⟨rfl, rfl⟩ := e
    refine ⟨g, rfl, (hlt g rfl).2, fun i hi => ?_⟩
    rw [h.cellAt i (by omega)]
    simp [hi]

theorem PRow.cells {w : World} {v : Value} {ss : List ByteArray} {bs : List Bool} (h : PRow w v ss bs) :
    ∃ q, v = .slice (some ⟨q, 0, none⟩) ss.length ss.length ∧ q < w.heap.size ∧ ∀ j, j < ss.length → w.cell? ⟨q, j * 2, none⟩ = some (.string (ss.getD j ByteArray.empty)) ∧ w.cell? ⟨q, j * 2 + 1, none⟩ = some (.bool (bs.getD j false)) := by
  obtain ⟨q, F, hv, hr, hF⟩ := h
  refine ⟨q, hv, hr.lt, fun j hj => ?_⟩
  rw [hr.cell (i := j * 2) (by omega), hr.cell (i := j * 2 + 1) (by omega), (hF j hj).1, (hF j hj).2]
  exact ⟨rfl, rfl⟩

theorem pick23q (v : Value) (ss : List Bool) (j : Nat) (s : Bool) (w : World) (n : Nat) (B : Nat) (h : Sl Value.bool w B v ss) (hsv : Hid (ss.getD j false = s)) (hj : j ≤ 1048576) (hm : ss.length ≤ 1048576) :
    Calls Try.prog 23 #[v, .int .i64 j] (w.drewN n) fun e w'' => e = .returned (.bool s) ∧ ∃ m, w'' = w.drewN m :=
  Calls.quiet_of_same ((pick23 v ss j s (w.drewN n) B (h.below (below_drewN (Below.refl _ _) n)) hsv hj hm).mono fun _ _ ⟨he, hw⟩ => ⟨he, hw.symm⟩)

end Go.Proofs.Qxb6000897a
