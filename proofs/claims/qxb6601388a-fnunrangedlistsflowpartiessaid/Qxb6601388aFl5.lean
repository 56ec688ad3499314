import Derived.Test.Qxb6601388aFl4
namespace Go.Proofs.Qxb6601388a
open Go.RowKit
set_option linter.unusedVariables false

/-- A row of d pairs. -/
def Two (w : World) (b d : Nat) (S : Nat → Int × Int) : Prop := ∃ F, w.rowIs b 64 (d * 2) F ∧ ∀ y, y < d → F (y * 2) = .int .i64 (S y).1 ∧ F (y * 2 + 1) = .int .i64 (S y).2

theorem Two.cell0 {w : World} {b d : Nat} {S : Nat → Int × Int} (h : Two w b d S) {y : Nat} (hy : y < d) : w.cell? ⟨b, y * 2, none⟩ = some (.int .i64 (S y).1) := by
  obtain ⟨F, hr, hF⟩ := h
  rw [hr.cell (by omega), (hF y hy).1]
theorem Two.cell1 {w : World} {b d : Nat} {S : Nat → Int × Int} (h : Two w b d S) {y : Nat} (hy : y < d) : w.cell? ⟨b, y * 2 + 1, none⟩ = some (.int .i64 (S y).2) := by
  obtain ⟨F, hr, hF⟩ := h
  rw [hr.cell (by omega), (hF y hy).2]
theorem Two.frozen {w : World} {b d : Nat} {S : Nat → Int × Int} (h : Two w b d S) (q : Nat) : w.frozen? ⟨b, q, none⟩ = false := by
  obtain ⟨F, hr, hF⟩ := h
  exact hr.frozen q
theorem Two.lt {w : World} {b d : Nat} {S : Nat → Int × Int} (h : Two w b d S) : b < w.heap.size := by
  obtain ⟨F, hr, hF⟩ := h
  exact hr.lt
theorem Two.grown {w w' : World} {b d : Nat} {S : Nat → Int × Int} {r : Option Nat} (h : Two w b d S) (hg : w.grownBy w' r) (hne : some b ≠ r) : Two w' b d S := by
  obtain ⟨F, hr, hF⟩ := h
  exact ⟨F, hr.of_block (hg.block b hr.lt hne), hF⟩
theorem Two.alloc {w : World} {b d : Nat} {S : Nat → Int × Int} (h : Two w b d S) (o : Obj) : Two (w.alloc o) b d S := by
  obtain ⟨F, hr, hF⟩ := h
  exact ⟨F, hr.alloc o, hF⟩
theorem Two.setOther {w : World} {b d : Nat} {S : Nat → Int × Int} (h : Two w b d S) {p : Addr} (hp : b ≠ p.block) (u : Value) : Two (w.setCell p u) b d S := by
  obtain ⟨F, hr, hF⟩ := h
  exact ⟨F, hr.setOther hp u, hF⟩
theorem Two.set0 {w : World} {b d : Nat} {S : Nat → Int × Int} (h : Two w b d S) (y : Nat) (z : Int) : Two (w.setCell ⟨b, y * 2, none⟩ (.int .i64 z)) b d (fun t => if t = y then (z, (S y).2) else S t) := by
  obtain ⟨F, hr, hF⟩ := h
  refine ⟨_, hr.set _ _, fun t ht => ?_⟩
  dsimp only
  by_cases e : t = y
  · subst e
    rw [if_pos rfl, if_pos rfl, if_neg (by omega)]
    exact ⟨rfl, (hF t ht).2⟩
  · rw [if_neg e, if_neg (by omega), if_neg (by omega)]
    exact hF t ht
theorem Two.set1 {w : World} {b d : Nat} {S : Nat → Int × Int} (h : Two w b d S) (y : Nat) (z : Int) : Two (w.setCell ⟨b, y * 2 + 1, none⟩ (.int .i64 z)) b d (fun t => if t = y then ((S y).1, z) else S t) := by
  obtain ⟨F, hr, hF⟩ := h
  refine ⟨_, hr.set _ _, fun t ht => ?_⟩
  dsimp only
  by_cases e : t = y
  · subst e
    rw [if_pos rfl, if_pos rfl, if_neg (by omega)]
    exact ⟨(hF t ht).1, rfl⟩
  · rw [if_neg e, if_neg (by omega), if_neg (by omega)]
    exact hF t ht
theorem Two.congr {w : World} {b d : Nat} {S S' : Nat → Int × Int} (h : Two w b d S) (e : ∀ y, y < d → S y = S' y) : Two w b d S' := by
  obtain ⟨F, hr, hF⟩ := h
  exact ⟨F, hr, fun y hy => by rw [← e y hy]; exact hF y hy⟩

theorem grown_cell (w : World) (a : Addr) (u : Value) : w.grownBy (w.setCell a u) (some a.block) :=
  ⟨rfl, rfl, rfl, by simp, fun k _ hk => Below.heap_setCell w a u k (fun e => hk (by rw [e]))⟩

def AddSaid (b d y v : Nat) (S : Nat → Int × Int) (w : World) (e : Ending) (w' : World) : Prop :=
  e = .returned (.tuple #[]) ∧ Two w' b d (fun t => if t = y then addT (S y) v else S t) ∧ w.grownBy w' (some b) ∧ w'.heap.size = w.heap.size

set_option maxRecDepth 100000 in
set_option maxHeartbeats 1000000 in
/-- (*twoPlaces).add -/
theorem add30 (b d y v : Nat) (S : Nat → Int × Int) (w : World) (hT : Two w b d S) (hy : y < d) (hS : -1 ≤ (S y).1 ∧ (S y).1 ≤ 1000 ∧ -1 ≤ (S y).2 ∧ (S y).2 ≤ 1000) (hv : v ≤ 1000) :
    Calls Try.prog 30 #[.pointer (some ⟨b, y * 2, none⟩), .int .i64 (v : Int)] w (AddSaid b d y v S w) := by
  have c0 := hT.cell0 hy
  have c1 := hT.cell1 hy
  have f0 := hT.frozen (y * 2)
  have f1 := hT.frozen (y * 2 + 1)
  have HT : Hid (Two w b d S) := hT
  obtain ⟨s0, s1, hs⟩ : ∃ s0 s1, S y = (s0, s1) := ⟨(S y).1, (S y).2, rfl⟩
  rw [hs] at c0 c1 hS
  simp only at c0 c1 hS
  have HS : Hid (S y = (s0, s1)) := hs
  clear hT hs
  by_cases h0 : s0 < 0
  · go_enter Try.func30, Try.ntmps30
    go_wp2
    go_end0
    refine ⟨rfl, (HT.out.set0 y (v : Int)).congr (fun t ht => ?_), ?_, by simp⟩
    · by_cases e : t = y
      · rw [if_pos e, if_pos e, HS.out, addT, if_pos h0]
      · rw [if_neg e, if_neg e]
    · exact grown_cell _ _ _
  · by_cases h1 : s1 < 0
    · by_cases h2 : (v : Int) = s0
      · go_enter Try.func30, Try.ntmps30
        go_wp2
        go_end0
        refine ⟨rfl, HT.out.congr (fun t ht => ?_), World.grownBy.refl _ _, rfl⟩
        by_cases e : t = y
        · rw [if_pos e, e, HS.out, addT, if_neg (by show ¬ s0 < 0; omega), if_neg (fun h => h.2 h2)]
        · rw [if_neg e]
      · go_enter Try.func30, Try.ntmps30
        go_wp2
        go_end0
        refine ⟨rfl, (HT.out.set1 y (v : Int)).congr (fun t ht => ?_), ?_, by simp⟩
        · by_cases e : t = y
          · rw [if_pos e, if_pos e, HS.out, addT, if_neg (by show ¬ s0 < 0; omega), if_pos ⟨h1, h2⟩]
          · rw [if_neg e, if_neg e]
        · exact grown_cell _ _ _
    · go_enter Try.func30, Try.ntmps30
      go_wp2
      go_end0
      refine ⟨rfl, HT.out.congr (fun t ht => ?_), World.grownBy.refl _ _, rfl⟩
      by_cases e : t = y
      · rw [if_pos e, e, HS.out, addT, if_neg (by show ¬ s0 < 0; omega), if_neg (fun h => absurd h.1 (by show ¬ s1 < 0; omega))]
      · rw [if_neg e]

def OtherSaid (b : Bool) (w : World) (e : Ending) (w' : World) : Prop := e = .returned (.bool b) ∧ ∃ o, w.alloc o = w'

set_option maxRecDepth 100000 in
set_option maxHeartbeats 1000000 in
/-- (twoPlaces).other -/
theorem other31 (t : Int × Int) (v : Nat) (w : World) (hS : -1 ≤ t.1 ∧ t.1 ≤ 1000 ∧ -1 ≤ t.2 ∧ t.2 ≤ 1000) (hv : v ≤ 1000) :
    Calls Try.prog 31 #[.agg #[.int .i64 t.1, .int .i64 t.2], .int .i64 (v : Int)] w (OtherSaid (otherT t v) w) := by
  obtain ⟨t0, t1⟩ := t
  simp only at hS
  by_cases h1 : 0 ≤ t1
  · go_enter Try.func31, Try.ntmps31
    go_wp2
    go_ret
    exact ⟨by simp [otherT, h1], _, rfl⟩
  · by_cases h0 : 0 ≤ t0
    · by_cases h2 : t0 = v
      · go_enter Try.func31, Try.ntmps31
        go_wp2
        go_ret
        exact ⟨by rw [otherT]; simp [show ¬ (0 ≤ t1) by omega], _, rfl⟩
      · go_enter Try.func31, Try.ntmps31
        go_wp2
        go_ret
        exact ⟨by rw [otherT]; simp [h0, show ¬ (0 ≤ t1) by omega, bne], _, rfl⟩
    · go_enter Try.func31, Try.ntmps31
      go_wp2
      go_ret
      exact ⟨by rw [otherT]; simp [show ¬ (0 ≤ t1) by omega, show ¬ (0 ≤ t0) by omega], _, rfl⟩

end Go.Proofs.Qxb6601388a
