import Derived.Test.Qxb6601388aBase
import Derived.Deep.Slices
import Derived.OpenShut
namespace Go.Proofs.Qxb6601388a
open Go.RowKit Go.Deep
set_option linter.unusedVariables false

theorem exists_list {α : Type} {p : Nat → α → Prop} : ∀ n : Nat, (∀ i, i < n → ∃ x, p i x) → ∃ l : List α, l.length = n ∧ ∀ (i : Nat) x, l[i]? = some x → p i x := by
  intro n
  induction n with
  | zero => intro _; exact ⟨[], rfl, fun i x h => by simp at h⟩
  | succ n ih =>
    intro h
    obtain ⟨l, hl, hp⟩ := ih (fun i hi => h i (by omega))
    obtain ⟨x, hx⟩ := h n (by omega)
    refine ⟨l ++ [x], by simp [hl], fun i y hy => ?_⟩
    by_cases hi : i < l.length
    · rw [List.getElem?_append_left hi] at hy
      exact hp i y hy
    · have hlt := lt_of_some hy
      have : i = n := by simp [hl] at hlt; omega
      subst this
      rw [List.getElem?_append_right (by omega)] at hy
      simp [hl] at hy
      subst hy
      exact hx

section
variable {H : Type} {enc : TypeId × Value → H} {P : Program} {w : World} {base : Nat} {spare : Nat → Bool} {held : Bool}

theorem sl_open {α : Type} {f : α → Value} {Q : α → Prop} {t e : TypeId} {fuel : Nat} {v : Value} {x : DataW H × List MemPlace} (ht : P.underlying t = some (.slice e)) (hc : P.cellsOf e = 1)
    (hel : ∀ n u y, DataW.trod enc P w base spare held n e [u] = some y → ∃ z, u = f z ∧ Q z) (h : DataW.trod enc P w base spare held fuel t [v] = some x) :
    ∃ zs : List α, Sl f w w.heap.size v zs ∧ zs.length ≤ maxLen ∧ ∀ (i : Nat) z, zs[i]? = some z → Q z := by
  rcases open_slice1 ht hc h with ⟨hcs, _⟩ | ⟨a, len, cap, m, n, V, D, Pl, hcs, _, hl, hm, hmm, _, hx⟩
  · simp only [List.cons.injEq, and_true] at hcs
    exact ⟨[], .inl ⟨rfl, hcs⟩, Nat.zero_le _, fun i z h => by simp at h⟩
  · simp only [List.cons.injEq, and_true] at hcs
    have hlm : len ≤ m := by rw [hmm]; split <;> omega
    obtain ⟨zs, hz, hp⟩ := exists_list (p := fun i z => V i = f z ∧ Q z) len (fun i hi => hel n (V i) _ (hx i (by omega)).2)
    refine ⟨zs, .inr ⟨a.block, a.off, a.spot, cap, by rw [hcs, hz], fun hp0 => ?_, fun i z hi => ?_⟩, by omega, fun i z hi => (hp i z hi).2⟩
    · have h0 := (hx 0 (by omega)).1
      exact ⟨by simpa [Addr.add] using World.cell?_spot h0, by simpa [Addr.add] using World.block_lt_of_cell? _ _ h0⟩
    · have hi' := lt_of_some hi
      have h0 := (hx i (by omega)).1
      have hs : a.spot = none := by simpa [Addr.add] using World.cell?_spot (hx 0 (by omega)).1
      obtain ⟨b, o, s⟩ := a
      simp only at hs
      subst hs
      rw [Addr.add_lit, (hp i z hi).1] at h0
      exact h0

theorem sl_strings {t e : TypeId} {fuel : Nat} {v : Value} {x : DataW H × List MemPlace} (ht : P.underlying t = some (.slice e)) (hc : P.cellsOf e = 1) (he : P.underlying e = some .string) (h : DataW.trod enc P w base spare held fuel t [v] = some x) :
    ∃ zs : List ByteArray, Sl Value.string w w.heap.size v zs ∧ zs.length ≤ maxLen ∧ ∀ (i : Nat) z, zs[i]? = some z → z.size ≤ maxLen :=
  sl_open ht hc (fun n u y hy => by obtain ⟨s, h1, _, h3⟩ := DataW.trod_string he hy; simp only [List.cons.injEq, and_true] at h1; exact ⟨s, h1, h3⟩) h

theorem sl_ints {t e : TypeId} {k : IntKind} {fuel : Nat} {v : Value} {x : DataW H × List MemPlace} (ht : P.underlying t = some (.slice e)) (hc : P.cellsOf e = 1) (he : P.underlying e = some (.int k)) (h : DataW.trod enc P w base spare held fuel t [v] = some x) :
    ∃ zs : List Int, Sl (Value.int k) w w.heap.size v zs ∧ zs.length ≤ maxLen ∧ ∀ (i : Nat) z, zs[i]? = some z → (Lit.int k z).wf = true :=
  sl_open ht hc (fun n u y hy => by obtain ⟨s, h1, _, h3⟩ := DataW.trod_int he hy; simp only [List.cons.injEq, and_true] at h1; exact ⟨s, h1, h3⟩) h

theorem sl_bools {t e : TypeId} {fuel : Nat} {v : Value} {x : DataW H × List MemPlace} (ht : P.underlying t = some (.slice e)) (hc : P.cellsOf e = 1) (he : P.underlying e = some .bool) (h : DataW.trod enc P w base spare held fuel t [v] = some x) :
    ∃ zs : List Bool, Sl Value.bool w w.heap.size v zs ∧ zs.length ≤ maxLen := by
  obtain ⟨zs, h1, h2, _⟩ := sl_open (f := Value.bool) (Q := fun _ => True) ht hc (fun n u y hy => by obtain ⟨s, h1, _⟩ := DataW.trod_bool he hy; simp only [List.cons.injEq, and_true] at h1; exact ⟨s, h1, trivial⟩) h
  exact ⟨zs, h1, h2⟩

/-- A slice of slices, the inner ones by a law of their own. -/
theorem sl2_open {α : Type} {f : α → Value} {Q : List α → Prop} {t e : TypeId} {fuel : Nat} {v : Value} {x : DataW H × List MemPlace} (ht : P.underlying t = some (.slice e)) (hc : P.cellsOf e = 1)
    (hel : ∀ n u y, DataW.trod enc P w base spare held n e [u] = some y → ∃ zs, Sl f w w.heap.size u zs ∧ Q zs) (h : DataW.trod enc P w base spare held fuel t [v] = some x) :
    ∃ zss : List (List α), Sl2 f w w.heap.size v zss ∧ zss.length ≤ maxLen ∧ ∀ (i : Nat) zs, zss[i]? = some zs → Q zs := by
  obtain ⟨us, h1, h2, h3⟩ := sl_open (f := sl3) (Q := fun tt => ∃ zs, Sl f w w.heap.size (sl3 tt) zs ∧ Q zs) ht hc (fun n u y hy => by
    obtain ⟨zs, hs, hq⟩ := hel n u y hy
    obtain ⟨a, c, hu⟩ := hs.form
    exact ⟨(a, zs.length, c), hu, zs, by rw [hu] at hs; exact hs, hq⟩) h
  obtain ⟨zss, hz, hp⟩ := exists_list (p := fun i zs => ∀ tt, us[i]? = some tt → Sl f w w.heap.size (sl3 tt) zs ∧ Q zs) us.length (fun i hi => by
    obtain ⟨zs, hs⟩ := h3 i us[i] (by simp [hi])
    exact ⟨zs, fun tt htt => by simp [hi] at htt; subst htt; exact hs⟩)
  refine ⟨zss, ⟨us, hz.symm, h1, fun i tt zs htt hzs => (hp i zs hzs tt htt).1⟩, by omega, fun i zs hzs => ?_⟩
  have hi := lt_of_some hzs
  exact (hp i zs hzs us[i] (by simp [show i < us.length by omega])).2

theorem sl2_strings {t e e2 : TypeId} {fuel : Nat} {v : Value} {x : DataW H × List MemPlace} (ht : P.underlying t = some (.slice e)) (hc : P.cellsOf e = 1) (he : P.underlying e = some (.slice e2)) (hc2 : P.cellsOf e2 = 1) (he2 : P.underlying e2 = some .string) (h : DataW.trod enc P w base spare held fuel t [v] = some x) :
    ∃ zss : List (List ByteArray), Sl2 Value.string w w.heap.size v zss ∧ zss.length ≤ maxLen ∧ ∀ (i : Nat) zs, zss[i]? = some zs → zs.length ≤ maxLen :=
  sl2_open ht hc (fun n u y hy => by obtain ⟨zs, h1, h2, _⟩ := sl_strings he hc2 he2 hy; exact ⟨zs, h1, h2⟩) h

theorem sl2_ints {t e e2 : TypeId} {k : IntKind} {fuel : Nat} {v : Value} {x : DataW H × List MemPlace} (ht : P.underlying t = some (.slice e)) (hc : P.cellsOf e = 1) (he : P.underlying e = some (.slice e2)) (hc2 : P.cellsOf e2 = 1) (he2 : P.underlying e2 = some (.int k)) (h : DataW.trod enc P w base spare held fuel t [v] = some x) :
    ∃ zss : List (List Int), Sl2 (Value.int k) w w.heap.size v zss ∧ zss.length ≤ maxLen ∧ ∀ (i : Nat) zs, zss[i]? = some zs → zs.length ≤ maxLen :=
  sl2_open ht hc (fun n u y hy => by obtain ⟨zs, h1, h2, _⟩ := sl_ints he hc2 he2 hy; exact ⟨zs, h1, h2⟩) h

end
end Go.Proofs.Qxb6601388a
