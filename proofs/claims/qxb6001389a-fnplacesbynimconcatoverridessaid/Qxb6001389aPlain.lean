import Derived.Test.Qxb6001389aMaps
namespace Go.Proofs.Qxb6001389a
set_option linter.unusedVariables false

/-- The map that the pairs leave, stored one behind the other. -/
def fwd (l : List (ByteArray × Int)) : ByteArray → Option Int := l.foldl (fun M p => upd M p.1 p.2) (fun _ => none)

theorem fwd_nil : fwd [] = fun _ => none := rfl

theorem fwd_snoc (l : List (ByteArray × Int)) (s : ByteArray) (v : Int) : fwd (l ++ [(s, v)]) = upd (fwd l) s v := by simp [fwd]

theorem fold_over (l : List (ByteArray × Int)) : ∀ (M : ByteArray → Option Int) (s : ByteArray), (l.foldl (fun M p => upd M p.1 p.2) M) s = match fwd l s with | some v => some v | none => M s := by
  induction l with
  | nil => intro M s; rfl
  | cons x r ih =>
    intro M s
    have e : fwd (x :: r) = r.foldl (fun M p => upd M p.1 p.2) (upd (fun _ => none) x.1 x.2) := rfl
    rw [e, List.foldl_cons, ih, ih]
    cases h : fwd r s with
    | some v => rfl
    | none => simp only [upd]; split <;> rfl

theorem fwd_append (l r : List (ByteArray × Int)) (s : ByteArray) : fwd (l ++ r) s = match fwd r s with | some v => some v | none => fwd l s := by
  have e : fwd (l ++ r) = r.foldl (fun M p => upd M p.1 p.2) (fwd l) := by simp [fwd]
  rw [e, fold_over]

theorem fwd_cons (s : ByteArray) (v : Int) (r : List (ByteArray × Int)) (t : ByteArray) : fwd ((s, v) :: r) t = match fwd r t with | some x => some x | none => if t = s then some v else none := by
  have := fwd_append [(s, v)] r t
  simp only [List.cons_append, List.nil_append] at this
  rw [this]
  cases fwd r t <;> rfl

theorem fwd_mem {l : List (ByteArray × Int)} {s : ByteArray} {v : Int} (h : fwd l s = some v) : (s, v) ∈ l := by
  induction l with
  | nil => simp [fwd] at h
  | cons x r ih =>
    obtain ⟨a, b⟩ := x
    rw [fwd_cons] at h
    cases hr : fwd r s with
    | some y => rw [hr] at h; simp at h; subst h; exact List.mem_cons_of_mem _ (ih hr)
    | none =>
      rw [hr] at h
      simp only at h
      split at h
      · rename_i e; subst e; simp at h; subst h; simp
      · simp at h

theorem fwd_some {l : List (ByteArray × Int)} {s : ByteArray} {v : Int} (h : (s, v) ∈ l) : ∃ y, fwd l s = some y := by
  induction l with
  | nil => simp at h
  | cons x r ih =>
    obtain ⟨a, b⟩ := x
    rw [fwd_cons]
    cases hr : fwd r s with
    | some y => exact ⟨y, rfl⟩
    | none =>
      simp only [List.mem_cons, Prod.mk.injEq] at h
      rcases h with ⟨rfl, rfl⟩ | h
      · exact ⟨v, by simp⟩
      · obtain ⟨y, hy⟩ := ih h
        rw [hr] at hy
        simp at hy

/-- Each key is named with one value alone. -/
def OneVal (l : List (ByteArray × Int)) : Prop := ∀ s v v', (s, v) ∈ l → (s, v') ∈ l → v = v'

theorem fwd_one {l : List (ByteArray × Int)} (h : OneVal l) {s : ByteArray} {v : Int} (hm : (s, v) ∈ l) : fwd l s = some v := by
  obtain ⟨y, hy⟩ := fwd_some hm
  rw [hy, h s v y hm (fwd_mem hy)]

theorem fwd_reverse {l : List (ByteArray × Int)} (h : OneVal l) : fwd l.reverse = fwd l := by
  have h' : OneVal l.reverse := fun s v v' a b => h s v v' (by simpa using a) (by simpa using b)
  funext s
  cases hl : fwd l s with
  | some v => exact fwd_one h' (by simpa using fwd_mem hl)
  | none =>
    cases hr : fwd l.reverse s with
    | none => rfl
    | some v =>
      have hm : (s, v) ∈ l := by simpa using fwd_mem hr
      obtain ⟨y, hy⟩ := fwd_some hm
      rw [hl] at hy
      simp at hy

/-- A pair that does not part from the map so far. -/
theorem oneVal_snoc {l : List (ByteArray × Int)} (h : OneVal l) {s : ByteArray} {v : Int} (hs : fwd l s = none ∨ fwd l s = some v) : OneVal (l ++ [(s, v)]) := by
  have key : ∀ x, (s, x) ∈ l → x = v := fun x hx => by
    have := fwd_one h hx
    rcases hs with hs | hs <;> rw [this] at hs <;> simp at hs
    exact hs
  intro t a b ha hb
  simp only [List.mem_append, List.mem_singleton, Prod.mk.injEq] at ha hb
  rcases ha with ha | ⟨rfl, rfl⟩
  · rcases hb with hb | ⟨rfl, rfl⟩
    · exact h t a b ha hb
    · exact key a ha
  · rcases hb with hb | ⟨_, rfl⟩
    · exact (key b hb).symm
    · rfl

/-! ### The pairs that a list of places names -/

def pairs (ns : List ByteArray) (ms : List Nat) : List (ByteArray × Int) := ms.map fun m => (ns.getD m ByteArray.empty, (m : Int))

theorem pairs_len (ns : List ByteArray) (ms : List Nat) : (pairs ns ms).length = ms.length := by simp [pairs]

theorem pairs_get {ns : List ByteArray} {ms : List Nat} {k m : Nat} {s : ByteArray} (hm : ms[k]? = some m) (hs : ns[m]? = some s) : (pairs ns ms)[k]? = some (s, (m : Int)) := by
  simp [pairs, hm, hs]

theorem pairs_mem {ns : List ByteArray} {ms : List Nat} {k m : Nat} {s : ByteArray} (hm : ms[k]? = some m) (hs : ns[m]? = some s) : (s, (m : Int)) ∈ pairs ns ms :=
  List.mem_of_getElem? (pairs_get hm hs)

theorem take_step {α : Type} {l : List α} {k : Nat} {x : α} (h : l[k]? = some x) : l.take (k + 1) = l.take k ++ [x] := by
  rw [List.take_add_one, h]; rfl

theorem drop_step {α : Type} {l : List α} {k : Nat} {x : α} (h : l[k]? = some x) : l.drop k = x :: l.drop (k + 1) := by
  obtain ⟨hk, rfl⟩ := List.getElem?_eq_some_iff.1 h
  exact List.drop_eq_getElem_cons hk

theorem pairs_take (ns : List ByteArray) (ms : List Nat) (k : Nat) : pairs ns (ms.take k) = (pairs ns ms).take k := by simp [pairs, List.map_take]

theorem fwd_take_step {ns : List ByteArray} {ms : List Nat} {k m : Nat} {s : ByteArray} (hm : ms[k]? = some m) (hs : ns[m]? = some s) : fwd ((pairs ns ms).take (k + 1)) = upd (fwd ((pairs ns ms).take k)) s m := by
  rw [take_step (pairs_get hm hs), fwd_snoc]

/-- Backward: a pair in front of what has been read. -/
theorem fwd_drop_step {ns : List ByteArray} {ms : List Nat} {k m : Nat} {s : ByteArray} (hm : ms[k]? = some m) (hs : ns[m]? = some s) :
    fwd ((pairs ns ms).drop k) = if (fwd ((pairs ns ms).drop (k + 1)) s).isSome then fwd ((pairs ns ms).drop (k + 1)) else upd (fwd ((pairs ns ms).drop (k + 1))) s m := by
  rw [drop_step (pairs_get hm hs)]
  funext t
  rw [fwd_cons]
  cases h : fwd ((pairs ns ms).drop (k + 1)) s with
  | some v =>
    simp only [Option.isSome_some, if_true]
    cases ht : fwd ((pairs ns ms).drop (k + 1)) t with
    | some y => rfl
    | none =>
      simp only
      rw [if_neg]
      intro e
      subst e
      rw [h] at ht
      simp at ht
  | none =>
    simp only [Option.isSome_none, Bool.false_eq_true, if_false, upd]
    by_cases e : t = s
    · subst e; simp [h]
    · cases ht : fwd ((pairs ns ms).drop (k + 1)) t <;> simp [e]

end Go.Proofs.Qxb6001389a
