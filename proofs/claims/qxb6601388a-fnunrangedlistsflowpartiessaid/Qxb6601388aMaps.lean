import Derived.Test.Qxb6601388aBase
import Derived.Maps.OwnSet
import Derived.Maps.OwnOps
import Derived.Maps.Views
namespace Go.Proofs.Qxb6601388a
open Go.RowKit Go.Maps
open Go.ChangeMaps Go.MapKept
set_option linter.unusedVariables false

/-! ### Plain: a map as a function of its key, and how many keys it has -/

def upd {α : Type} (M : ByteArray → Option α) (s : ByteArray) (v : α) : ByteArray → Option α := fun t => if t = s then some v else M t

/-- How many keys there are when s has been stored. -/
def cnt {α : Type} (M : ByteArray → Option α) (s : ByteArray) (c : Nat) : Nat := if (M s).isSome then c else c + 1

def Card {α : Type} (M : ByteArray → Option α) (c : Nat) : Prop := ∃ ks : List ByteArray, ks.Nodup ∧ (∀ s, s ∈ ks ↔ (M s).isSome = true) ∧ ks.length = c

theorem nodup_le {β : Type} [DecidableEq β] : ∀ (l1 l2 : List β), l1.Nodup → (∀ x, x ∈ l1 → x ∈ l2) → l1.length ≤ l2.length := by
  intro l1
  induction l1 with
  | nil => intro l2 _ _; simp
  | cons a r ih =>
    intro l2 hn hs
    rw [List.nodup_cons] at hn
    have ha : a ∈ l2 := hs a (by simp)
    have h1 := ih (l2.erase a) hn.2 (fun x hx => by
      have hne : x ≠ a := fun e => hn.1 (e ▸ hx)
      exact (List.mem_erase_of_ne hne).2 (hs x (by simp [hx])))
    rw [List.length_erase_of_mem ha] at h1
    have := List.length_pos_of_mem ha
    simp
    omega

theorem Card.unique {α β : Type} {M : ByteArray → Option α} {N : ByteArray → Option β} {c d : Nat} (h1 : Card M c) (h2 : Card N d) (h : ∀ s, (M s).isSome = (N s).isSome) : c = d := by
  obtain ⟨k1, n1, m1, l1⟩ := h1
  obtain ⟨k2, n2, m2, l2⟩ := h2
  have a1 := nodup_le k1 k2 n1 (fun x hx => (m2 x).2 (by rw [← h]; exact (m1 x).1 hx))
  have a2 := nodup_le k2 k1 n2 (fun x hx => (m1 x).2 (by rw [h]; exact (m2 x).1 hx))
  omega

theorem Card.empty {α : Type} : Card (fun _ => none : ByteArray → Option α) 0 := ⟨[], List.nodup_nil, fun s => by simp, rfl⟩

theorem Card.upd {α : Type} {M : ByteArray → Option α} {c : Nat} (h : Card M c) (s : ByteArray) (v : α) : Card (upd M s v) (if (M s).isSome then c else c + 1) := by
  obtain ⟨ks, hn, hm, hl⟩ := h
  by_cases hs : (M s).isSome = true
  · rw [if_pos hs]
    refine ⟨ks, hn, fun t => ?_, hl⟩
    rw [hm]
    unfold Qxb6601388a.upd
    split
    · rename_i e; subst e; simp [hs]
    · rfl
  · rw [if_neg hs]
    refine ⟨s :: ks, List.nodup_cons.2 ⟨fun h => hs ((hm s).1 h), hn⟩, fun t => ?_, by simp [hl]⟩
    unfold Qxb6601388a.upd
    by_cases e : t = s
    · simp [e]
    · simp [e, hm]

/-! ### Elements -/

structure Elem (P : Program) (e : TypeId) (α : Type) where
  f : α → Value
  g : α → Lit
  z : α
  ok : α → Prop
  h1 : ∀ x, ok x → plainElem (H := Unit) P e (f x) = some (.lit (g x), [])
  h2 : ∀ v x ps, plainElem (H := Unit) P e v = some (.lit (g x), ps) → v = f x
  hz : ok z
  h0 : ∀ w : World, (zeroValue e).run P w = .ok (f z) w

def klit (s : ByteArray) : Lit := .string s.data.toList

theorem keyk {P : Program} {k : TypeId} (ht : P.underlying k = some .string) {s : ByteArray} (hs : s.size ≤ maxLen) : keyOf P k (.string s) = some (klit s) := by
  open Go.WideMaps Go.WideElems Go.ChangeMaps in exact keyOf_string_mk ht hs

theorem klit_ne {s t : ByteArray} (h : t ≠ s) : klit t ≠ klit s := by
  intro e
  apply h
  simp only [klit, Lit.string.injEq] at e
  have := Array.toList_inj.1 e
  cases s; cases t; simp_all

section
variable {P : Program} {e k : TypeId} {α : Type} (E : Elem P e α)

/-- Block b of w is a map that reads as the function M, of c keys; n bounds what a store may find. -/
def MapIs (k : TypeId) (w : World) (b n : Nat) (M : ByteArray → Option α) (c : Nat) : Prop :=
  ∃ D : DataW Unit, w.ownsMap P k (plainElem P e) b n D ∧ (∀ s, Maps.has D (klit s) = (M s).isSome) ∧ (∀ s v, M s = some v → D.atKey (klit s) (.lit (E.g E.z)) = .lit (E.g v) ∧ E.ok v) ∧ Maps.size D = c ∧ Card M c

variable {E} {w : World} {b n c : Nat} {M : ByteArray → Option α}

theorem MapIs.lt (h : MapIs E k w b n M c) : b < w.heap.size := by
  obtain ⟨D, ho, _⟩ := h
  exact ho.lt

theorem MapIs.card (h : MapIs E k w b n M c) : Card M c := by
  obtain ⟨D, _, _, _, _, hc⟩ := h
  exact hc

theorem MapIs.same {w' : World} (h : MapIs E k w b n M c) (hb : w'.heap[b]? = w.heap[b]?) : MapIs E k w' b n M c := by
  obtain ⟨D, ⟨es, clock, h1, h2⟩, r⟩ := h
  exact ⟨D, ⟨es, clock, hb.trans h1, h2⟩, r⟩

theorem MapIs.below {w' : World} {B : Nat} (h : MapIs E k w b n M c) (hb : Below B w w') (hB : b < B) : MapIs E k w' b n M c := h.same (hb.block b hB)

theorem MapIs.grown {w' : World} {r : Option Nat} (h : MapIs E k w b n M c) (hg : w.grownBy w' r) (hne : some b ≠ r) : MapIs E k w' b n M c := h.same (hg.block b h.lt hne)

theorem MapIs.alloc (h : MapIs E k w b n M c) (o : Obj) : MapIs E k (w.alloc o) b n M c := h.same (Deep.blk_alloc_lt _ _ _ h.lt)

theorem MapIs.more (h : MapIs E k w b n M c) : MapIs E k w b (n + 1) M c := by
  obtain ⟨D, ho, r⟩ := h
  exact ⟨D, ho.mono (Nat.le_succ n), r⟩

theorem MapIs.congr {N : ByteArray → Option α} (h : MapIs E k w b n M c) (e : M = N) : MapIs E k w b n N c := e ▸ h

theorem MapIs.made (w : World) : MapIs E k (w.alloc (.map #[] 0)) w.heap.size 0 (fun _ => none) 0 :=
  ⟨.map [], World.ownsMap_made w P k _, fun s => rfl, fun s v h => by simp at h, rfl, Card.empty⟩

theorem MapIs.put (h : MapIs E k w b n M c) (K : Keyed P k) (ht : P.underlying k = some .string) {t : TypeId} (htm : P.underlying t = some (.map k e)) (hn : n < maxLen) {s : ByteArray} (hs : s.size ≤ maxLen) (v : α) (hv : E.ok v) :
    ∃ w', (Instr.mapUpdate t (.map (some b)) (.string s) (E.f v)).run P w = .ok () w' ∧ MapIs E k w' b (n + 1) (upd M s v) (if (M s).isSome then c else c + 1) ∧ w.grownBy w' (some b) := by
  obtain ⟨D, ho, hh, ha, hc, hcard⟩ := h
  obtain ⟨w', hrun, ho', hg⟩ := ho.update K htm hn (keyk ht hs) (E.h1 v hv)
  have hm := ho.isMap
  have hk : WideAt.IsKeyLit (klit s) := trivial
  refine ⟨w', hrun, ⟨_, ho', fun u => ?_, fun u x hu => ?_, ?_, hcard.upd s v⟩, hg⟩
  · by_cases e : u = s
    · subst e
      rw [has_put_same hm hk]
      simp [upd]
    · rw [has_put_other (klit_ne e), hh]
      simp [upd, e]
  · by_cases e : u = s
    · subst e
      rw [atKey_put_same hm hk]
      simp only [upd, if_true, Option.some.injEq] at hu
      subst hu
      exact ⟨rfl, hv⟩
    · rw [atKey_put_other (klit_ne e)]
      simp only [upd, if_neg e] at hu
      exact ha u x hu
  · rw [size_put (ho.tidy K), hh, hc]

theorem MapIs.look (h : MapIs E k w b n M c) (K : Keyed P k) (ht : P.underlying k = some .string) {t : TypeId} (htm : P.underlying t = some (.map k e)) {s : ByteArray} (hs : s.size ≤ maxLen) :
    (Instr.lookup t (.map (some b)) (.string s) true).run P w = .ok (.tuple #[E.f ((M s).getD E.z), .bool (M s).isSome]) w ∧ (Instr.lookup t (.map (some b)) (.string s) false).run P w = .ok (E.f ((M s).getD E.z)) w := by
  obtain ⟨D, ho, hh, ha, hc, hcard⟩ := h
  have key : D.atKey (klit s) (.lit (E.g E.z)) = .lit (E.g ((M s).getD E.z)) := by
    cases hm : M s with
    | none =>
      rw [atKey_of_not_has (by rw [hh, hm]; rfl)]
      rfl
    | some v => exact (ha s v hm).1
  constructor
  · obtain ⟨v, ps, hrun, hv⟩ := ho.look_ok K htm (E.h0 w) (E.h1 E.z E.hz) (keyk ht hs)
    rw [hrun, hh]
    rw [key] at hv
    rw [E.h2 v _ ps hv]
  · obtain ⟨v, ps, hrun, hv⟩ := ho.lookup K htm (E.h0 w) (E.h1 E.z E.hz) (keyk ht hs)
    rw [hrun]
    rw [key] at hv
    rw [E.h2 v _ ps hv]

theorem MapIs.len (h : MapIs E k w b n M c) {t : TypeId} (htm : P.underlying t = some (.map k e)) (ty : TypeId) : (Builtin.len_ #[t] ty #[.map (some b)]).run P w = .ok (.int .i64 c) w := by
  obtain ⟨D, ho, hh, ha, hc, hcard⟩ := h
  rw [ho.len htm ty, hc]

theorem MapIs.card_le (h : MapIs E k w b n M c) : c ≤ n := by
  obtain ⟨D, ho, hh, ha, hc, hcard⟩ := h
  rw [← hc]; exact ho.size_le

end

theorem run_makeMap_some {P : Program} {t k e : TypeId} (ht : P.underlying t = some (.map k e)) (n : Int) (w : World) : (Instr.makeMap t (some (.int .i64 n))).run P w = .ok (.map (some w.heap.size)) (w.alloc (.map #[] 0)) := by
  simp [Instr.makeMap, run_underlying ht, asInt, asIntOf, newObj]
  rfl

/-! ### At the operation -/
section
variable {P : Program} {e k : TypeId} {α : Type} {E : Elem P e α} (w : World) {ops : Array Oper} {rest : List Oper} {o : Oper} {a : Act} {Q : Exit → Act → World → Prop}

theorem wpList_map_put (hg : o.guard = none) (m x v : Operand) (t : TypeId) (hop : o.op = Op.mapUpdate t m x v) {b n c : Nat} {M : ByteArray → Option α} (h : MapIs E k w b n M c) (K : Keyed P k) (ht : P.underlying k = some .string) (htm : P.underlying t = some (.map k e)) (hn : n < maxLen)
    (s : ByteArray) (hs : s.size ≤ maxLen) (u : α) (hu : E.ok u) (em : a.eval m = .map (some b)) (ex : a.eval x = .string s) (ev : a.eval v = E.f u)
    (hK : ∀ w' c', MapIs E k w' b (n + 1) (upd M s u) c' → Hid (c' = cnt M s c) → w.grownBy w' (some b) → wpList P ops Q rest (a.put o.dst undef) w') :
    wpList P ops Q (o :: rest) a w := by
  refine wpList_plain hg fun K' hK' => ?_
  obtain ⟨w', hrun, r1, r2⟩ := h.put K ht htm hn hs u hu
  unfold Oper.wp
  simp [execOp, hop, em, ex, ev, hrun, Result.andThen]
  exact hK' _ _ (hK w' _ r1 rfl r2)

theorem wpList_map_look_ok (hg : o.guard = none) (m x : Operand) (t : TypeId) (hop : o.op = Op.lookup t m x true) {b n c : Nat} {M : ByteArray → Option α} (h : MapIs E k w b n M c) (K : Keyed P k) (ht : P.underlying k = some .string) (htm : P.underlying t = some (.map k e))
    (s : ByteArray) (hs : s.size ≤ maxLen) (em : a.eval m = .map (some b)) (ex : a.eval x = .string s) (y : Option α) (hy : M s = y) (u : Value) (hu : E.f (y.getD E.z) = u)
    (hK : wpList P ops Q rest (a.put o.dst (.tuple #[u, .bool y.isSome])) w) :
    wpList P ops Q (o :: rest) a w := by
  refine wpList_plain hg fun K' hK' => ?_
  have hrun := (h.look K ht htm hs).1
  rw [hy, hu] at hrun
  unfold Oper.wp
  simp [execOp, hop, em, ex, hrun, Result.andThen]
  exact hK' _ _ hK

theorem wpList_map_look (hg : o.guard = none) (m x : Operand) (t : TypeId) (hop : o.op = Op.lookup t m x false) {b n c : Nat} {M : ByteArray → Option α} (h : MapIs E k w b n M c) (K : Keyed P k) (ht : P.underlying k = some .string) (htm : P.underlying t = some (.map k e))
    (s : ByteArray) (hs : s.size ≤ maxLen) (em : a.eval m = .map (some b)) (ex : a.eval x = .string s) (y : Option α) (hy : M s = y) (u : Value) (hu : E.f (y.getD E.z) = u)
    (hK : wpList P ops Q rest (a.put o.dst u) w) :
    wpList P ops Q (o :: rest) a w := by
  refine wpList_plain hg fun K' hK' => ?_
  have hrun := (h.look K ht htm hs).2
  rw [hy, hu] at hrun
  unfold Oper.wp
  simp [execOp, hop, em, ex, hrun, Result.andThen]
  exact hK' _ _ hK

theorem wpList_map_len (hg : o.guard = none) (m : Operand) (t : TypeId) (hop : o.op = Op.call { callee := Callee.builtin Builtin.len, args := #[m], argTypes := #[t] }) {b n c : Nat} {M : ByteArray → Option α} (h : MapIs E k w b n M c) (htm : P.underlying t = some (.map k e))
    (em : a.eval m = .map (some b)) (hK : wpList P ops Q rest (a.put o.dst (.int .i64 (c : Int))) w) :
    wpList P ops Q (o :: rest) a w := by
  refine wpList_plain hg fun K' hK' => ?_
  unfold Oper.wp
  simp [execOp, hop, resolve, invoke, builtin, em, h.len htm o.type, Result.andThen]
  exact hK' _ _ hK

end
end Go.Proofs.Qxb6601388a
