import Derived.WalkKit
import Derived.ProofKit
import Derived.WalkSpells
import Derived.WalkLawsBesides
import Derived.ShutString
import Derived.ChangeOld
import Derived.Below
import Derived.Deep.OwnRows
import Derived.Deep.QuietTactic
import Derived.BigQuiet
namespace Go.Proofs.Qxb6601388a
open Go.RowKit

/-- The slice value v reads, in w and below block B, as the list zs, one cell an element. -/
def Sl {α : Type} (f : α → Value) (w : World) (B : Nat) (v : Value) (zs : List α) : Prop :=
  (zs = [] ∧ v = .slice none 0 0) ∨
  ∃ b o s c, v = .slice (some ⟨b, o, s⟩) zs.length c ∧ (0 < zs.length → s = none ∧ b < B) ∧ ∀ i z, zs[i]? = some z → w.cell? ⟨b, o + i, none⟩ = some (f z)

theorem lt_of_some {α : Type} {zs : List α} {i : Nat} {z : α} (h : zs[i]? = some z) : i < zs.length := (List.getElem?_eq_some_iff.1 h).1

theorem Sl.form {α : Type} {f : α → Value} {w : World} {B : Nat} {v : Value} {zs : List α} (h : Sl f w B v zs) : ∃ a c, v = .slice a zs.length c := by
  rcases h with ⟨rfl, rfl⟩ | ⟨b, o, s, c, hv, _⟩
  · exact ⟨none, 0, rfl⟩
  · exact ⟨_, c, hv⟩

/-- The element's cell, asked for where there is one. -/
theorem Sl.place {α : Type} {f : α → Value} {w : World} {B : Nat} {a : Option Addr} {n c : Nat} {zs : List α} (h : Sl f w B (.slice a n c) zs) {i : Nat} {z : α} (hz : zs[i]? = some z) :
    ∃ b o, a = some ⟨b, o, none⟩ ∧ b < B ∧ ∀ j y, zs[j]? = some y → w.cell? ⟨b, o + j, none⟩ = some (f y) := by
  rcases h with ⟨rfl, _⟩ | ⟨b, o, s, c', hv, hlt, hc⟩
  · simp at hz
  · simp only [Value.slice.injEq] at hv
    obtain ⟨rfl, _, _⟩ := hv
    obtain ⟨rfl, hb⟩ := hlt (by have := lt_of_some hz; omega)
    exact ⟨b, o, rfl, hb, hc⟩

theorem Sl.below {α : Type} {f : α → Value} {w w' : World} {B : Nat} {v : Value} {zs : List α} (h : Sl f w B v zs) (hb : Below B w w') : Sl f w' B v zs := by
  rcases h with h | ⟨b, o, s, c, hv, hlt, hc⟩
  · exact .inl h
  · exact .inr ⟨b, o, s, c, hv, hlt, fun i z hz => by rw [hb.cell (p := ⟨b, o + i, none⟩) (hlt (by have := lt_of_some hz; omega)).2]; exact hc i z hz⟩

theorem Sl.mono {α : Type} {f : α → Value} {w : World} {B B' : Nat} {v : Value} {zs : List α} (h : Sl f w B v zs) (hb : B ≤ B') : Sl f w B' v zs := by
  rcases h with h | ⟨b, o, s, c, hv, hlt, hc⟩
  · exact .inl h
  · exact .inr ⟨b, o, s, c, hv, fun hp => ⟨(hlt hp).1, by have := (hlt hp).2; omega⟩, hc⟩

theorem range_get {α : Type} {n i : Nat} {T : Nat → α} {t : α} (h : ((List.range n).map T)[i]? = some t) : i < n ∧ T i = t := by
  have hi : i < n := by have := lt_of_some h; simpa using this
  refine ⟨hi, ?_⟩
  rw [List.getElem?_map, List.getElem?_range hi] at h
  simpa using h

/-- A slice value by its three words. -/
def sl3 (t : Option Addr × Nat × Nat) : Value := .slice t.1 t.2.1 t.2.2

/-- A slice of slices. -/
def Sl2 {α : Type} (f : α → Value) (w : World) (B : Nat) (v : Value) (zss : List (List α)) : Prop :=
  ∃ ts : List (Option Addr × Nat × Nat), ts.length = zss.length ∧ Sl sl3 w B v ts ∧ ∀ (i : Nat) t zs, ts[i]? = some t → zss[i]? = some zs → Sl f w B (sl3 t) zs

theorem Sl2.below {α : Type} {f : α → Value} {w w' : World} {B : Nat} {v : Value} {zss : List (List α)} (h : Sl2 f w B v zss) (hb : Below B w w') : Sl2 f w' B v zss := by
  obtain ⟨ts, hl, h1, h2⟩ := h
  exact ⟨ts, hl, h1.below hb, fun i t zs ht hz => (h2 i t zs ht hz).below hb⟩

theorem Sl2.mono {α : Type} {f : α → Value} {w : World} {B B' : Nat} {v : Value} {zss : List (List α)} (h : Sl2 f w B v zss) (hb : B ≤ B') : Sl2 f w B' v zss := by
  obtain ⟨ts, hl, h1, h2⟩ := h
  exact ⟨ts, hl, h1.mono hb, fun i t zs ht hz => (h2 i t zs ht hz).mono hb⟩

theorem Sl2.form {α : Type} {f : α → Value} {w : World} {B : Nat} {v : Value} {zss : List (List α)} (h : Sl2 f w B v zss) : ∃ a c, v = .slice a zss.length c := by
  obtain ⟨ts, hl, h1, _⟩ := h
  obtain ⟨a, c, rfl⟩ := h1.form
  exact ⟨a, c, by rw [hl]⟩

/-- The inner slice's cell, and what it reads as. -/
theorem Sl2.place {α : Type} {f : α → Value} {w : World} {B : Nat} {a : Option Addr} {n c : Nat} {zss : List (List α)} (h : Sl2 f w B (.slice a n c) zss) {i : Nat} {zs : List α} (hz : zss[i]? = some zs) :
    ∃ b o, a = some ⟨b, o, none⟩ ∧ b < B ∧ ∀ j ys, zss[j]? = some ys → ∃ a' c', w.cell? ⟨b, o + j, none⟩ = some (.slice a' ys.length c') ∧ Sl f w B (.slice a' ys.length c') ys := by
  obtain ⟨ts, hl, h1, h2⟩ := h
  have hi := lt_of_some hz
  obtain ⟨b, o, ha, hb, hc⟩ := h1.place (i := i) (z := ts[i]) (by simp [hl, hi])
  refine ⟨b, o, ha, hb, fun j ys hy => ?_⟩
  have hj := lt_of_some hy
  have hs := h2 j ts[j] ys (by simp [hl, hj]) hy
  obtain ⟨a', c', he⟩ := hs.form
  have hcell := hc j ts[j] (by simp [hl, hj])
  rw [he] at hcell hs
  exact ⟨a', c', hcell, hs⟩

/-- A row that the call owns reads as its list. -/
theorem Sl.of_own {α : Type} {f : α → Value} {w : World} {base : Nat} {e : TypeId} {v : Value} {zs : List α} (h : w.ownsRow base e 1 v zs.length (zs.map f)) : Sl f w w.heap.size v zs := by
  have h1 := h.lt
  have h2 := fun g hg => h.cells (g := g) hg
  rcases h.2 with ⟨rfl, h0⟩ | ⟨g, cap, cur, rfl, hg, hh, _⟩
  · exact .inl ⟨List.eq_nil_of_length_eq_zero h0, rfl⟩
  · refine .inr ⟨g, 0, none, cap, rfl, fun _ => ⟨rfl, (h1 g rfl).2⟩, fun i z hz => ?_⟩
    have := h2 g rfl i (f z) (by simp [hz])
    rw [Addr.add_lit] at this
    exact this

theorem Sl.setCell {α : Type} {f : α → Value} {w : World} {B : Nat} {v : Value} {zs : List α} (h : Sl f w B v zs) (p : Addr) (u : Value) (hp : ∀ q, v.ownBlock = some q → q ≠ p.block) : Sl f (w.setCell p u) B v zs := by
  rcases h with h | ⟨b, o, s, c, rfl, hlt, hc⟩
  · exact .inl h
  · exact .inr ⟨b, o, s, c, rfl, hlt, fun i z hz => by rw [World.cell?_of_block (w := w) (a := ⟨b, o + i, none⟩) (Below.heap_setCell w p u b (hp b rfl))]; exact hc i z hz⟩

/-- A made row, filled as far as k, is owned when it is full. -/
theorem own_of_rowIs {α : Type} {f : α → Value} {w : World} {g : Nat} {e : TypeId} {base : Nat} {zs : List α} {F : Nat → Value} (h : w.rowIs g e zs.length F) (hF : ∀ i z, zs[i]? = some z → F i = f z) (hb : base ≤ g) (hm : zs.length ≤ maxLen) :
    w.ownsRow base e 1 (.slice (some ⟨g, 0, none⟩) zs.length zs.length) zs.length (zs.map f) := by
  obtain ⟨c, hh, hs, hc⟩ := h
  refine ⟨by simp, .inr ⟨g, zs.length, c, rfl, hb, hh, Nat.le_refl _, hm, by omega, ?_⟩⟩
  apply List.ext_getElem?
  intro i
  by_cases hi : i < zs.length
  · have := hc i hi
    rw [hF i zs[i] (by simp [hi])] at this
    simp only [Array.getElem?_eq_some_iff] at this
    obtain ⟨h1, h2⟩ := this
    simp [hi, h1, h2]
  · have : c.size ≤ i := by omega
    simp [List.getElem?_take, hi]

/-- What a run that starts at one owned row leaves. -/
theorem grownBy_trans {a b c : World} {r r' : Option Nat} (h : a.grownBy b r) (k : b.grownBy c r') (hr : r' = r ∨ ∀ q, r' = some q → a.heap.size ≤ q) : a.grownBy c r := by
  refine ⟨k.os.trans h.os, k.tape.trans h.tape, k.output.trans h.output, Nat.le_trans h.size k.size, fun i hi hne => ?_⟩
  refine (k.block i (by have := h.size; omega) ?_).trans (h.block i hi hne)
  rcases hr with rfl | hr
  · exact hne
  · intro e; have := hr i e.symm; omega

theorem Sl.grown {α : Type} {f : α → Value} {w w' : World} {B : Nat} {v : Value} {zs : List α} {r : Option Nat} (h : Sl f w B v zs) (hg : w.grownBy w' r) (hB : B ≤ w.heap.size) (hr : ∀ k, v.ownBlock = some k → some k ≠ r) : Sl f w' B v zs := by
  rcases h with h | ⟨b, o, s, c, hv, hlt, hc⟩
  · exact .inl h
  · subst hv
    exact .inr ⟨b, o, s, c, rfl, hlt, fun i z hz => by rw [World.cell?_of_block (a := ⟨b, o + i, none⟩) (hg.block b (by have := (hlt (by have := lt_of_some hz; omega)).2; omega) (hr b rfl))]; exact hc i z hz⟩

theorem own_below {w w' : World} {base : Nat} {e : TypeId} {size : Nat} {v : Value} {n : Nat} {xs : List Value} (h : w.ownsRow base e size v n xs) (hb : Below w.heap.size w w') : w'.ownsRow base e size v n xs := by
  have hl := h.lt
  refine ⟨h.1, ?_⟩
  rcases h.2 with h0 | ⟨g, cap, cur, hv, hbg, hg, r⟩
  · exact .inl h0
  · exact .inr ⟨g, cap, cur, hv, hbg, by rw [hb.block g (hl g (by rw [hv]; rfl)).2]; exact hg, r⟩

/-- append to an owned row, at least one element: as the kit's law, and where the new row lies besides. -/
theorem run_append_own2 {P : Program} (w : World) (base : Nat) (t ty e : TypeId) (i : TypeInfo) (z : Value) (size bytes : Nat) (ht : P.underlying t = some (.slice e)) (hi : P.info? e = some i) (hz : i.zero = some z)
    (hsize : i.size = size) (hby : i.bytes = bytes) (hzs : z.cells.size = size) (hsz : 0 < size)
    (v : Value) (n : Nat) (xs : List Value) (hown : w.ownsRow base e size v n xs)
    (a : Addr) (m c : Nat) (news : List Value) (hm : 0 < m) (hl : news.length = m * size) (hnews : ∀ j u, news[j]? = some u → w.cell? (a.add j) = some u) (h1 : ∀ u ∈ news, u.oneCell' = true)
    (h63 : n + m ≤ maxLen) (hbytes : (n + m) * bytes ≤ 140737488355328) (hbase : base ≤ w.heap.size) :
    ∃ v' w', (Builtin.append_ #[t, t] ty #[v, .slice (some a) m c]).run P w = .ok v' w' ∧ w'.ownsRow base e size v' (n + m) (xs ++ news) ∧ w.grownBy w' v.ownBlock ∧
      (v'.ownBlock = v.ownBlock ∨ v'.ownBlock = some w.heap.size) := by
  obtain ⟨v', w', hr, h2, h3, _⟩ := run_append_own (P := P) w base t ty e i z size bytes ht hi hz hsize hby hzs hsz v n xs hown a m c news hl hnews h1 h63 hbytes hbase
  refine ⟨v', w', hr, h2, h3, ?_⟩
  have hsmall : n + m ≤ 9223372036854775807 := by simp only [maxLen] at h63; omega
  subst hsize
  subst hby
  rcases hown.2 with ⟨rfl, rfl⟩ | ⟨g, cap, cur, rfl, hbg, hg, hnc, hcm, hcs, htake⟩
  · have hq := run_append_nil (P := P) w t ty e i z ht hi hz a m c news hl hnews (by omega) (by omega) (by have hb := hbytes; simp only [Nat.zero_add] at hb; omega)
    rw [hq] at hr
    injection hr with e1 _
    exact .inr (by rw [← e1]; rfl)
  · by_cases hroom : n + m ≤ cap
    · have hfit : n * i.size + news.length ≤ cur.size := by rw [hl, hcs, ← Nat.add_mul]; exact Nat.mul_le_mul_right _ hroom
      have hq := run_append_room (P := P) w t ty e i ht hi g n cap cur hg a m c news hl hnews h1 hroom hfit
      rw [hq] at hr
      injection hr with e1 _
      exact .inl (by rw [← e1]; rfl)
    · have holds : ∀ j u, xs[j]? = some u → w.cell? ((⟨g, 0, none⟩ : Addr).add j) = some u := hown.cells (g := g) rfl
      have hq := run_append_grow (P := P) w t ty e i z ht hi hz ⟨g, 0, none⟩ n cap xs hown.1 holds a m c news hl hnews (by omega) (by omega) (growslice_fits (by omega) hbytes)
      rw [hq] at hr
      injection hr with e1 _
      exact .inr (by rw [← e1]; rfl)

theorem wpList_append_own2 {P : Program} (w : World) {ops : Array Oper} {rest : List Oper} {o : Oper} {a : Act} {Q : Exit → Act → World → Prop} (hgd : o.guard = none) (s x : Operand) (t : TypeId)
    (ho : o.op = .call { callee := .builtin .append, args := #[s, x], argTypes := #[t, t] })
    (base : Nat) (e : TypeId) (i : TypeInfo) (z : Value) (size bytes : Nat) (ht : P.underlying t = some (.slice e)) (hi : P.info? e = some i) (hz : i.zero = some z)
    (hsize : i.size = size) (hby : i.bytes = bytes) (hzs : z.cells.size = size) (hsz : 0 < size)
    (v : Value) (n : Nat) (xs : List Value) (hs : a.eval s = v) (hown : w.ownsRow base e size v n xs)
    (ad : Addr) (m c : Nat) (news : List Value) (hm : 0 < m) (hx : a.eval x = .slice (some ad) m c) (hl : news.length = m * size) (hnews : ∀ j u, news[j]? = some u → w.cell? (ad.add j) = some u) (h1 : ∀ u ∈ news, u.oneCell' = true)
    (h63 : n + m ≤ maxLen) (hbytes : (n + m) * bytes ≤ 140737488355328) (hbase : base ≤ w.heap.size)
    (h : ∀ v' w', w'.ownsRow base e size v' (n + m) (xs ++ news) → w.grownBy w' v.ownBlock → (v'.ownBlock = v.ownBlock ∨ v'.ownBlock = some w.heap.size) → wpList P ops Q rest (a.put o.dst v') w') : wpList P ops Q (o :: rest) a w := by
  refine wpList_plain hgd fun K hK => ?_
  obtain ⟨v', w', hr, h2, h3, h4⟩ := run_append_own2 (P := P) w base t o.type e i z size bytes ht hi hz hsize hby hzs hsz v n xs hown ad m c news hm hl hnews h1 h63 hbytes hbase
  unfold Oper.wp
  simp [execOp, ho, resolve, invoke, builtin, hs, hx, hr, Result.andThen]
  exact hK _ _ (h v' w' h2 h3 h4)

end Go.Proofs.Qxb6601388a
