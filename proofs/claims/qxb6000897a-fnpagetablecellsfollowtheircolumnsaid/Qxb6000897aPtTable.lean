import Derived.Test.Qxb6000897aPtCols
namespace Go.Proofs.Qxb6000897a
open Go.RowKit
set_option linter.unusedVariables false

theorem Try.info49 : (Try.prog.info? 49).map (fun i => (i.zero, i.size, i.bytes)) = some (some (.agg #[.string ByteArray.empty, .bool false]), 2, 24) := by kernel_rfl
theorem Try.info39 : (Try.prog.info? 39).map (fun i => (i.zero, i.size, i.bytes)) = some (some (.slice none 0 0), 1, 24) := by kernel_rfl

/-- The table's three cells. -/
def tab (cap : ByteArray) (hv rv : Value) : Nat → Value := fun i => if i = 0 then .string cap else if i = 1 then hv else rv

theorem tab_set1 {w : World} {b : Nat} {cap : ByteArray} {hv rv hv' : Value} (h : w.rowIs b 42 3 (tab cap hv rv)) : (w.setCell ⟨b, 1, none⟩ hv').rowIs b 42 3 (tab cap hv' rv) :=
  (h.set 1 hv').congr (fun i hi => by match i, hi with | 0, _ => rfl | 1, _ => rfl | 2, _ => rfl)

theorem tab_set2 {w : World} {b : Nat} {cap : ByteArray} {hv rv rv' : Value} (h : w.rowIs b 42 3 (tab cap hv rv)) : (w.setCell ⟨b, 2, none⟩ rv').rowIs b 42 3 (tab cap hv rv') :=
  (h.set 2 rv').congr (fun i hi => by match i, hi with | 0, _ => rfl | 1, _ => rfl | 2, _ => rfl)

theorem tab_new (w : World) (cap : ByteArray) (hv rv : Value) : (w.alloc (.cells #[.string cap, hv, rv] 42)).rowIs w.heap.size 42 3 (tab cap hv rv) :=
  (World.rowIs_alloc w #[.string cap, hv, rv] 42 (tab cap hv rv) (fun i hi => by match i, hi with | 0, _ => rfl | 1, _ => rfl | 2, _ => rfl))

/-- A page's cells, flat. -/
def flat (l : List (ByteArray × Bool)) : List Value := l.flatMap fun z => [.string z.1, .bool z.2]

/-- The first k cells of a line: its texts, the columns' flags. -/
def line (ss : List ByteArray) (bs : List Bool) (k : Nat) : List (ByteArray × Bool) := (List.range k).map fun j => (ss.getD j ByteArray.empty, bs.getD j false)

theorem line_succ (ss : List ByteArray) (bs : List Bool) (k : Nat) : line ss bs (k + 1) = line ss bs k ++ [(ss.getD k ByteArray.empty, bs.getD k false)] := by simp [line, List.range_succ]

theorem flat_snoc (l : List (ByteArray × Bool)) (s : ByteArray) (b : Bool) : flat (l ++ [(s, b)]) = flat l ++ [.string s, .bool b] := by simp [flat]

theorem own_form {w : World} {base : Nat} {e : TypeId} {size : Nat} {v : Value} {n : Nat} {xs : List Value} (h : w.ownsRow base e size v n xs) : ∃ ao cp, v = .slice ao n cp := by
  rcases h.2 with ⟨rfl, rfl⟩ | ⟨g, cap, cur, rfl, _⟩
  · exact ⟨none, 0, rfl⟩
  · exact ⟨_, _, rfl⟩

theorem rowIs_grown {w w' : World} {b : Nat} {t : TypeId} {n : Nat} {F : Nat → Value} {r : Option Nat} (h : w.rowIs b t n F) (hg : w.grownBy w' r) (hne : some b ≠ r) : w'.rowIs b t n F := h.of_block (hg.block b h.lt hne)

theorem rowIs_below {w w' : World} {B b : Nat} {t : TypeId} {n : Nat} {F : Nat → Value} (h : w.rowIs b t n F) (hb : Below B w w') (hB : b < B) : w'.rowIs b t n F := h.of_block (hb.block b hB)

theorem own_setOther {w : World} {base : Nat} {e : TypeId} {size : Nat} {v : Value} {n : Nat} {xs : List Value} (h : w.ownsRow base e size v n xs) {a : Addr} (ha : ∀ q, v.ownBlock = some q → q ≠ a.block) (u : Value) : (w.setCell a u).ownsRow base e size v n xs := by
  refine ⟨h.1, ?_⟩
  rcases h.2 with h0 | ⟨g, cap, cur, hv, hbg, hg, r⟩
  · exact .inl h0
  · exact .inr ⟨g, cap, cur, hv, hbg, by rw [Below.heap_setCell _ _ _ _ (ha g (by rw [hv]; rfl))]; exact hg, r⟩

theorem own_ne {w : World} {b1 b2 : Nat} {e1 e2 : TypeId} {s1 s2 : Nat} {v1 v2 : Value} {n1 n2 : Nat} {x1 x2 : List Value} (h1 : w.ownsRow b1 e1 s1 v1 n1 x1) (h2 : w.ownsRow b2 e2 s2 v2 n2 x2) (he : e1 ≠ e2) : v1.ownBlock = none ∨ v1.ownBlock ≠ v2.ownBlock := by
  rcases h1.2 with ⟨rfl, _⟩ | ⟨g, cap, cur, rfl, _, hg, _⟩
  · exact .inl rfl
  · right
    rcases h2.2 with ⟨rfl, _⟩ | ⟨g', cap', cur', rfl, _, hg', _⟩
    · simp [Value.ownBlock]
    · simp only [Value.ownBlock, ne_eq, Option.some.injEq]
      intro e
      subst e
      rw [hg] at hg'
      simp at hg'
      exact he hg'.2

theorem row_ne {w : World} {b2 : Nat} {e1 e2 : TypeId} {s2 : Nat} {v2 : Value} {n2 : Nat} {x2 : List Value} {q n : Nat} {F : Nat → Value} (h1 : w.rowIs q e1 n F) (h2 : w.ownsRow b2 e2 s2 v2 n2 x2) (he : e1 ≠ e2) : some q ≠ v2.ownBlock := by
  obtain ⟨c, hg, _⟩ := h1
  rcases h2.2 with ⟨rfl, _⟩ | ⟨g', cap', cur', rfl, _, hg', _⟩
  · simp [Value.ownBlock]
  · simp only [Value.ownBlock, ne_eq, Option.some.injEq]
    intro e
    subst e
    rw [hg] at hg'
    simp at hg'
    exact he hg'.2

/-- A line of the page's table: two cells an element. -/
def PRow (w : World) (v : Value) (ss : List ByteArray) (bs : List Bool) : Prop :=
  ∃ q F, v = .slice (some ⟨q, 0, none⟩) ss.length ss.length ∧ w.rowIs q 49 (ss.length * 2) F ∧ ∀ j, j < ss.length → F (j * 2) = .string (ss.getD j ByteArray.empty) ∧ F (j * 2 + 1) = .bool (bs.getD j false)

theorem PRow.same {w w' : World} {v : Value} {ss : List ByteArray} {bs : List Bool} (h : PRow w v ss bs) (hk : ∀ q n F, w.rowIs q 49 n F → w'.heap[q]? = w.heap[q]?) : PRow w' v ss bs := by
  obtain ⟨q, F, hv, hr, hF⟩ := h
  exact ⟨q, F, hv, hr.of_block (hk q _ F hr), hF⟩

def TableSaid (cap : ByteArray) (ts : List ByteArray) (bs : List Bool) (rss : List (List ByteArray)) (w : World) (e : Ending) (w' : World) : Prop :=
  ∃ (ao : Option Addr) (cp : Nat) (ao2 : Option Addr) (cp2 : Nat) (T : Nat → Option Addr × Nat × Nat), e = .returned (.agg #[.string cap, .slice ao ts.length cp, .slice ao2 rss.length cp2]) ∧
    w'.ownsRow (w.heap.size + 2) 49 2 (.slice ao ts.length cp) ts.length (flat (line ts bs ts.length)) ∧ w'.ownsRow (w.heap.size + 2) 39 1 (.slice ao2 rss.length cp2) rss.length ((List.range rss.length).map fun j => sl3 (T j)) ∧
    (∀ j ss, rss[j]? = some ss → PRow w' (sl3 (T j)) ss bs) ∧ Below w.heap.size w w'

theorem range_snoc (T : Nat → Option Addr × Nat × Nat) (k : Nat) (t : Option Addr × Nat × Nat) :
    ((List.range (k + 1)).map fun j => sl3 ((fun i => if i = k then t else T i) j)) = ((List.range k).map fun j => sl3 (T j)) ++ [sl3 t] := by
  rw [List.range_succ, List.map_append]
  congr 1
  · apply List.map_congr_left
    intro j hj
    simp at hj
    have : j ≠ k := by omega
    simp [this]
  · simp

/-- What holds at the head of the second loop. -/
structure Loop2 (B : Nat) (w : World) (cap : ByteArray) (ts : List ByteArray) (bs : List Bool) (rss : List (List ByteArray)) (ao : Option Addr) (cp : Nat) (k : Nat) (ao2 : Option Addr) (cp2 : Nat) (T : Nat → Option Addr × Nat × Nat) (wr : World) : Prop where
  sz : B + 1 < wr.heap.size
  tabI : wr.rowIs (B + 1) 42 3 (tab cap (.slice ao ts.length cp) (.slice ao2 k cp2))
  res : wr.rowIs B 42 3 (tab ByteArray.empty (.slice none 0 0) (.slice none 0 0))
  head : wr.ownsRow (B + 2) 49 2 (.slice ao ts.length cp) ts.length (flat (line ts bs ts.length))
  rows : wr.ownsRow (B + 2) 39 1 (.slice ao2 k cp2) k ((List.range k).map fun j => sl3 (T j))
  cells : ∀ j ss, j < k → rss[j]? = some ss → PRow wr (sl3 (T j)) ss bs
  bel : Below B w wr

/-- A line has been filled in a new block and appended. -/
theorem Loop2.step {B : Nat} {w : World} {cap : ByteArray} {ts : List ByteArray} {bs : List Bool} {rss : List (List ByteArray)} {ao : Option Addr} {cp k : Nat} {ao2 : Option Addr} {cp2 : Nat} {T : Nat → Option Addr × Nat × Nat} {wr wi w1 : World}
    (h : Loop2 B w cap ts bs rss ao cp k ao2 cp2 T wr) {ss : List ByteArray} (hs : rss[k]? = some ss) {F : Nat → Value} (hrow : wi.rowIs wr.heap.size 49 (ss.length * 2) F) (hF : ∀ j, j < ss.length → F (j * 2) = .string (ss.getD j ByteArray.empty) ∧ F (j * 2 + 1) = .bool (bs.getD j false))
    (hbi : Below wr.heap.size wr wi) {o : Obj} {ao3 : Option Addr} {cp3 : Nat} (hown : w1.ownsRow (B + 2) 39 1 (.slice ao3 (k + 1) cp3) (k + 1) (((List.range k).map fun j => sl3 (T j)) ++ [.slice (some ⟨wr.heap.size, 0, none⟩) ss.length ss.length]))
    (hgrow : (wi.alloc o).grownBy w1 (Value.slice ao2 k cp2).ownBlock) :
    Loop2 B w cap ts bs rss ao cp (k + 1) ao3 cp3 (fun i => if i = k then (some ⟨wr.heap.size, 0, none⟩, ss.length, ss.length) else T i) (w1.setCell ⟨B + 1, 2, none⟩ (.slice ao3 (k + 1) cp3)) := by
  have hszi : wr.heap.size ≤ wi.heap.size := hbi.size
  have hszg := hgrow.size
  rw [Deep.nblk_alloc] at hszg
  have hsz := h.sz
  have ownr : (wi.alloc o).ownsRow (B + 2) 39 1 (.slice ao2 k cp2) k ((List.range k).map fun j => sl3 (T j)) := (own_below h.rows hbi).alloc o
  have ownh : (wi.alloc o).ownsRow (B + 2) 49 2 (.slice ao ts.length cp) ts.length (flat (line ts bs ts.length)) := (own_below h.head hbi).alloc o
  have hblk : ∀ q, q < B + 2 → some q ≠ (Value.slice ao2 k cp2).ownBlock := fun q hq e => by have := (ownr.lt q e.symm).1; omega
  have t1 : w1.rowIs (B + 1) 42 3 (tab cap (.slice ao ts.length cp) (.slice ao2 k cp2)) := rowIs_grown ((rowIs_below h.tabI hbi (by omega)).alloc o) hgrow (hblk _ (by omega))
  have r1 : w1.rowIs B 42 3 (tab ByteArray.empty (.slice none 0 0) (.slice none 0 0)) := rowIs_grown ((rowIs_below h.res hbi (by omega)).alloc o) hgrow (hblk _ (by omega))
  have h1 : w1.ownsRow (B + 2) 49 2 (.slice ao ts.length cp) ts.length (flat (line ts bs ts.length)) := ownh.kept hgrow (own_ne ownh ownr (by decide))
  refine ⟨by rw [Deep.nblk_setCell]; omega, tab_set2 t1, r1.setOther (by simp) _, own_setOther h1 (fun q hq => by have := (h1.lt q hq).1; simp; omega) _, ?_, ?_, ?_⟩
  · rw [range_snoc]
    exact own_setOther hown (fun q hq => by have := (hown.lt q hq).1; simp; omega) _
  · intro j zs hj hz
    have key : ∀ q n G, w1.rowIs q 49 n G → (w1.setCell ⟨B + 1, 2, none⟩ (.slice ao3 (k + 1) cp3)).heap[q]? = w1.heap[q]? := by
      intro q n G hq
      refine Below.heap_setCell _ _ _ _ (fun e => ?_)
      simp only at e
      subst e
      obtain ⟨c1, hc1, _⟩ := hq
      obtain ⟨c2, hc2, _⟩ := t1
      rw [hc1] at hc2
      simp at hc2
    have key2 : ∀ q n G, (wi.alloc o).rowIs q 49 n G → w1.heap[q]? = (wi.alloc o).heap[q]? := fun q n G hq => hgrow.block q hq.lt (row_ne hq ownr (by decide))
    have key3 : ∀ q n G, wi.rowIs q 49 n G → (wi.alloc o).heap[q]? = wi.heap[q]? := fun q n G hq => Deep.blk_alloc_lt _ _ _ hq.lt
    refine PRow.same (PRow.same (PRow.same (w := wi) ?_ key3) key2) key
    by_cases e : j = k
    · subst e
      rw [hs] at hz
      simp only [Option.some.injEq] at hz
      subst hz
      exact ⟨wr.heap.size, F, by simp [sl3], hrow, hF⟩
    · simp only [if_neg e]
      exact PRow.same (h.cells j zs (by omega) hz) (fun q n G hq => hbi.block q hq.lt)
  · exact ((((h.bel.trans (hbi.mono (by omega))).alloc (by omega) o).grown hgrow (by rw [Deep.nblk_alloc]; omega) (fun q hq => by have := (ownr.lt q hq).1; omega))).setCell (by simp) _

theorem table_end {w : World} {cap : ByteArray} {ts : List ByteArray} {bs : List Bool} {rss : List (List ByteArray)} {ao : Option Addr} {cp : Nat} {ao2 : Option Addr} {cp2 : Nat} {T : Nat → Option Addr × Nat × Nat} {wr : World} (h : Loop2 w.heap.size w cap ts bs rss ao cp rss.length ao2 cp2 T wr) {x0 x1 x2 : Value} :
    TableSaid cap ts bs rss w (.returned (.agg #[.string cap, .slice ao ts.length cp, .slice ao2 rss.length cp2])) (((wr.setCell ⟨w.heap.size, 0, none⟩ x0).setCell ⟨w.heap.size, 1, none⟩ x1).setCell ⟨w.heap.size, 2, none⟩ x2) := by
  have k1 : ∀ {v : Value} {wx : World} {e s n : Nat} {xs : List Value} {o : Nat} (u : Value), wx.ownsRow (w.heap.size + 2) e s v n xs → (wx.setCell ⟨w.heap.size, o, none⟩ u).ownsRow (w.heap.size + 2) e s v n xs :=
    fun u hw => own_setOther hw (fun q hq => by have := (hw.lt q hq).1; simp; omega) u
  refine ⟨ao, cp, ao2, cp2, T, rfl, k1 _ (k1 _ (k1 _ h.head)), k1 _ (k1 _ (k1 _ h.rows)), fun j ss hs => ?_, ((h.bel.setCell (Nat.le_refl _) _).setCell (Nat.le_refl _) _).setCell (Nat.le_refl _) _⟩
  have key : ∀ q n G, wr.rowIs q 49 n G → ∀ wx : World, wx.heap[w.heap.size]? = wr.heap[w.heap.size]? → w.heap.size ≠ q := by
    intro q n G hq wx _ e
    subst e
    obtain ⟨c1, hc1, _⟩ := hq
    obtain ⟨c2, hc2, _⟩ := h.res
    rw [hc1] at hc2
    simp at hc2
  refine PRow.same (h.cells j ss (lt_of_some hs) hs) (fun q n G hq => ?_)
  have hne := key q n G hq wr rfl
  rw [Below.heap_setCell _ _ _ _ (by simp; omega), Below.heap_setCell _ _ _ _ (by simp; omega), Below.heap_setCell _ _ _ _ (by simp; omega)]

set_option maxHeartbeats 4000000 in
/-- newPageTable -/
theorem table28 (cap : ByteArray) (p : Nat) (cv rv : Value) (ts : List ByteArray) (bs : List Bool) (rss : List (List ByteArray)) (w : World)
    (hp0 : w.cell? ⟨p, 0, none⟩ = some cv) (hp1 : w.cell? ⟨p, 1, none⟩ = some rv) (hcols : Cols w w.heap.size cv ts bs) (hrows : Sl2 Value.string w w.heap.size rv rss)
    (m1 : ts.length ≤ 1048576) (m2 : rss.length ≤ 1048576) (m3 : ∀ (i : Nat) ss, rss[i]? = some ss → ss.length ≤ ts.length) :
    Calls Try.prog 28 #[.string cap, .pointer (some ⟨p, 0, none⟩)] w (TableSaid cap ts bs rss w) := by
  obtain ⟨i0, hi, hz0, hz1, hz2⟩ := info_parts Try.info49
  obtain ⟨i1, hj, hy0, hy1, hy2⟩ := info_parts Try.info39
  obtain ⟨g, c, rfl, hg, hcells⟩ := hcols
  obtain ⟨a3, c3, rfl⟩ := hrows.form
  have hpw : p < w.heap.size := World.block_lt_of_cell? _ _ hp0
  go_enter Try.func28, Try.ntmps28
  go_wp2
  go_loopw [20] (fun i wr => ∃ (k : Nat) (ao : Option Addr) (cp : Nat), k ≤ ts.length ∧ i = .int .i64 k ∧ w.heap.size + 1 < wr.heap.size ∧ wr.rowIs (w.heap.size + 1) 42 3 (tab cap (.slice ao k cp) (.slice none 0 0)) ∧ wr.rowIs w.heap.size 42 3 (tab ByteArray.empty (.slice none 0 0) (.slice none 0 0)) ∧
      wr.ownsRow (w.heap.size + 2) 49 2 (.slice ao k cp) k (flat (line ts bs k)) ∧ Below w.heap.size w wr) (fun i _ => ts.length - (intOf i).toNat)
  case atStart =>
    refine ⟨0, none, 0, Nat.zero_le _, rfl, by simp, ?_, ?_, World.ownsRow_nil _ _ _ _, ((Below.refl _ _).alloc (Nat.le_refl _) _).alloc (by simp) _⟩
    · have := tab_new (w.alloc (.cells #[.string ByteArray.empty, .slice none 0 0, .slice none 0 0] 42)) cap (.slice none 0 0) (.slice none 0 0)
      rw [Deep.nblk_alloc] at this
      exact this
    · exact (tab_new w ByteArray.empty (.slice none 0 0) (.slice none 0 0)).alloc _
  case round =>
    obtain ⟨k, ao, cp, hk, rfl, hsz, hT, hR, hown, hbel⟩ := hrel
    by_cases hlt : k < ts.length
    · obtain ⟨⟨s0, e0⟩, e1, e2⟩ := hcells k hlt
      have e0 : wr.cell? ⟨g, k * 3, none⟩ = some (.string s0) := by rw [hbel.cell (p := ⟨g, k * 3, none⟩) hg]; exact e0
      have e1 : wr.cell? ⟨g, k * 3 + 1, none⟩ = some (.string (ts.getD k ByteArray.empty)) := by rw [hbel.cell (p := ⟨g, k * 3 + 1, none⟩) hg]; exact e1
      have e2 : wr.cell? ⟨g, k * 3 + 2, none⟩ = some (.bool (bs.getD k false)) := by rw [hbel.cell (p := ⟨g, k * 3 + 2, none⟩) hg]; exact e2
      have t1 : wr.cell? ⟨w.heap.size + 1, 1, none⟩ = some (.slice ao k cp) := hT.cell (i := 1) (by omega)
      have HT : Hid (wr.rowIs (w.heap.size + 1) 42 3 (tab cap (.slice ao k cp) (.slice none 0 0))) := hT
      have HR : Hid (wr.rowIs w.heap.size 42 3 (tab ByteArray.empty (.slice none 0 0) (.slice none 0 0))) := hR
      have HL : Hid (flat (line ts bs (k + 1)) = flat (line ts bs k) ++ [.string (ts.getD k ByteArray.empty), .bool (bs.getD k false)]) := by rw [line_succ, flat_snoc]; rfl
      obtain ⟨X, hX⟩ : ∃ X, flat (line ts bs k) = X := ⟨_, rfl⟩
      obtain ⟨tk, htk⟩ : ∃ X, ts.getD k ByteArray.empty = X := ⟨_, rfl⟩
      obtain ⟨bk, hbk⟩ : ∃ X, bs.getD k false = X := ⟨_, rfl⟩
      rw [hX, htk, hbk] at HL
      rw [hX] at hown
      rw [htk] at e1
      rw [hbk] at e2
      clear hX htk hbk
      clear hT hR hcells
      go_wp2_with (at_builtin; refine wpList_append_own _ rfl _ _ 39 rfl (w.heap.size + 2) 49 i0 (.agg #[.string ByteArray.empty, .bool false]) 2 24 Try.underlying39 hi hz0 hz1 hz2 rfl (by decide) _ _ _ rfl ((hown.alloc _).alloc _) ⟨wr.heap.size + 1, 0, none⟩ 1 1 [.string tk, .bool bk] rfl rfl ?c1 ?c2 ?c3 ?c4 ?c5 ?_)
      case c1 =>
        intro j u hj
        match j, hj with
        | 0, hj => simp at hj; subst hj; simp [Addr.add]
        | 1, hj => simp at hj; subst hj; simp [Addr.add]
      case c2 =>
        intro u hu
        simp at hu
        rcases hu with rfl | rfl <;> rfl
      case c3 => unfold maxLen; omega
      case c4 => omega
      case c5 => simp; omega
      · intro v' w1 hown' hgrow _
        obtain ⟨ao', cp', hv'⟩ := own_form hown'
        subst hv'
        have hszg := hgrow.size
        rw [Deep.nblk_alloc, Deep.nblk_alloc] at hszg
        have hblk : ∀ q, q < w.heap.size + 2 → some q ≠ (Value.slice ao k cp).ownBlock := fun q hq e => by have := (hown.lt q e.symm).1; omega
        have hT1 := rowIs_grown ((HT.out.alloc _).alloc _) hgrow (hblk _ (by omega))
        have hR1 := rowIs_grown ((HR.out.alloc _).alloc _) hgrow (hblk _ (by omega))
        have u1 : w1.cell? ⟨w.heap.size + 1, 1, none⟩ = some (.slice ao k cp) := hT1.cell (i := 1) (by omega)
        have u2 := hT1.frozen 1
        have hsz1 : w.heap.size + 1 < w1.heap.size := by omega
        rw [← HL.out] at hown'
        have R1 : Hid ((w1.setCell ⟨w.heap.size + 1, 1, none⟩ (.slice ao' (k + 1) cp')).rowIs (w.heap.size + 1) 42 3 (tab cap (.slice ao' (k + 1) cp') (.slice none 0 0))) := tab_set1 hT1
        have R2 : Hid ((w1.setCell ⟨w.heap.size + 1, 1, none⟩ (.slice ao' (k + 1) cp')).rowIs w.heap.size 42 3 (tab ByteArray.empty (.slice none 0 0) (.slice none 0 0))) := hR1.setOther (by simp) _
        have R3 : Hid ((w1.setCell ⟨w.heap.size + 1, 1, none⟩ (.slice ao' (k + 1) cp')).ownsRow (w.heap.size + 2) 49 2 (.slice ao' (k + 1) cp') (k + 1) (flat (line ts bs (k + 1)))) := own_setOther hown' (fun q hq => by have := (hown'.lt q hq).1; simp; omega) _
        have R4 : Hid (Below w.heap.size w (w1.setCell ⟨w.heap.size + 1, 1, none⟩ (.slice ao' (k + 1) cp'))) := (((hbel.alloc (by omega) _).alloc (by rw [Deep.nblk_alloc]; omega) _).grown hgrow (by rw [Deep.nblk_alloc, Deep.nblk_alloc]; omega) (fun q hq => by have := (hown.lt q hq).1; omega)).setCell (by simp) _
        have R5 : Hid (w.heap.size + 1 < (w1.setCell ⟨w.heap.size + 1, 1, none⟩ (.slice ao' (k + 1) cp')).heap.size) := by rw [Deep.nblk_setCell]; exact hsz1
        clear hown' hgrow hown hbel hT1 hR1 HT HR HL hblk hszg
        go_wp2
        go_roundw
        case rel => exact ⟨k + 1, ao', cp', by omega, by go_num, R5.out, R1.out, R2.out, R3.out, R4.out⟩
        case measure => simp [intOf]; omega
    · obtain rfl : k = ts.length := by omega
      have q1 : wr.cell? ⟨p, 1, none⟩ = some (.slice a3 rss.length c3) := by rw [hbel.cell (p := ⟨p, 1, none⟩) hpw]; exact hp1
      have L2 : Hid (Loop2 w.heap.size w cap ts bs rss ao cp 0 none 0 (fun _ => (none, 0, 0)) wr) := ⟨hsz, hT, hR, hown, World.ownsRow_nil _ _ _ _, fun j ss hj => by omega, hbel⟩
      clear hT hR hown hbel hsz hlt
      go_wp2
      clear q1
      go_loopw [40] (fun i wz => ∃ (k : Nat) (ao2 : Option Addr) (cp2 : Nat) (T : Nat → Option Addr × Nat × Nat), k ≤ rss.length ∧ i = .int .i64 k ∧ Loop2 w.heap.size w cap ts bs rss ao cp k ao2 cp2 T wz) (fun i _ => rss.length - (intOf i).toNat)
      case atStart => exact ⟨0, none, 0, _, Nat.zero_le _, rfl, L2.out⟩
      case round =>
        clear L2
        obtain ⟨k2, ao2, cp2, T, hk2, rfl, hL⟩ := hrel
        obtain ⟨wo, rfl⟩ : ∃ x, x = wr := ⟨wr, rfl⟩
        by_cases hlt : k2 < rss.length
        · obtain ⟨ss, hs⟩ : ∃ z, rss[k2]? = some z := ⟨rss[k2], by simp [hlt]⟩
          obtain ⟨b, o, rfl, hbb, hc⟩ := hrows.place hs
          obtain ⟨a', c', hcell0, hsl⟩ := hc k2 ss hs
          have hfit := m3 k2 ss hs
          have hcell : wo.cell? ⟨b, o + k2, none⟩ = some (.slice a' ss.length c') := by rw [hL.bel.cell (p := ⟨b, o + k2, none⟩) hbb]; exact hcell0
          have HS : Hid (rss[k2]? = some ss) := hs
          have HL : Hid (Loop2 w.heap.size w cap ts bs rss ao cp k2 ao2 cp2 T wo) := hL
          have hsz := hL.sz
          clear hc hs hcell0 hL
          have hmk : ∀ w : World, (Instr.makeSlice 39 (.int .i64 (ss.length : Int)) (.int .i64 (ss.length : Int))).run Try.prog w = .ok (.slice (some ⟨w.heap.size, 0, none⟩) ss.length ss.length) (w.alloc (.cells (madeCells #[.string ByteArray.empty, .bool false] (ss.length * 2)) 49)) := by
            intro w
            have := run_make (P := Try.prog) w 39 49 i0 _ Try.underlying39 hi hz0 .i64 .i64 ss.length ss.length (by omega) (by omega) (by rw [hz2]; omega) (by omega)
            rw [hz1] at this
            simp only [Int.toNat_natCast] at this
            exact this
          go_wp2
          clear hmk hcell
          go_loopw [49] (fun i wi => ∃ m : Nat, m ≤ ss.length ∧ i = .int .i64 m ∧ wo.heap.size < wi.heap.size ∧ Below wo.heap.size wo wi ∧ ∃ F, wi.rowIs wo.heap.size 49 (ss.length * 2) F ∧ ∀ j, j < m → F (j * 2) = .string (ss.getD j ByteArray.empty) ∧ F (j * 2 + 1) = .bool (bs.getD j false)) (fun i _ => ss.length - (intOf i).toNat)
          case atStart =>
            obtain ⟨F, hF⟩ := rowIs_some wo (madeCells #[.string ByteArray.empty, .bool false] (ss.length * 2)) 49 (ss.length * 2) (size_madeCells _ _)
            exact ⟨0, Nat.zero_le _, rfl, by simp, (Below.refl _ _).alloc (Nat.le_refl _) _, F, hF, fun j hj => by omega⟩
          case round =>
            obtain ⟨m, hm, rfl, hszi, hbi, F, hrow, hF⟩ := hrel
            by_cases hmlt : m < ss.length
            · obtain ⟨s, hsm⟩ : ∃ z, ss[m]? = some z := ⟨ss[m], by simp [hmlt]⟩
              obtain ⟨b2, o2, rfl, hb2, hc2⟩ := hsl.place hsm
              have bw := HL.out.bel
              have bsz := bw.size
              have x1 : wr.cell? ⟨b2, o2 + m, none⟩ = some (.string s) := by rw [hbi.cell (p := ⟨b2, o2 + m, none⟩) (by simp; omega), bw.cell (p := ⟨b2, o2 + m, none⟩) hb2]; exact hc2 m s hsm
              have x2 : wr.cell? ⟨p, 0, none⟩ = some (.slice (some ⟨g, 0, none⟩) ts.length c) := by rw [hbi.cell (p := ⟨p, 0, none⟩) (by simp; omega), bw.cell (p := ⟨p, 0, none⟩) hpw]; exact hp0
              have x3 : wr.cell? ⟨g, m * 3 + 2, none⟩ = some (.bool (bs.getD m false)) := by rw [hbi.cell (p := ⟨g, m * 3 + 2, none⟩) (by simp; omega), bw.cell (p := ⟨g, m * 3 + 2, none⟩) hg]; exact (hcells m (by omega)).2.2
              have d0 := hrow.cell (i := m * 2) (by omega)
              have d1 := hrow.cell (i := m * 2 + 1) (by omega)
              have f0 := hrow.frozen (m * 2)
              have f1 := hrow.frozen (m * 2 + 1)
              obtain ⟨bk, hbk⟩ : ∃ X, bs.getD m false = X := ⟨_, rfl⟩
              rw [hbk] at x3
              have R1 : Hid (∃ G, ((wr.setCell ⟨wo.heap.size, m * 2, none⟩ (.string s)).setCell ⟨wo.heap.size, m * 2 + 1, none⟩ (.bool bk)).rowIs wo.heap.size 49 (ss.length * 2) G ∧ ∀ j, j < m + 1 → G (j * 2) = .string (ss.getD j ByteArray.empty) ∧ G (j * 2 + 1) = .bool (bs.getD j false)) := by
                refine ⟨_, (hrow.set _ _).set _ _, fun j hj => ?_⟩
                by_cases e : j = m
                · subst e
                  simp [hsm, ← hbk]
                · obtain ⟨e1, e2⟩ := hF j (by omega)
                  rw [← e1, ← e2]
                  refine ⟨?_, ?_⟩
                  · rw [if_neg (by omega), if_neg (by omega)]
                  · rw [if_neg (by omega), if_neg (by omega)]
              have R2 : Hid (Below wo.heap.size wo ((wr.setCell ⟨wo.heap.size, m * 2, none⟩ (.string s)).setCell ⟨wo.heap.size, m * 2 + 1, none⟩ (.bool bk))) := (hbi.setCell (Nat.le_refl _) _).setCell (Nat.le_refl _) _
              have R3 : Hid (wo.heap.size < ((wr.setCell ⟨wo.heap.size, m * 2, none⟩ (.string s)).setCell ⟨wo.heap.size, m * 2 + 1, none⟩ (.bool bk)).heap.size) := by rw [Deep.nblk_setCell, Deep.nblk_setCell]; exact hszi
              have hmt : (m : Int) < ts.length := by omega
              clear hrow hF hsm hc2 hbk hbi bw hsl
              go_wp2
              go_roundw
              case rel => exact ⟨m + 1, by omega, by go_num, R3.out, R2.out, R1.out⟩
              case measure => simp [intOf]; omega
            · obtain rfl : m = ss.length := by omega
              have x1 : wr.cell? ⟨w.heap.size + 1, 2, none⟩ = some (.slice ao2 k2 cp2) := by rw [hbi.cell (p := ⟨w.heap.size + 1, 2, none⟩) (by simp; omega)]; exact HL.out.tabI.cell (i := 2) (by omega)
              have hwi : w.heap.size + 1 < wr.heap.size := by omega
              have hown := own_below HL.out.rows hbi
              obtain ⟨X, hX⟩ : ∃ X, ((List.range k2).map fun j => sl3 (T j)) = X := ⟨_, rfl⟩
              rw [hX] at hown
              have HX : Hid (((List.range k2).map fun j => sl3 (T j)) = X) := hX
              have HROW : Hid (wr.rowIs wo.heap.size 49 (ss.length * 2) F) := hrow
              have HF : Hid (∀ j, j < ss.length → F (j * 2) = .string (ss.getD j ByteArray.empty) ∧ F (j * 2 + 1) = .bool (bs.getD j false)) := hF
              have HBI : Hid (Below wo.heap.size wo wr) := hbi
              clear hX hrow hF hbi hsl
              go_wp2_with (at_builtin; refine wpList_append_own _ rfl _ _ 40 rfl (w.heap.size + 2) 39 i1 (.slice none 0 0) 1 24 Try.underlying40 hj hy0 hy1 hy2 rfl (by decide) _ _ _ rfl (hown.alloc _) ⟨wr.heap.size, 0, none⟩ 1 1 [.slice (some ⟨wo.heap.size, 0, none⟩) ss.length ss.length] rfl rfl ?d1 ?d2 ?d3 ?d4 ?d5 ?_)
              case d1 =>
                intro j u hj
                match j, hj with
                | 0, hj => simp at hj; subst hj; simp [Addr.add]
              case d2 => intro u hu; simp at hu; subst hu; rfl
              case d3 => unfold maxLen; omega
              case d4 => omega
              case d5 => simp; omega
              · intro v' w1 hown' hgrow _
                obtain ⟨ao', cp', hv'⟩ := own_form hown'
                subst hv'
                rw [← HX.out] at hown'
                have R := HL.out.step HS.out HROW.out HF.out HBI.out hown' hgrow
                have t1 := rowIs_grown ((rowIs_below HL.out.tabI HBI.out (by omega)).alloc _) hgrow (fun e => by have := (hown.lt _ e.symm).1; omega)
                have u1 : w1.cell? ⟨w.heap.size + 1, 2, none⟩ = some (.slice ao2 k2 cp2) := t1.cell (i := 2) (by omega)
                have u2 := t1.frozen 2
                have HRR := R
                have HRR : Hid (Loop2 w.heap.size w cap ts bs rss ao cp (k2 + 1) ao' cp' (fun i => if i = k2 then (some ⟨wo.heap.size, 0, none⟩, ss.length, ss.length) else T i) (w1.setCell ⟨w.heap.size + 1, 2, none⟩ (.slice ao' (k2 + 1) cp'))) := R
                clear R t1 hown' hgrow hown
                go_wp2
                go_roundw
                case rel => exact ⟨k2 + 1, ao', cp', _, by omega, by go_num, HRR.out⟩
                case measure => simp [intOf]; omega
        · obtain rfl : k2 = rss.length := by omega
          have t0 : wo.cell? ⟨w.heap.size + 1, 0, none⟩ = some (.string cap) := hL.tabI.cell (i := 0) (by omega)
          have t1 : wo.cell? ⟨w.heap.size + 1, 1, none⟩ = some (.slice ao ts.length cp) := hL.tabI.cell (i := 1) (by omega)
          have t2 : wo.cell? ⟨w.heap.size + 1, 2, none⟩ = some (.slice ao2 rss.length cp2) := hL.tabI.cell (i := 2) (by omega)
          have r0 := hL.res.cell (i := 0) (by omega)
          have r1 := hL.res.cell (i := 1) (by omega)
          have r2 := hL.res.cell (i := 2) (by omega)
          have f0 := hL.res.frozen 0
          have f1 := hL.res.frozen 1
          have f2 := hL.res.frozen 2
          have HL : Hid (Loop2 w.heap.size w cap ts bs rss ao cp rss.length ao2 cp2 T wo) := hL
          have hblt : w.heap.size < wo.heap.size := by have := hL.sz; omega
          clear hL
          go_wp2
          exact bodyPost_ret (v := .agg #[.string cap, .slice ao ts.length cp, .slice ao2 rss.length cp2]) (by simp [results, Try.results28, go_sem, r0, r1, r2]) rfl (table_end HL.out)
def PageSaid (cap : ByteArray) (ts : List ByteArray) (bs : List Bool) (rss : List (List ByteArray)) (w : World) (e : Ending) (w' : World) : Prop :=
  ∃ (ao : Option Addr) (cp : Nat) (ao2 : Option Addr) (cp2 : Nat) (T : Nat → Option Addr × Nat × Nat), e = .returned (.agg #[.string cap, .slice ao ts.length cp, .slice ao2 rss.length cp2]) ∧
    w'.ownsRow w.heap.size 49 2 (.slice ao ts.length cp) ts.length (flat (line ts bs ts.length)) ∧ w'.ownsRow w.heap.size 39 1 (.slice ao2 rss.length cp2) rss.length ((List.range rss.length).map fun j => sl3 (T j)) ∧
    (∀ j ss, rss[j]? = some ss → PRow w' (sl3 (T j)) ss bs) ∧ Below w.heap.size w w'

theorem own_base {w : World} {base base' : Nat} {e : TypeId} {size : Nat} {v : Value} {n : Nat} {xs : List Value} (h : w.ownsRow base e size v n xs) (hb : base' ≤ base) : w.ownsRow base' e size v n xs := by
  refine ⟨h.1, ?_⟩
  rcases h.2 with h0 | ⟨g, cap, cur, hv, hbg, r⟩
  · exact .inl h0
  · exact .inr ⟨g, cap, cur, hv, by omega, r⟩

/-- ZZNewPageTable -/
theorem zzpage20 (cap : ByteArray) (p : Nat) (cv rv : Value) (ts : List ByteArray) (bs : List Bool) (rss : List (List ByteArray)) (w : World)
    (hp0 : w.cell? ⟨p, 0, none⟩ = some cv) (hp1 : w.cell? ⟨p, 1, none⟩ = some rv) (hcols : Cols w w.heap.size cv ts bs) (hrows : Sl2 Value.string w w.heap.size rv rss)
    (m1 : ts.length ≤ 1048576) (m2 : rss.length ≤ 1048576) (m3 : ∀ (i : Nat) ss, rss[i]? = some ss → ss.length ≤ ts.length) :
    Calls Try.prog 20 #[.string cap, .pointer (some ⟨p, 0, none⟩)] w (PageSaid cap ts bs rss w) := by
  have hpw : p < w.heap.size := World.block_lt_of_cell? _ _ hp0
  go_enter Try.func20, Try.ntmps20
  go_wp2_with fail
  have b0 : Below w.heap.size w (w.alloc (.cells #[.string ⟨#[]⟩, .slice none 0 0, .slice none 0 0] 42)) := (Below.refl _ _).alloc (Nat.le_refl _) _
  have n0 := Deep.nblk_alloc w (.cells #[.string ⟨#[]⟩, .slice none 0 0, .slice none 0 0] 42)
  have r0 := tab_new w ⟨#[]⟩ (.slice none 0 0) (.slice none 0 0)
  refine (table28 cap p cv rv ts bs rss _ ?_ ?_ ?_ ?_ m1 m2 m3).mono ?_
  · rw [b0.cell (p := ⟨p, 0, none⟩) hpw]; exact hp0
  · rw [b0.cell (p := ⟨p, 1, none⟩) hpw]; exact hp1
  · exact (hcols.below b0).mono (by omega)
  · exact (hrows.below b0).mono (by omega)
  rintro e w1 ⟨ao, cp, ao2, cp2, T, rfl, h1, h2, h3, h4⟩
  have rr : w1.rowIs w.heap.size 42 3 (tab ⟨#[]⟩ (.slice none 0 0) (.slice none 0 0)) := rowIs_below r0 h4 (by omega)
  have d0 := rr.cell (i := 0) (by omega)
  have d1 := rr.cell (i := 1) (by omega)
  have d2 := rr.cell (i := 2) (by omega)
  have f0 := rr.frozen 0
  have f1 := rr.frozen 1
  have f2 := rr.frozen 2
  have HP : Hid (PageSaid cap ts bs rss w (.returned (.agg #[.string cap, .slice ao ts.length cp, .slice ao2 rss.length cp2])) (((w1.setCell ⟨w.heap.size, 0, none⟩ (.string cap)).setCell ⟨w.heap.size, 1, none⟩ (.slice ao ts.length cp)).setCell ⟨w.heap.size, 2, none⟩ (.slice ao2 rss.length cp2))) := by
    have k1 : ∀ {v : Value} {wx : World} {e s n : Nat} {xs : List Value} {o : Nat} (u : Value), wx.ownsRow (w.heap.size + 1) e s v n xs → (wx.setCell ⟨w.heap.size, o, none⟩ u).ownsRow (w.heap.size + 1) e s v n xs :=
      fun u hw => own_setOther hw (fun q hq => by have := (hw.lt q hq).1; simp; omega) u
    have h1' := own_base h1 (show w.heap.size + 1 ≤ _ by omega)
    have h2' := own_base h2 (show w.heap.size + 1 ≤ _ by omega)
    refine ⟨ao, cp, ao2, cp2, T, rfl, own_base (k1 _ (k1 _ (k1 _ h1'))) (by omega), own_base (k1 _ (k1 _ (k1 _ h2'))) (by omega), fun j ss hs => ?_, (((b0.trans (h4.mono (by omega))).setCell (Nat.le_refl _) _).setCell (Nat.le_refl _) _).setCell (Nat.le_refl _) _⟩
    refine PRow.same (h3 j ss hs) (fun q n G hq => ?_)
    have hne : w.heap.size ≠ q := by
      intro e
      subst e
      obtain ⟨c1, hc1, _⟩ := hq
      obtain ⟨c2, hc2, _⟩ := rr
      rw [hc1] at hc2
      simp at hc2
    rw [Below.heap_setCell _ _ _ _ (by simp; omega), Below.heap_setCell _ _ _ _ (by simp; omega), Below.heap_setCell _ _ _ _ (by simp; omega)]
  clear h1 h2 h3 h4 rr r0 b0 hcols hrows
  go_wp2
  exact bodyPost_ret (v := .agg #[.string cap, .slice ao ts.length cp, .slice ao2 rss.length cp2]) (by simp [results, Try.results20, go_sem, d0, d1, d2]) rfl HP.out

end Go.Proofs.Qxb6000897a
