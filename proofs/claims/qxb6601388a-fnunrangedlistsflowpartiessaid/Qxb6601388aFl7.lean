import Derived.Test.Qxb6601388aFl6
import Derived.Laws.CopyOwn
import Derived.Deep.DeepCutAuto
namespace Go.Proofs.Qxb6601388a
open Go.RowKit
set_option linter.unusedVariables false

theorem Try.info64 : (Try.prog.info? 64).map (fun i => (i.zero, i.size, i.bytes)) = some (some (.agg #[.int .i64 0, .int .i64 0]), 2, 16) := by kernel_rfl

theorem make62 (d : Nat) (hd : d ≤ 512) (w : World) : (Instr.makeSlice 62 (.int .i64 (d : Int)) (.int .i64 (d : Int))).run Try.prog w = .ok (.slice (some ⟨w.heap.size, 0, none⟩) d d) (w.alloc (.cells (madeCells #[.int .i64 0, .int .i64 0] (d * 2)) 64)) := by
  obtain ⟨i, hi, hzz⟩ := Option.map_eq_some_iff.1 Try.info64
  simp only [Prod.mk.injEq] at hzz
  obtain ⟨hz, hs, hb⟩ := hzz
  have := run_make (P := Try.prog) (w := w) 62 64 i _ Try.underlying62 hi hz .i64 .i64 (d : Int) (d : Int) (by omega) (by omega) (by rw [hb]; omega) (by omega)
  rw [this, hs]
  simp [Value.cells]

theorem Two.made (w : World) (d : Nat) : Two (w.alloc (.cells (madeCells #[.int .i64 0, .int .i64 0] (d * 2)) 64)) w.heap.size d (fun _ => (0, 0)) := by
  refine ⟨fun _ => .int .i64 0, ⟨_, Deep.blk_alloc_new _ _, size_madeCells _ _, fun i hi => ?_⟩, fun y hy => ⟨rfl, rfl⟩⟩
  have h2 : i % 2 = 0 ∨ i % 2 = 1 := by omega
  rcases h2 with h2 | h2 <;> simp [madeCells, hi, h2]

theorem Bls.drew {w : World} {b n : Nat} {P : Nat → Bool} (h : Bls w b n P) : Bls w.drew b n P := World.rowIs.of_block h rfl
theorem Two.drew {w : World} {b d : Nat} {S : Nat → Int × Int} (h : Two w b d S) : Two w.drew b d S := by
  obtain ⟨F, hr, hF⟩ := h
  exact ⟨F, hr.of_block rfl, hF⟩

/-- What copy leaves in inFlow. -/
theorem bls_copied {w : World} {g n : Nat} {needs : List Bool} (h : w.heap[g]? = some (.cells (splice (List.replicate n (Value.bool false)) 0 ((needs.map Value.bool).take n)).toArray 4 (0, 0))) : Bls w g n (fun p => needs.getD p false) := by
  refine ⟨_, h, ?_, fun i hi => ?_⟩
  · simp [splice]; omega
  · simp only [splice, List.take_zero, List.nil_append, List.getElem?_toArray, Nat.zero_add]
    by_cases e : i < needs.length
    · rw [List.getElem?_append_left (by simp; omega)]
      simp [hi, e]
    · rw [List.getElem?_append_right (by simp; omega)]
      rw [List.drop_replicate, List.getElem?_replicate]
      simp only [List.length_map, List.length_take]
      rw [if_pos (by omega)]
      simp [List.getElem?_eq_none (by omega : needs.length ≤ i)]

/-- What the walk of unranged holds of the world. -/
structure St (w : World) (n d : Nat) (bI bS bR : Nat) (P : Nat → Bool) (S R : Nat → Int × Int) (wr : World) : Prop where
  hI : Bls wr bI n P
  hS : Two wr bS d S
  hR : Two wr bR d R
  below : Below w.heap.size w wr

theorem St.four {w wr : World} {n d bI bS bR : Nat} {P : Nat → Bool} {S R : Nat → Int × Int} (h : St w n d bI bS bR P S R wr) (hB : w.heap.size ≤ bI) (hne : bS ≠ bR) (h1 : bI < bS) (h2 : bI < bR) (k : Nat) :
    St w n d bI bS bR P (fun t => if t = k then (-1, -1) else S t) (fun t => if t = k then (-1, -1) else R t) ((((wr.setCell ⟨bS, k * 2, none⟩ (.int .i64 (-1))).setCell ⟨bS, k * 2 + 1, none⟩ (.int .i64 (-1))).setCell ⟨bR, k * 2, none⟩ (.int .i64 (-1))).setCell ⟨bR, k * 2 + 1, none⟩ (.int .i64 (-1))) := by
  refine ⟨?_, ?_, ?_, ?_⟩
  · exact World.rowIs.setOther (World.rowIs.setOther (World.rowIs.setOther (World.rowIs.setOther h.hI (by simp; omega) _) (by simp; omega) _) (by simp; omega) _) (by simp; omega) _
  · refine ((((h.hS.set0 k (-1)).set1 k (-1)).setOther (by simpa using hne) _).setOther (by simpa using hne) _).congr (fun y hy => ?_)
    by_cases e : y = k <;> simp [e]
  · refine ((((h.hR.setOther (by simpa using hne.symm) _).setOther (by simpa using hne.symm) _).set0 k (-1)).set1 k (-1)).congr (fun y hy => ?_)
    by_cases e : y = k <;> simp [e]
  · exact (((h.below.setCell (by simp; omega) _).setCell (by simp; omega) _).setCell (by simp; omega) _).setCell (by simp; omega) _

theorem St.addR {w wr w1 : World} {n d bI bS bR k x : Nat} {P : Nat → Bool} {S R : Nat → Int × Int} (h : St w n d bI bS bR P S R wr) (hB : w.heap.size ≤ bI) (hne : bS ≠ bR) (h1 : bI < bS) (h2 : bI < bR) (hT : Two w1 bR d (fun t => if t = k then addT (R k) x else R t)) (hg : wr.grownBy w1 (some bR)) :
    St w n d bI bS bR P S (fun t => if t = k then addT (R k) x else R t) w1 :=
  ⟨World.rowIs.of_block h.hI (hg.block _ (World.rowIs.lt h.hI) (by simp; omega)), h.hS.grown hg (by simpa using hne), hT, h.below.grown hg (by have := World.rowIs.lt h.hI; omega) (fun q hq => by simp at hq; omega)⟩

theorem St.addS {w wr w1 : World} {n d bI bS bR k x : Nat} {P : Nat → Bool} {S R : Nat → Int × Int} (h : St w n d bI bS bR P S R wr) (hB : w.heap.size ≤ bI) (hne : bS ≠ bR) (h1 : bI < bS) (h2 : bI < bR) (hT : Two w1 bS d (fun t => if t = k then addT (S k) x else S t)) (hg : wr.grownBy w1 (some bS)) :
    St w n d bI bS bR P (fun t => if t = k then addT (S k) x else S t) R w1 :=
  ⟨World.rowIs.of_block h.hI (hg.block _ (World.rowIs.lt h.hI) (by simp; omega)), hT, h.hR.grown hg (by simpa using hne.symm), h.below.grown hg (by have := World.rowIs.lt h.hI; omega) (fun q hq => by simp at hq; omega)⟩

theorem St.setI {w wr : World} {n d bI bS bR : Nat} {P : Nat → Bool} {S R : Nat → Int × Int} (h : St w n d bI bS bR P S R wr) (hB : w.heap.size ≤ bI) (h1 : bI < bS) (h2 : bI < bR) (i : Nat) (x : Bool) :
    St w n d bI bS bR (fun j => if j = i then x else P j) S R (wr.setCell ⟨bI, i, none⟩ (.bool x)) :=
  ⟨h.hI.store i x, h.hS.setOther (by simp; omega) _, h.hR.setOther (by simp; omega) _, h.below.setCell (by simp; omega) _⟩

theorem St.alloc {w wr : World} {n d bI bS bR : Nat} {P : Nat → Bool} {S R : Nat → Int × Int} (h : St w n d bI bS bR P S R wr) (hB : w.heap.size ≤ bI) (o : Obj) : St w n d bI bS bR P S R (wr.alloc o) :=
  ⟨World.rowIs.alloc h.hI o, h.hS.alloc o, h.hR.alloc o, h.below.alloc (by have := World.rowIs.lt h.hI; omega) o⟩

/-- A box that holds one pair. -/
theorem Two.box (w : World) (t : Int × Int) : Two (w.alloc (.cells #[.int .i64 t.1, .int .i64 t.2] 64)) w.heap.size 1 (fun _ => t) := by
  refine ⟨fun i => if i = 0 then .int .i64 t.1 else .int .i64 t.2, ⟨_, Deep.blk_alloc_new _ _, rfl, fun i hi => ?_⟩, fun y hy => ?_⟩
  · match i, hi with
    | 0, _ => rfl
    | 1, _ => rfl
  · have : y = 0 := by omega
    subst this
    exact ⟨rfl, rfl⟩

theorem take_snocN {l : List Nat} {j x : Nat} (h : l[j]? = some x) : l.take (j + 1) = l.take j ++ [x] := by
  rw [List.take_add_one, h]; rfl

set_option maxRecDepth 100000 in
set_option maxHeartbeats 4000000 in
/-- (*FlowGraph).unranged -/
theorem unranged26 (g : Nat) (mp : Option Nat) (nv xv bv : Value) (names : List ByteArray) (next : List (List Nat)) (ranged : List ByteArray) (needs : List Bool) (w : World) (hg : g < w.heap.size) (hg2 : w.cell? ⟨g, 2, none⟩ = some nv) (hg5 : w.cell? ⟨g, 5, none⟩ = some xv) (hn : Sl Value.string w w.heap.size nv names) (hx : Sl2 nat64 w w.heap.size xv next) (hb : Sl Value.bool w w.heap.size bv needs)
    (hall : Hid (∀ wx, Below w.heap.size w wx → ∀ s, s.size ≤ maxLen → ∃ x y z, (Instr.lookup 39 (.map mp) (.string s) true).run Try.prog wx = .ok (.tuple #[.agg #[.string x, .string y, .string z], .bool (hasB ranged s)]) wx))
    (hsz : Hid (∀ (i : Nat) s, names[i]? = some s → s.size ≤ maxLen))
    (hs : Hid (Shaped names.length next)) (m1 : names.length ≤ 256) (m2 : next.length ≤ 512) (m4 : needs.length ≤ 4096) (m5 : Hid (∀ (i : Nat) l, next[i]? = some l → l.length ≤ 65536)) :
    Calls Try.prog 26 #[.pointer (some ⟨g, 0, none⟩), .map mp, bv] w (FlowSaid names next ranged needs w) := by
  obtain ⟨a0, c0, rfl⟩ := hn.form
  obtain ⟨a1, c1, rfl⟩ := hx.form
  obtain ⟨a3, c3, rfl⟩ := hb.form
  have hvn := hs.out.1
  obtain ⟨d, hd⟩ : ∃ d, names.length + d = next.length := ⟨next.length - names.length, by omega⟩
  have hdi : (next.length : Int) - (names.length : Int) = (d : Int) := by omega
  have hdw : IntKind.i64.wrap ((next.length : Int) - (names.length : Int)) = (d : Int) := by rw [hdi, IntKind.wrap_i64]; omega
  have hmk := run_make_row' (P := Try.prog) 32 4 (.bool false) 1 Try.underlying32 Try.info4 rfl .i64 .i64 names.length (by omega) (by omega)
  have hmk2 := make62 d (by omega)
  have HG2 : Hid (∀ wx, Below w.heap.size w wx → wx.cell? ⟨g, 2, none⟩ = some (.slice a0 names.length c0)) := fun wx hb => by rw [hb.cell (p := ⟨g, 2, none⟩) hg]; exact hg2
  have HG5 : Hid (∀ wx, Below w.heap.size w wx → wx.cell? ⟨g, 5, none⟩ = some (.slice a1 next.length c1)) := fun wx hb => by rw [hb.cell (p := ⟨g, 5, none⟩) hg]; exact hg5
  have HX : Hid (Sl2 nat64 w w.heap.size (.slice a1 next.length c1) next) := hx
  have HNM : Hid (Sl Value.string w w.heap.size (.slice a0 names.length c0) names) := hn
  have HB : Hid (Sl Value.bool w w.heap.size (.slice a3 needs.length c3) needs) := hb
  clear hn hx hb
  have hi4 : (Try.prog.info? 4).map (·.size) = some 1 := by
    obtain ⟨i, hi, hzz⟩ := Option.map_eq_some_iff.1 Try.info4
    simp only [Prod.mk.injEq] at hzz
    rw [hi]
    simp [hzz.2.1]
  go_enter Try.func26, Try.ntmps26
  go_wp2_with (refine wpList_copy_splice rfl _ _ 32 32 rfl 4 Try.underlying32 hi4 _ _ _ _ _ _ rfl rfl w.heap.size 0 (List.replicate names.length (Value.bool false)) 4 ?c1 ((needs.map Value.bool).take names.length) ?c2 ?c3 ?c4 ?c5 w.heap.size w ?c6 (Nat.le_refl _) ?_)
  case c1 =>
    rw [Deep.blk_alloc_new]
    have hcur : madeCells #[Value.bool false] names.length = (List.replicate names.length (Value.bool false)).toArray := by
      apply Array.ext'
      apply List.ext_getElem?
      intro i
      by_cases hi : i < names.length
      · simp [madeCells, hi, Nat.mod_one]
      · simp [madeCells, hi]
    rw [hcur]
  case c2 => simp only [List.length_take, List.length_map]; exact Nat.min_comm _ _
  case c3 =>
    intro hpos
    try simp at hpos
    obtain ⟨y, hy⟩ : ∃ s, needs[0]? = some s := ⟨needs[0]'(by omega), by simp⟩
    obtain ⟨b3, o3, e3, hb3, hc3⟩ := HB.out.place hy
    subst e3
    refine ⟨_, rfl, fun j v hj => ?_⟩
    rw [Addr.add_lit, World.cell?_of_block (w := w) (a := ⟨b3, o3 + j, none⟩) (Deep.blk_alloc_lt _ _ _ hb3)]
    have hlt := lt_of_some hj
    rw [List.getElem?_take, if_pos (by simp at hlt; omega), List.getElem?_map] at hj
    cases hz : needs[j]? with
    | none => rw [hz] at hj; simp at hj
    | some z =>
      rw [hz] at hj
      simp at hj
      subst hj
      exact hc3 j z hz
  case c4 => simp; omega
  case c5 =>
    intro v hv
    have := List.mem_of_mem_take hv
    simp only [List.mem_map] at this
    obtain ⟨z, _, rfl⟩ := this
    rfl
  case c6 => exact (Below.refl _ _).alloc (Nat.le_refl _) _
  intro w1 hrow1 hbel1
  have HI1 : Hid (Bls w1 w.heap.size names.length (fun p => needs.getD p false)) := bls_copied hrow1.out
  have HBEL1 : Hid (Below w.heap.size w w1) := hbel1
  have hlt1 := World.rowIs.lt HI1.out
  have g2 := HG2.out w1 hbel1
  have g5 := HG5.out w1 hbel1
  have g5' : ∀ o, (w1.alloc o).cell? ⟨g, 5, none⟩ = some (.slice a1 next.length c1) := fun o => HG5.out _ (hbel1.alloc (Nat.le_of_lt hlt1) o)
  have hwd : IntKind.i64.wrap (d : Int) = (d : Int) := by rw [IntKind.wrap_i64]; omega
  clear hrow1 hbel1
  go_upto_region 4 with fail
  go_cut [9, 10] (fun s9 s10 wx => ∃ bS bR, s9 = .slice (some ⟨bS, 0, none⟩) d d ∧ s10 = .slice (some ⟨bR, 0, none⟩) d d ∧ bS ≠ bR ∧ w.heap.size < bS ∧ w.heap.size < bR ∧ Hid (St w names.length d w.heap.size bS bR (fun p => needs.getD p false) (fun _ => (0, 0)) (fun _ => (0, 0)) wx))
  case first =>
    go_region
    all_goals (go_wp2_with fail; go_meet)
    all_goals have T1 := ((Two.made w1 d).alloc (.cells (madeCells #[.int .i64 0, .int .i64 0] (d * 2)) 64)).drew
    all_goals have T2 := (Two.made (w1.alloc (.cells (madeCells #[.int .i64 0, .int .i64 0] (d * 2)) 64)) d).drew
    all_goals rw [Deep.nblk_alloc] at T2
    all_goals have T0 := Bls.drew (World.rowIs.alloc (World.rowIs.alloc HI1.out (.cells (madeCells #[.int .i64 0, .int .i64 0] (d * 2)) 64)) (.cells (madeCells #[.int .i64 0, .int .i64 0] (d * 2)) 64))
    all_goals have TB := below_drewN ((HBEL1.out.alloc (Nat.le_of_lt hlt1) (.cells (madeCells #[.int .i64 0, .int .i64 0] (d * 2)) 64)).alloc (by simp; omega) (.cells (madeCells #[.int .i64 0, .int .i64 0] (d * 2)) 64)) 1
    · exact ⟨_, _, rfl, rfl, by omega, hlt1, by omega, ⟨T0, T1, T2, TB⟩⟩
    · exact ⟨_, _, rfl, rfl, by omega, by omega, hlt1, ⟨T0, T2, T1, TB⟩⟩
  case rest =>
  obtain ⟨bS, bR, rfl, rfl, hne, hS, hR, HST⟩ := hcut
  clear HI1 HBEL1 hlt1 g2 g5 g5' hwd hmk hmk2 hi4
  go_wp2
  go_loopw [58] (fun i wr => ∃ (k : Nat) (S R : Nat → Int × Int), k ≤ d ∧ i = .int .i64 k ∧ Hid (St w names.length d w.heap.size bS bR (fun p => needs.getD p false) S R wr) ∧ Hid (∀ y, y < k → S y = (-1, -1) ∧ R y = foldT (next.getD (names.length + y) []))) (fun i _ => d - (intOf i).toNat)
  case atStart =>
    exact ⟨0, _, _, Nat.zero_le _, rfl, HST, fun y hy => by omega⟩
  case round =>
    obtain ⟨k, S, R, hk, rfl, HST1, HK⟩ := hrel
    have g2 := HG2.out wr HST1.out.below
    have g5 := HG5.out wr HST1.out.below
    by_cases hlt : k < d
    · have s0 := HST1.out.hS.cell0 hlt
      have s1 := HST1.out.hS.cell1 hlt
      have f0 := HST1.out.hS.frozen (k * 2)
      have f1 := HST1.out.hS.frozen (k * 2 + 1)
      have r0 := HST1.out.hR.cell0 hlt
      have r1 := HST1.out.hR.cell1 hlt
      have e0 := HST1.out.hR.frozen (k * 2)
      have e1 := HST1.out.hR.frozen (k * 2 + 1)
      obtain ⟨q, hq⟩ : ∃ q, names.length + k = q := ⟨_, rfl⟩
      have hqi : (names.length : Int) + (k : Int) = (q : Int) := by omega
      have hqn : q < next.length := by omega
      obtain ⟨l, hl⟩ : ∃ s, next[q]? = some s := ⟨next[q], by simp [hqn]⟩
      obtain ⟨b, o, rfl, hb, hc⟩ := HX.out.place hl
      obtain ⟨a', c', hcell0, hsl⟩ := hc q l hl
      have hcell : wr.cell? ⟨b, o + q, none⟩ = some (.slice a' l.length c') := by rw [HST1.out.below.cell (p := ⟨b, o + q, none⟩) hb]; exact hcell0
      have hll := m5.out q l hl
      have HL : Hid (next[q]? = some l) := hl
      have HLD : Hid (next.getD (names.length + k) [] = l) := by show _ = _; rw [hq]; simp [hl]
      have HSL : Hid (Sl nat64 w w.heap.size (.slice a' l.length c') l) := hsl
      have HX2 : Hid (∀ (t x : Nat), l[t]? = some x → x < names.length) := fun t x hx => (hs.out.2 q l x hl (List.mem_of_getElem? hx)).2 (by omega)
      have HST2 := HST1.out.four (Nat.le_refl _) hne hS hR k
      have HST2 : Hid (St w names.length d w.heap.size bS bR (fun p => needs.getD p false) (fun t => if t = k then (-1, -1) else S t) (fun t => if t = k then (-1, -1) else R t) ((((wr.setCell ⟨bS, k * 2, none⟩ (.int .i64 (-1))).setCell ⟨bS, k * 2 + 1, none⟩ (.int .i64 (-1))).setCell ⟨bR, k * 2, none⟩ (.int .i64 (-1))).setCell ⟨bR, k * 2 + 1, none⟩ (.int .i64 (-1)))) := HST2
      clear hc hl hcell0 hsl
      go_wp2
      clear hcell s0 s1 f0 f1 r0 r1 e0 e1 g2 g5
      obtain ⟨wo, rfl⟩ : ∃ x, x = wr := ⟨wr, rfl⟩
      go_loopw [79] (fun i wr => ∃ (j : Nat) (S R : Nat → Int × Int), j ≤ l.length ∧ i = .int .i64 j ∧ Hid (St w names.length d w.heap.size bS bR (fun p => needs.getD p false) S R wr) ∧ Hid (∀ y, y < k → S y = (-1, -1) ∧ R y = foldT (next.getD (names.length + y) [])) ∧ Hid (S k = (-1, -1) ∧ R k = foldT (l.take j))) (fun i _ => l.length - (intOf i).toNat)
      case atStart =>
        refine ⟨0, _, _, Nat.zero_le _, rfl, HST2, fun y hy => ?_, ?_⟩
        · have := HK.out y hy
          try dsimp only
          rw [if_neg (by omega), if_neg (by omega)]
          exact this
        · try dsimp only
          exact ⟨if_pos rfl, if_pos rfl⟩
      case round =>
        obtain ⟨j, S', R', hj, rfl, HST3, HK3, HKK⟩ := hrel
        by_cases hjl : j < l.length
        · obtain ⟨x, hxx⟩ : ∃ s, l[j]? = some s := ⟨l[j], by simp [hjl]⟩
          obtain ⟨b2, o2, rfl, hb2, hc2⟩ := HSL.out.place hxx
          have x2 : wr.cell? ⟨b2, o2 + j, none⟩ = some (.int .i64 (x : Int)) := by rw [HST3.out.below.cell (p := ⟨b2, o2 + j, none⟩) hb2]; exact hc2 j x hxx
          have hxn := HX2.out j x hxx
          have HXX : Hid (l[j]? = some x) := hxx
          have hbd : -1 ≤ (R' k).1 ∧ (R' k).1 ≤ 1000 ∧ -1 ≤ (R' k).2 ∧ (R' k).2 ≤ 1000 := by
            rw [HKK.out.2]
            exact foldT_bound _ 1000 (by omega) (fun y hy => by
              obtain ⟨t, ht⟩ := List.getElem?_of_mem (List.mem_of_mem_take hy)
              have := HX2.out t y ht
              omega)
          clear hc2 hxx
          go_wp2_with fail
          refine (add30 bR d k x R' wr HST3.out.hR hlt hbd (by omega)).mono ?_
          rintro e w1 ⟨rfl, hT, hgr, hsz'⟩
          have R1 : Hid (St w names.length d w.heap.size bS bR (fun p => needs.getD p false) S' (fun t => if t = k then addT (R' k) x else R' t) w1) := HST3.out.addR (Nat.le_refl _) hne hS hR hT hgr
          clear hT hgr
          go_wp2
          go_roundw
          case rel =>
            refine ⟨j + 1, _, _, by omega, by go_num, R1, fun y hy => ?_, ?_⟩
            · have := HK3.out y hy
              try dsimp only
              rw [if_neg (by omega)]
              exact this
            · refine ⟨HKK.out.1, ?_⟩
              try dsimp only
              rw [if_pos rfl, HKK.out.2, take_snocN HXX.out, foldT_snoc]
          case measure => simp [intOf]; omega
        · have hje : j = l.length := by omega
          subst hje
          go_wp2
          go_roundw
          case rel =>
            refine ⟨k + 1, S', R', by omega, by go_num, HST3, fun y hy => ?_⟩
            by_cases e : y = k
            · subst e
              rw [HLD.out]
              have := HKK.out
              rw [List.take_length] at this
              exact this
            · exact HK3.out y (by omega)
          case measure => simp [intOf]; omega
    · have hke : d = k := by omega
      subst hke
      have HRR : Hid (∀ y, y < d → R y = foldT (next.getD (names.length + y) [])) := fun y hy => (HK.out y hy).2
      have HSS : Hid (∀ y, y < d → S y = (-1, -1)) := fun y hy => (HK.out y hy).1
      clear hlt hk HST HK
      go_wp2
      clear g2 g5
      obtain ⟨wo, rfl⟩ : ∃ x, x = wr := ⟨wr, rfl⟩
      go_loopw [95] (fun i wr => ∃ (u : Nat) (P : Nat → Bool) (S : Nat → Int × Int), u ≤ names.length ∧ i = .int .i64 u ∧ Hid (St w names.length d w.heap.size bS bR P S R wr) ∧ Hid (InvP names.length next needs (fun a x => a < u ∧ Ed next a x) P) ∧ Hid (InvS names.length d (fun a x => a < u ∧ Ed next a x) S)) (fun i _ => names.length - (intOf i).toNat)
      case atStart =>
        exact ⟨0, _, _, Nat.zero_le _, rfl, HST1, InvP.start (fun p hp => rfl) [], InvS.start HSS.out⟩
      case round =>
        obtain ⟨u, P, S, hu, rfl, HST2, HP, HS⟩ := hrel
        have g2 := HG2.out wr HST2.out.below
        have g5 := HG5.out wr HST2.out.below
        by_cases hun : u < names.length
        · have hqn : u < next.length := by omega
          obtain ⟨l, hl⟩ : ∃ s, next[u]? = some s := ⟨next[u], by simp [hqn]⟩
          obtain ⟨b, o, rfl, hb, hc⟩ := HX.out.place hl
          obtain ⟨a', c', hcell0, hsl⟩ := hc u l hl
          have hcell : wr.cell? ⟨b, o + u, none⟩ = some (.slice a' l.length c') := by rw [HST2.out.below.cell (p := ⟨b, o + u, none⟩) hb]; exact hcell0
          have hll := m5.out u l hl
          have HL : Hid (next[u]? = some l) := hl
          have HSL : Hid (Sl nat64 w w.heap.size (.slice a' l.length c') l) := hsl
          have HX2 : Hid (∀ (t x : Nat), l[t]? = some x → x < next.length) := fun t x hx => (hs.out.2 u l x hl (List.mem_of_getElem? hx)).1
          clear hc hl hcell0 hsl
          go_wp2
          clear hcell g2 g5
          obtain ⟨wq, rfl⟩ : ∃ x, x = wr := ⟨wr, rfl⟩
          go_loopw [106] (fun i wr => ∃ (j : Nat) (P : Nat → Bool) (S : Nat → Int × Int), j ≤ l.length ∧ i = .int .i64 j ∧ Hid (St w names.length d w.heap.size bS bR P S R wr) ∧ Hid (InvP names.length next needs (Dn next u l j) P) ∧ Hid (InvS names.length d (Dn next u l j) S)) (fun i _ => l.length - (intOf i).toNat)
          case atStart =>
            exact ⟨0, P, S, Nat.zero_le _, rfl, HST2, HP.out.congr (fun a x => Dn.zero.symm), HS.out.congr (fun a x => Dn.zero.symm)⟩
          case round =>
            obtain ⟨j, P, S, hj, rfl, HST3, HP3, HS3⟩ := hrel
            by_cases hjl : j < l.length
            · obtain ⟨x, hxx⟩ : ∃ s, l[j]? = some s := ⟨l[j], by simp [hjl]⟩
              obtain ⟨b2, o2, rfl, hb2, hc2⟩ := HSL.out.place hxx
              have x2 : wr.cell? ⟨b2, o2 + j, none⟩ = some (.int .i64 (x : Int)) := by rw [HST3.out.below.cell (p := ⟨b2, o2 + j, none⟩) hb2]; exact hc2 j x hxx
              have hxn := HX2.out j x hxx
              have HD : Hid (∀ a y, Dn next u l (j + 1) a y ↔ Dn next u l j a y ∨ (a = u ∧ y = x)) := fun a y => Dn.succ hxx
              clear hc2 hxx
              by_cases hxu : x = u
              · subst hxu
                go_wp2
                go_roundw
                case rel => exact ⟨j + 1, P, S, by omega, by go_num, HST3, HP3.out.self hun HD.out, HS3.out.near hun HD.out⟩
                case measure => simp [intOf]; omega
              · have hxui : ¬ (x : Int) = (u : Int) := by omega
                by_cases hxv : x < names.length
                · have HST4 : Hid (St w names.length d w.heap.size bS bR (fun p => if p = x then true else if p = u then true else P p) S R ((wr.setCell ⟨w.heap.size, u, none⟩ (.bool true)).setCell ⟨w.heap.size, x, none⟩ (.bool true))) := (HST3.out.setI (Nat.le_refl _) hS hR u true).setI (Nat.le_refl _) hS hR x true
                  have HP4 : Hid (InvP names.length next needs (Dn next u l (j + 1)) (fun p => if p = x then true else if p = u then true else P p)) := HP3.out.direct hxv hxu HD.out
                  have HS4 : Hid (InvS names.length d (Dn next u l (j + 1)) S) := HS3.out.near hxv HD.out
                  have ca := World.rowIs.cell HST3.out.hI hun
                  have fa := World.rowIs.frozen HST3.out.hI u
                  have cb := World.rowIs.cell HST3.out.hI hxv
                  have fb := World.rowIs.frozen HST3.out.hI x
                  go_wp2
                  go_roundw
                  case rel => exact ⟨j + 1, _, _, by omega, by go_num, HST4, HP4, HS4⟩
                  case measure => simp [intOf]; omega
                · obtain ⟨z, hz⟩ : ∃ z, names.length + z = x := ⟨x - names.length, by omega⟩
                  have hzi : (x : Int) - (names.length : Int) = (z : Int) := by omega
                  have hzd : z < d := by omega
                  have hbd : -1 ≤ (S z).1 ∧ (S z).1 ≤ 1000 ∧ -1 ≤ (S z).2 ∧ (S z).2 ≤ 1000 := by
                    have := HS3.out.bound 256 (fun a y h => by rcases h with ⟨h, _⟩ | ⟨h, _⟩ <;> omega) z hzd
                    omega
                  go_wp2_with fail
                  refine (add30 bS d z u S wr HST3.out.hS hzd hbd (by omega)).mono ?_
                  rintro e w1 ⟨rfl, hT, hgr, hsz'⟩
                  have HST4 : Hid (St w names.length d w.heap.size bS bR P (fun t => if t = z then addT (S z) u else S t) R w1) := HST3.out.addS (Nat.le_refl _) hne hS hR hT hgr
                  have HS4 : Hid (InvS names.length d (Dn next u l (j + 1)) (fun t => if t = z then addT (S z) u else S t)) := HS3.out.far hz HD.out
                  obtain ⟨l', hl'⟩ : ∃ s, next[x]? = some s := ⟨next[x], by simp [hxn]⟩
                  have HRZ : Hid (R z = foldT l') := by show _ = _; rw [HRR.out z hzd, hz]; simp [hl']
                  have HP4 : Hid (InvP names.length next needs (Dn next u l (j + 1)) (fun p => if p = u then (P u || otherT (R z) u) else P p)) := by
                    have := HP3.out.far hun (by omega) hl' HD.out
                    rw [← HRZ.out] at this
                    exact this
                  have hbr : -1 ≤ (R z).1 ∧ (R z).1 ≤ 1000 ∧ -1 ≤ (R z).2 ∧ (R z).2 ≤ 1000 := by
                    rw [HRZ.out]
                    exact foldT_bound _ 1000 (by omega) (fun y hy => by
                      have := (hs.out.2 x l' y hl' hy).1
                      omega)
                  have ca := World.rowIs.cell HST4.out.hI hun
                  have fa := World.rowIs.frozen HST4.out.hI u
                  have r0 := HST4.out.hR.cell0 hzd
                  have r1 := HST4.out.hR.cell1 hzd
                  clear hT hgr hl'
                  cases hPu : P u with
                  | true =>
                    rw [hPu] at ca HP4
                    have HST5 := HST4.out.setI (Nat.le_refl _) hS hR u true
                    have HST5 : Hid (St w names.length d w.heap.size bS bR (fun p => if p = u then true else P p) (fun t => if t = z then addT (S z) u else S t) R (w1.setCell ⟨w.heap.size, u, none⟩ (.bool true))) := HST5
                    go_wp2
                    go_roundw
                    case rel => exact ⟨j + 1, _, _, by omega, by go_num, HST5, HP4, HS4⟩
                    case measure => simp [intOf]; omega
                  | false =>
                    rw [hPu] at ca HP4
                    go_wp2_with fail
                    refine (other31 (R z) u w1 hbr (by omega)).mono ?_
                    rintro e w2 ⟨rfl, o', rfl⟩
                    have HST5 := (HST4.out.alloc (Nat.le_refl _) o').setI (Nat.le_refl _) hS hR u (otherT (R z) u)
                    have HST5 : Hid (St w names.length d w.heap.size bS bR (fun p => if p = u then otherT (R z) u else P p) (fun t => if t = z then addT (S z) u else S t) R ((w1.alloc o').setCell ⟨w.heap.size, u, none⟩ (.bool (otherT (R z) u)))) := HST5
                    have ca := World.rowIs.cell (HST4.out.alloc (Nat.le_refl _) o').hI hun
                    have fa := World.rowIs.frozen (HST4.out.alloc (Nat.le_refl _) o').hI u
                    rw [hPu] at ca
                    go_wp2
                    go_roundw
                    case rel => exact ⟨j + 1, _, _, by omega, by go_num, HST5, HP4, HS4⟩
                    case measure => simp [intOf]; omega
            · have hje : j = l.length := by omega
              subst hje
              go_wp2
              go_roundw
              case rel => exact ⟨u + 1, P, S, by omega, by go_num, HST3, HP3.out.congr (fun a x => Dn.last HL.out), HS3.out.congr (fun a x => Dn.last HL.out)⟩
              case measure => simp [intOf]; omega
        · have hue : u = names.length := by omega
          subst hue
          clear hun hu HST1
          go_wp2
          clear g2 g5
          have HIS : Hid (InvS names.length d (fun a x => a < names.length ∧ Ed next a x) S) := HS
          have HST2' : Hid (St w names.length d w.heap.size bS bR P S R wr) := HST2
          clear HSS HRR HS
          obtain ⟨wq, rfl⟩ : ∃ x, x = wr := ⟨wr, rfl⟩
          go_loopw [152] (fun i wr => ∃ (k : Nat) (P : Nat → Bool), k ≤ d ∧ i = .int .i64 k ∧ Hid (St w names.length d w.heap.size bS bR P S R wr) ∧ Hid (Inv3 names.length next needs (fun a x => a < names.length + k ∧ Ed next a x) P)) (fun i _ => d - (intOf i).toNat)
          case atStart =>
            exact ⟨0, P, Nat.zero_le _, rfl, HST2, Inv3.start HP.out (fun x p h => h.1)⟩
          case round =>
            obtain ⟨k, P, hk, rfl, HST3, HP3⟩ := hrel
            have g2 := HG2.out wr HST3.out.below
            have g5 := HG5.out wr HST3.out.below
            by_cases hlt : k < d
            · obtain ⟨q, hq⟩ : ∃ q, names.length + k = q := ⟨_, rfl⟩
              have hqi : (names.length : Int) + (k : Int) = (q : Int) := by omega
              have hqn : q < next.length := by omega
              obtain ⟨l, hl⟩ : ∃ s, next[q]? = some s := ⟨next[q], by simp [hqn]⟩
              obtain ⟨b, ob, rfl, hb, hc⟩ := HX.out.place hl
              obtain ⟨a', c', hcell0, hsl⟩ := hc q l hl
              have hcell : wr.cell? ⟨b, ob + q, none⟩ = some (.slice a' l.length c') := by rw [HST3.out.below.cell (p := ⟨b, ob + q, none⟩) hb]; exact hcell0
              have hll := m5.out q l hl
              have HL : Hid (next[q]? = some l) := hl
              have HSL : Hid (Sl nat64 w w.heap.size (.slice a' l.length c') l) := hsl
              have HX2 : Hid (∀ (t x : Nat), l[t]? = some x → x < names.length) := fun t x hx => (hs.out.2 q l x hl (List.mem_of_getElem? hx)).2 (by omega)
              have s0 := HST3.out.hS.cell0 hlt
              have s1 := HST3.out.hS.cell1 hlt
              have hws := World.rowIs.lt HST3.out.hI
              have hbel' : ∀ o, Below w.heap.size w (wr.alloc o) := fun o => HST3.out.below.alloc (by omega) o
              have g5' : ∀ o, (wr.alloc o).cell? ⟨g, 5, none⟩ = some (.slice (some ⟨b, ob, none⟩) next.length c1) := fun o => HG5.out _ (hbel' o)
              have hcell' : ∀ o1, (wr.alloc o1).cell? ⟨b, ob + q, none⟩ = some (.slice a' l.length c') := fun o1 => by rw [(hbel' o1).cell (p := ⟨b, ob + q, none⟩) hb]; exact hcell0
              obtain ⟨L, hL, hLm⟩ := HIS.out k hlt
              have HLS : Hid (S k = foldT L) := hL
              have HLM : Hid (∀ a, a ∈ L ↔ a < names.length ∧ Ed next a q) := by rw [hq] at hLm; exact hLm
              have hbd : -1 ≤ (S k).1 ∧ (S k).1 ≤ 1000 ∧ -1 ≤ (S k).2 ∧ (S k).2 ≤ 1000 := by
                have := HIS.out.bound 256 (fun a y h => by omega) k hlt
                omega
              have HST4 : Hid (St w names.length d w.heap.size bS bR P S R (wr.alloc (.cells #[.int .i64 (S k).1, .int .i64 (S k).2] 64))) := HST3.out.alloc (Nat.le_refl _) _
              have HBX : Hid (Two (wr.alloc (.cells #[.int .i64 (S k).1, .int .i64 (S k).2] 64)) wr.heap.size 1 (fun _ => S k)) := Two.box wr (S k)
              clear hc hl hcell0 hsl hbel' hL hLm
              go_wp2
              clear hcell hcell' g5' g2 g5 s0 s1
              obtain ⟨wx, rfl⟩ : ∃ x, x = wr := ⟨wr, rfl⟩
              go_loopw [167] (fun i wr => ∃ (j : Nat) (P : Nat → Bool), j ≤ l.length ∧ i = .int .i64 j ∧ Hid (St w names.length d w.heap.size bS bR P S R wr) ∧ Hid (Two wr wx.heap.size 1 (fun _ => S k)) ∧ Hid (Inv3 names.length next needs (Dn next q l j) P)) (fun i _ => l.length - (intOf i).toNat)
              case atStart =>
                exact ⟨0, P, Nat.zero_le _, rfl, HST4, HBX, HP3.out.congr (fun a x => by rw [hq]; exact Dn.zero.symm)⟩
              case round =>
                obtain ⟨j, P, hj, rfl, HST5, HBX5, HP5⟩ := hrel
                by_cases hjl : j < l.length
                · obtain ⟨x, hxx⟩ : ∃ s, l[j]? = some s := ⟨l[j], by simp [hjl]⟩
                  obtain ⟨b2, o2, rfl, hb2, hc2⟩ := HSL.out.place hxx
                  have x2 : wr.cell? ⟨b2, o2 + j, none⟩ = some (.int .i64 (x : Int)) := by rw [HST5.out.below.cell (p := ⟨b2, o2 + j, none⟩) hb2]; exact hc2 j x hxx
                  have hxn := HX2.out j x hxx
                  have HD : Hid (∀ a y, Dn next q l (j + 1) a y ↔ Dn next q l j a y ∨ (a = q ∧ y = x)) := fun a y => Dn.succ hxx
                  have ca := World.rowIs.cell HST5.out.hI hxn
                  have fa := World.rowIs.frozen HST5.out.hI x
                  have t0 := HBX5.out.cell0 (y := 0) (by omega)
                  have t1 := HBX5.out.cell1 (y := 0) (by omega)
                  simp only [Nat.zero_mul, Nat.zero_add] at t0 t1
                  have HP6 : Hid (Inv3 names.length next needs (Dn next q l (j + 1)) (fun p => if p = x then (P x || otherT (S k) x) else P p)) := by
                    have := HP5.out.step (x := q) (y := x) (L := L) (by omega) HLM.out HD.out
                    rw [← HLS.out] at this
                    exact this
                  clear hc2 hxx
                  cases hPu : P x with
                  | true =>
                    rw [hPu] at ca HP6
                    have HST6 := HST5.out.setI (Nat.le_refl _) hS hR x true
                    have HST6 : Hid (St w names.length d w.heap.size bS bR (fun p => if p = x then true else P p) S R (wr.setCell ⟨w.heap.size, x, none⟩ (.bool true))) := HST6
                    have HBX6 : Hid (Two (wr.setCell ⟨w.heap.size, x, none⟩ (.bool true)) wx.heap.size 1 (fun _ => S k)) := HBX5.out.setOther (by simp; omega) _
                    go_wp2
                    go_roundw
                    case rel => exact ⟨j + 1, _, by omega, by go_num, HST6, HBX6, HP6⟩
                    case measure => simp [intOf]; omega
                  | false =>
                    rw [hPu] at ca HP6
                    go_wp2_with fail
                    refine (other31 (S k) x wr hbd (by omega)).mono ?_
                    rintro e w2 ⟨rfl, o', rfl⟩
                    have HST6 := (HST5.out.alloc (Nat.le_refl _) o').setI (Nat.le_refl _) hS hR x (otherT (S k) x)
                    have HST6 : Hid (St w names.length d w.heap.size bS bR (fun p => if p = x then otherT (S k) x else P p) S R ((wr.alloc o').setCell ⟨w.heap.size, x, none⟩ (.bool (otherT (S k) x)))) := HST6
                    have HBX6 : Hid (Two ((wr.alloc o').setCell ⟨w.heap.size, x, none⟩ (.bool (otherT (S k) x))) wx.heap.size 1 (fun _ => S k)) := (HBX5.out.alloc o').setOther (by simp; omega) _
                    have ca := World.rowIs.cell (HST5.out.alloc (Nat.le_refl _) o').hI hxn
                    have fa := World.rowIs.frozen (HST5.out.alloc (Nat.le_refl _) o').hI x
                    rw [hPu] at ca
                    go_wp2
                    go_roundw
                    case rel => exact ⟨j + 1, _, by omega, by go_num, HST6, HBX6, HP6⟩
                    case measure => simp [intOf]; omega
                · have hje : j = l.length := by omega
                  subst hje
                  go_wp2
                  go_roundw
                  case rel => exact ⟨k + 1, P, by omega, by go_num, HST5, HP5.out.congr (fun a x => by rw [Dn.last HL.out, ← hq]; simp [Nat.add_assoc])⟩
                  case measure => simp [intOf]; omega
            · have hke : d = k := by omega
              subst hke
              have HFIN : Hid (∀ p, p < names.length → (P p = true ↔ needs.getD p false = true ∨ Party names.length next p)) := fun p hp => HP3.out.fin hs.out (fun x p hx => ⟨fun h => h.2, fun h => ⟨by have := (hs.out.lt h).1; omega, h⟩⟩) p hp
              clear hlt hk HP3 HIS HST2 HST2' HP
              obtain ⟨keep, hkeep⟩ : ∃ keep, keep = keepB names ranged P := ⟨_, rfl⟩
              have HK : Hid (KeepOK names next ranged needs keep) := by
                show KeepOK _ _ _ _ _
                rw [hkeep]
                exact keepB_ok HFIN.out
              have HKP : Hid (∀ p, keep p = (P p && !hasB ranged (names.getD p ByteArray.empty))) := by
                intro p; rw [hkeep, keepB]
              have HPI : Hid (Bls wr w.heap.size names.length P) := HST3.out.hI
              have HBEL : Hid (Below w.heap.size w wr) := HST3.out.below
              clear hkeep HFIN HST3
              obtain ⟨i0, hi, hz0, hz1, hz2⟩ : ∃ i0, Try.prog.info? 9 = some i0 ∧ i0.zero = some (.string ByteArray.empty) ∧ i0.size = 1 ∧ i0.bytes = 16 := by
                have h := Try.info9
                cases hh : Try.prog.info? 9 with
                | none => rw [hh] at h; simp at h
                | some i0 => rw [hh] at h; simp at h; exact ⟨i0, rfl, h.1, h.2.1, h.2.2⟩
              go_wp2
              clear g2 g5
              obtain ⟨wx, rfl⟩ : ∃ x, x = wr := ⟨wr, rfl⟩
              go_loopw [21, 190] (fun u i wr => ∃ (p : Nat), p ≤ names.length ∧ i = .int .i64 p ∧ Hid (wr.ownsRow w.heap.size 9 1 u (outTo names keep p).length ((outTo names keep p).map Value.string)) ∧ Hid (outTo names keep p = [] → u = .slice none 0 0) ∧ Hid (∀ q, u.ownBlock = some q → w.heap.size < q) ∧ Hid (Bls wr w.heap.size names.length P) ∧ Hid (Below w.heap.size w wr)) (fun _ i _ => names.length - (intOf i).toNat)
              case atStart =>
                exact ⟨0, Nat.zero_le _, rfl, World.ownsRow_nil _ _ _ _, fun _ => rfl, (fun q hq => by cases hq), HPI, HBEL⟩
              case round =>
                obtain ⟨p, hp, rfl, HOWN, HNIL, HAB, HP, HBEL⟩ := hrel
                have hol := outTo_len names keep p
                by_cases hpv : p < names.length
                · obtain ⟨s, hs'⟩ : ∃ s, names[p]? = some s := ⟨names[p], by simp [hpv]⟩
                  obtain ⟨b, ob, rfl, hb, hc⟩ := HNM.out.place hs'
                  have hcell : wr.cell? ⟨b, ob + p, none⟩ = some (.string s) := by rw [HBEL.out.cell (p := ⟨b, ob + p, none⟩) hb]; exact hc p s hs'
                  have HS : Hid (names.getD p ByteArray.empty = s) := by show _ = _; simp [hs']
                  have hkp : Hid (keep p = (P p && !hasB ranged s)) := by have := HKP.out p; rw [HS.out] at this; exact this
                  obtain ⟨x, y, z, hlook⟩ := hall.out wr HBEL.out s (hsz.out p s hs')
                  have hlw := World.rowIs.lt HP.out
                  have cp := World.rowIs.cell HP.out hpv
                  have cp' : ∀ o, (wr.alloc o).cell? ⟨w.heap.size, p, none⟩ = some (.bool (P p)) := fun o => World.rowIs.cell (World.rowIs.alloc HP.out o) hpv
                  clear hc hs'
                  have HOWN2 : Hid (∀ o, (wr.alloc o).ownsRow w.heap.size 9 1 u21 (outTo names keep p).length ((outTo names keep p).map Value.string)) := fun o => HOWN.out.alloc o
                  have HP2 : Hid (∀ o, Bls (wr.alloc o) w.heap.size names.length P) := fun o => World.rowIs.alloc HP.out o
                  have HBEL2 : Hid (∀ o, Below w.heap.size w (wr.alloc o)) := fun o => HBEL.out.alloc (Nat.le_of_lt hlw) o
                  cases hPm : P p with
                  | false =>
                    rw [hPm] at cp
                    simp only [hPm] at cp'
                    have HO : Hid (outTo names keep (p + 1) = outTo names keep p) := outTo_no (by have := hkp.out; rw [hPm] at this; simpa using this)
                    go_wp2
                    go_roundw
                    case rel =>
                      refine ⟨p + 1, by omega, by go_num, ?_, ?_, HAB, HP2.out _, HBEL2.out _⟩
                      · rw [HO.out]; exact HOWN2.out _
                      · rw [HO.out]; exact HNIL
                    case measure => simp [intOf]; omega
                  | true =>
                    rw [hPm] at cp
                    simp only [hPm] at cp'
                    cases hh : hasB ranged s with
                    | true =>
                      rw [hh] at hlook
                      have HO : Hid (outTo names keep (p + 1) = outTo names keep p) := outTo_no (by have := hkp.out; rw [hPm, hh] at this; simpa using this)
                      clear hh
                      go_wp2
                      go_roundw
                      case rel =>
                        refine ⟨p + 1, by omega, by go_num, ?_, ?_, HAB, HP2.out _, HBEL2.out _⟩
                        · rw [HO.out]; exact HOWN2.out _
                        · rw [HO.out]; exact HNIL
                      case measure => simp [intOf]; omega
                    | false =>
                      rw [hh] at hlook
                      have HO : Hid (outTo names keep (p + 1) = outTo names keep p ++ [s]) := by
                        have := outTo_yes (names := names) (keep := keep) (k := p) (by rw [hkp.out, hPm, hh]; rfl)
                        rw [HS.out] at this
                        exact this
                      clear hh
                      go_wp2_with (at_builtin; refine wpList_append_own2 _ rfl _ _ 24 rfl w.heap.size 9 i0 (.string ByteArray.empty) 1 16 Try.underlying24 hi hz0 hz1 hz2 rfl (by decide) _ _ _ rfl ((HOWN2.out _).alloc _) ⟨wr.heap.size + 1, 0, none⟩ 1 1 [.string s] (by decide) rfl rfl ?c1 ?c2 ?c3 ?c4 ?c5 ?_)
                      case c1 =>
                        have := cell_one_new (wr.alloc (.cells #[.string x, .string y, .string z] 57)) (.string s) 9
                        simpa using this
                      case c2 => intro u hu; simp at hu; subst hu; rfl
                      case c3 => unfold maxLen; omega
                      case c4 => omega
                      case c5 => simp; omega
                      intro v1 w1 hown1 hgrow1 hor1
                      have hblt := fun q hq => ((HOWN2.out (.cells #[.string x, .string y, .string z] 57)).lt q hq)
                      have R1 : Hid (w1.ownsRow w.heap.size 9 1 v1 (outTo names keep (p + 1)).length ((outTo names keep (p + 1)).map Value.string)) := by
                        show World.ownsRow _ _ _ _ _ _ _
                        rw [HO.out, List.map_append, List.length_append]
                        exact hown1
                      have R2 : Hid (outTo names keep (p + 1) = [] → v1 = .slice none 0 0) := by
                        intro h; rw [HO.out] at h; simp at h
                      have R3 : Hid (∀ q, v1.ownBlock = some q → w.heap.size < q) := by
                        intro q hq
                        rcases hor1 with h | h
                        · exact HAB.out q (by rw [← h]; exact hq)
                        · rw [h] at hq; simp at hq; omega
                      have R4 : Hid (Bls w1 w.heap.size names.length P) := by
                        refine World.rowIs.of_block (World.rowIs.alloc (HP2.out _) _) (hgrow1.block _ (by simp; omega) ?_)
                        intro h
                        have := HAB.out _ h.symm
                        omega
                      have R5 : Hid (Below w.heap.size w w1) := ((HBEL2.out _).alloc (by simp; omega) _).grown hgrow1 (by simp; omega) (fun q hq => (hblt q hq).1)
                      clear hown1 hgrow1 hor1 hblt
                      go_wp2
                      go_roundw
                      case rel => exact ⟨p + 1, by omega, by go_num, R1, R2, R3, R4, R5⟩
                      case measure => simp [intOf]; omega
                · have hpe : p = names.length := by omega
                  subst hpe
                  go_wp2
                  go_ret
                  exact ⟨_, keep, rfl, HK.out, HOWN.out, HNIL.out, HBEL.out⟩

end Go.Proofs.Qxb6601388a
