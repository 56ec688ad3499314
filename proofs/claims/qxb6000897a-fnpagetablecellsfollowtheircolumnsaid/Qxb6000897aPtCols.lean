import Derived.Test.Qxb6000897aPtClones
import Derived.Deep.RegionWith
namespace Go.Proofs.Qxb6000897a
open Go.RowKit
set_option linter.unusedVariables false

theorem Try.info56 : (Try.prog.info? 56).map (fun i => (i.zero, i.size, i.bytes)) = some (some (.agg #[.string ByteArray.empty, .string ByteArray.empty, .bool false]), 3, 40) := by kernel_rfl

/-- pickStringCmdB1 -/
theorem pick30 (v : Value) (ss : List ByteArray) (j : Nat) (s : ByteArray) (w : World) (B : Nat) (h : Sl Value.string w B v ss) (hsv : Hid (ss.getD j ByteArray.empty = s)) (hj : j ≤ 1048576) (hm : ss.length ≤ 1048576) :
    Calls Try.prog 30 #[v, .int .i64 j] w fun e w' => e = .returned (.string s) ∧ w = w' := by
  rw [← hsv.out]
  clear hsv s
  obtain ⟨a, c, rfl⟩ := h.form
  by_cases hlt : j < ss.length
  · obtain ⟨s, hs⟩ : ∃ z, ss[j]? = some z := ⟨ss[j], by simp [hlt]⟩
    obtain ⟨b, o, rfl, hb, hc⟩ := h.place hs
    have hcell := hc j s hs
    have HS : Hid (ss.getD j ByteArray.empty = s) := by simp [Hid, hs]
    rw [HS.out]
    clear hc h hs
    go_enter Try.func30, Try.ntmps30
    go_wp2
    go_ret
    exact ⟨rfl, rfl⟩
  · have HS : Hid (ss.getD j ByteArray.empty = ByteArray.empty) := by simp [Hid, List.getElem?_eq_none (show ss.length ≤ j by omega)]
    rw [HS.out]
    go_enter Try.func30, Try.ntmps30
    go_wp2
    go_ret
    exact ⟨rfl, rfl⟩

/-- pickBoolCmdB1 -/
theorem pick23 (v : Value) (ss : List Bool) (j : Nat) (s : Bool) (w : World) (B : Nat) (h : Sl Value.bool w B v ss) (hsv : Hid (ss.getD j false = s)) (hj : j ≤ 1048576) (hm : ss.length ≤ 1048576) :
    Calls Try.prog 23 #[v, .int .i64 j] w fun e w' => e = .returned (.bool s) ∧ w = w' := by
  rw [← hsv.out]
  clear hsv s
  obtain ⟨a, c, rfl⟩ := h.form
  by_cases hlt : j < ss.length
  · obtain ⟨s, hs⟩ : ∃ z, ss[j]? = some z := ⟨ss[j], by simp [hlt]⟩
    obtain ⟨b, o, rfl, hb, hc⟩ := h.place hs
    have hcell := hc j s hs
    have HS : Hid (ss.getD j false = s) := by simp [Hid, hs]
    rw [HS.out]
    clear hc h hs
    go_enter Try.func23, Try.ntmps23
    go_wp2
    go_ret
    exact ⟨rfl, rfl⟩
  · have HS : Hid (ss.getD j false = false) := by simp [Hid, List.getElem?_eq_none (show ss.length ≤ j by omega)]
    rw [HS.out]
    go_enter Try.func23, Try.ntmps23
    go_wp2
    go_ret
    exact ⟨rfl, rfl⟩

/-- ZZMakeColumn -/
theorem col29 (n t : ByteArray) (b : Bool) (w : World) :
    Calls Try.prog 29 #[.string n, .string t, .bool b] w fun e w' => e = .returned (.agg #[.string n, .string t, .bool b]) ∧ w.alloc (.cells #[.string n, .string t, .bool b] 56) = w' := by
  go_enter Try.func29, Try.ntmps29
  go_wp2
  exact bodyPost_ret (v := .agg #[.string n, .string t, .bool b]) (by simp [results, Try.results29, go_sem]) rfl ⟨rfl, rfl⟩

theorem below_drew1 (B : Nat) (w : World) : Below B w w.drew := (Below.refl _ _).drew

theorem rowIs_some (w : World) (c : Array Value) (t : TypeId) (n : Nat) (h : c.size = n) : ∃ F, (w.alloc (.cells c t)).rowIs w.heap.size t n F :=
  ⟨fun i => c[i]?.getD (.bool false), c, Deep.blk_alloc_new _ _, h, fun i hi => by simp [h, hi]⟩

/-- A slice of columns: three cells each. -/
def Cols (w : World) (B : Nat) (v : Value) (ts : List ByteArray) (bs : List Bool) : Prop :=
  ∃ g c, v = .slice (some ⟨g, 0, none⟩) ts.length c ∧ g < B ∧ ∀ j, j < ts.length → (∃ s, w.cell? ⟨g, j * 3, none⟩ = some (.string s)) ∧ w.cell? ⟨g, j * 3 + 1, none⟩ = some (.string (ts.getD j ByteArray.empty)) ∧ w.cell? ⟨g, j * 3 + 2, none⟩ = some (.bool (bs.getD j false))

theorem Cols.below {w w' : World} {B : Nat} {v : Value} {ts : List ByteArray} {bs : List Bool} (h : Cols w B v ts bs) (hb : Below B w w') : Cols w' B v ts bs := by
  obtain ⟨g, c, hv, hg, hc⟩ := h
  refine ⟨g, c, hv, hg, fun j hj => ?_⟩
  rw [hb.cell (p := ⟨g, j * 3, none⟩) hg, hb.cell (p := ⟨g, j * 3 + 1, none⟩) hg, hb.cell (p := ⟨g, j * 3 + 2, none⟩) hg]
  exact hc j hj

theorem Cols.mono {w : World} {B B' : Nat} {v : Value} {ts : List ByteArray} {bs : List Bool} (h : Cols w B v ts bs) (hb : B ≤ B') : Cols w B' v ts bs := by
  obtain ⟨g, c, hv, hg, hc⟩ := h
  exact ⟨g, c, hv, by omega, hc⟩

/-- What the first k columns' cells hold. -/
def ColsTo (F : Nat → Value) (ns ts : List ByteArray) (bs : List Bool) (k : Nat) : Prop :=
  ∀ j, j < k → F (j * 3) = .string (ns.getD j ByteArray.empty) ∧ F (j * 3 + 1) = .string (ts.getD j ByteArray.empty) ∧ F (j * 3 + 2) = .bool (bs.getD j false)

set_option maxHeartbeats 2000000 in
/-- buildColumnsCmdB1 -/
theorem cols22 (nv tv bv : Value) (ns ts : List ByteArray) (bs : List Bool) (w : World) (hn : Sl Value.string w w.heap.size nv ns) (ht : Sl Value.string w w.heap.size tv ts) (hb : Sl Value.bool w w.heap.size bv bs)
    (m1 : ns.length ≤ 1048576) (m2 : ts.length ≤ 1048576) (m3 : bs.length ≤ 1048576) :
    Calls Try.prog 22 #[nv, tv, bv] w fun e w' => ∃ v', e = .returned v' ∧ Cols w' w'.heap.size v' ts bs ∧ Below w.heap.size w w' := by
  obtain ⟨i0, hi, hz0, hz1, hz2⟩ := info_parts Try.info56
  obtain ⟨a0, c0, rfl⟩ := hn.form
  obtain ⟨a1, c1, rfl⟩ := ht.form
  obtain ⟨a2, c2, rfl⟩ := hb.form
  have hmk : ∀ w : World, (Instr.makeSlice 46 (.int .i64 (ts.length : Int)) (.int .i64 (ts.length : Int))).run Try.prog w = .ok (.slice (some ⟨w.heap.size, 0, none⟩) ts.length ts.length) (w.alloc (.cells (madeCells #[.string ByteArray.empty, .string ByteArray.empty, .bool false] (ts.length * 3)) 56)) := by
    intro w
    have := run_make (P := Try.prog) w 46 56 i0 _ Try.underlying46 hi hz0 .i64 .i64 ts.length ts.length (by omega) (by omega) (by rw [hz2]; omega) (by omega)
    rw [hz1] at this
    simp only [Int.toNat_natCast] at this
    exact this
  go_enter Try.func22, Try.ntmps22
  go_wp2
  go_loopw [8] (fun i wr => ∃ k : Nat, k ≤ ts.length ∧ i = .int .i64 k ∧ w.heap.size < wr.heap.size ∧ (∃ F, wr.rowIs w.heap.size 56 (ts.length * 3) F ∧ ColsTo F ns ts bs k) ∧ Below w.heap.size w wr) (fun i _ => ts.length - (intOf i).toNat)
  case atStart =>
    obtain ⟨F, hF⟩ := rowIs_some w (madeCells #[.string ByteArray.empty, .string ByteArray.empty, .bool false] (ts.length * 3)) 56 (ts.length * 3) (size_madeCells _ _)
    exact ⟨0, Nat.zero_le _, rfl, by simp, ⟨F, hF, fun j hj => by omega⟩, (Below.refl _ _).alloc (Nat.le_refl _) _⟩
  case round =>
    obtain ⟨k, hk, rfl, hsz, ⟨F, hrow, hF⟩, hbel⟩ := hrel
    by_cases hlt : k < ts.length
    · obtain ⟨s, hs⟩ : ∃ z, ts[k]? = some z := ⟨ts[k], by simp [hlt]⟩
      obtain ⟨b, o, rfl, hbb, hc⟩ := ht.place hs
      have hcell : wr.cell? ⟨b, o + k, none⟩ = some (.string s) := by rw [hbel.cell (p := ⟨b, o + k, none⟩) hbb]; exact hc k s hs
      have hlt' : (k : Int) < ts.length := by omega
      have hn' := hn.below hbel
      have hb' := hb.below hbel
      have d0 := hrow.cell (i := k * 3) (by omega)
      have d1 := hrow.cell (i := k * 3 + 1) (by omega)
      have d2 := hrow.cell (i := k * 3 + 2) (by omega)
      have f0 := hrow.frozen (k * 3)
      have f1 := hrow.frozen (k * 3 + 1)
      have f2 := hrow.frozen (k * 3 + 2)
      obtain ⟨nk, hnk⟩ : ∃ x, ns.getD k ByteArray.empty = x := ⟨_, rfl⟩
      obtain ⟨bk, hbk⟩ : ∃ x, bs.getD k false = x := ⟨_, rfl⟩
      have HN : Hid (ns.getD k ByteArray.empty = nk) := hnk
      have HB : Hid (bs.getD k false = bk) := hbk
      have HS : Hid (ts.getD k ByteArray.empty = s) := by simp [Hid, hs]
      have R1 : Hid (∃ G, ((((wr.setCell ⟨w.heap.size, k * 3, none⟩ (.string nk)).setCell ⟨w.heap.size, k * 3 + 1, none⟩ (.string s)).setCell ⟨w.heap.size, k * 3 + 2, none⟩ (.bool bk)).alloc (.cells #[.string nk, .string s, .bool bk] 56)).drew.rowIs w.heap.size 56 (ts.length * 3) G ∧ ColsTo G ns ts bs (k + 1)) := by
        refine ⟨_, ((((hrow.set _ _).set _ _).set _ _).alloc _).drew, fun j hj => ?_⟩
        by_cases e : j = k
        · subst e
          rw [HN.out, HB.out, HS.out]
          refine ⟨?_, ?_, ?_⟩
          · simp
          · simp
          · simp
        · obtain ⟨e1, e2, e3⟩ := hF j (by omega)
          rw [← e1, ← e2, ← e3]
          refine ⟨?_, ?_, ?_⟩
          · rw [if_neg (by omega), if_neg (by omega), if_neg (by omega)]
          · rw [if_neg (by omega), if_neg (by omega), if_neg (by omega)]
          · rw [if_neg (by omega), if_neg (by omega), if_neg (by omega)]
      have R2 : Hid (Below w.heap.size w ((((wr.setCell ⟨w.heap.size, k * 3, none⟩ (.string nk)).setCell ⟨w.heap.size, k * 3 + 1, none⟩ (.string s)).setCell ⟨w.heap.size, k * 3 + 2, none⟩ (.bool bk)).alloc (.cells #[.string nk, .string s, .bool bk] 56)).drew) :=
        ((((hbel.setCell (Nat.le_refl _) _).setCell (Nat.le_refl _) _).setCell (Nat.le_refl _) _).alloc (by rw [Deep.nblk_setCell, Deep.nblk_setCell, Deep.nblk_setCell]; omega) _).drew
      have R3 : Hid (w.heap.size < ((((wr.setCell ⟨w.heap.size, k * 3, none⟩ (.string nk)).setCell ⟨w.heap.size, k * 3 + 1, none⟩ (.string s)).setCell ⟨w.heap.size, k * 3 + 2, none⟩ (.bool bk)).alloc (.cells #[.string nk, .string s, .bool bk] 56)).drew.heap.size) := by
        show _ < (World.alloc _ _).heap.size
        rw [Deep.nblk_alloc, Deep.nblk_setCell, Deep.nblk_setCell, Deep.nblk_setCell]
        omega
      clear hrow hF hnk hbk hs hc hn hb ht
      go_wp2
      go_region_with (first | (go_at_call 30; refine (pick30 _ ns k nk _ w.heap.size ?_ HN ?_ m1).mono ?_; exact hn'.below (below_drew1 _ _); omega; rintro e w' ⟨rfl, rfl⟩) | (go_at_call 23; refine (pick23 _ bs k bk _ w.heap.size ?_ HB ?_ m3).mono ?_; exact hb'.below (below_drew1 _ _); omega; rintro e w' ⟨rfl, rfl⟩) | (go_at_call 29; refine (col29 _ _ _ _).mono ?_; rintro e w' ⟨rfl, rfl⟩))
      all_goals
        go_wp2
        go_roundw
        case rel => exact ⟨k + 1, by omega, by go_num, R3.out, R1.out, R2.out⟩
        case measure => simp [intOf]; omega
    · go_wp2
      go_ret
      obtain rfl : k = ts.length := by omega
      refine ⟨_, rfl, ⟨w.heap.size, _, rfl, hsz, fun j hj => ?_⟩, hbel⟩
      obtain ⟨e1, e2, e3⟩ := hF j hj
      rw [hrow.cell (i := j * 3) (by omega), hrow.cell (i := j * 3 + 1) (by omega), hrow.cell (i := j * 3 + 2) (by omega), e1, e2, e3]
      exact ⟨⟨_, rfl⟩, rfl, rfl⟩

/-- ZZMakeReport -/
theorem report21 (a1 a2 : Option Addr) (n1 c1 n2 c2 : Nat) (w : World) :
    Calls Try.prog 21 #[.slice a1 n1 c1, .slice a2 n2 c2] w fun e w' => e = .returned (.pointer (some ⟨w.heap.size, 0, none⟩)) ∧ w.alloc (.cells #[.slice a1 n1 c1, .slice a2 n2 c2] 54) = w' := by
  go_enter Try.func21, Try.ntmps21
  go_wp2
  go_ret
  exact ⟨rfl, rfl⟩

end Go.Proofs.Qxb6000897a
