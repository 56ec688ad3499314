import Derived.Test.Qxb6000897aPtSizes
namespace Go.Proofs.Qxb6000897a
open Go.RowKit
set_option linter.unusedVariables false

theorem Try.info9 : (Try.prog.info? 9).map (fun i => (i.zero, i.size, i.bytes)) = some (some (.string ByteArray.empty), 1, 16) := by kernel_rfl
theorem Try.info4 : (Try.prog.info? 4).map (fun i => (i.zero, i.size, i.bytes)) = some (some (.bool false), 1, 1) := by kernel_rfl
theorem Try.info28 : (Try.prog.info? 28).map (fun i => (i.zero, i.size, i.bytes)) = some (some (.slice none 0 0), 1, 24) := by kernel_rfl

/-- cloneStringsCmdB1 -/
theorem clone17 (v : Value) (zs : List ByteArray) (w : World) (h : Sl (Value.string) w w.heap.size v zs) (hn : zs.length ≤ 1048576) :
    Calls Try.prog 17 #[v] w fun e w' => ∃ v', e = .returned v' ∧ w'.ownsRow w.heap.size 9 1 v' zs.length (zs.map (Value.string)) ∧ Below w.heap.size w w' := by
  have q28 : ∀ (w : World) (a : Option Addr) (n c : Nat), (binOp .eql 28 (.slice a n c) (.slice none 0 0)).run Try.prog w = .ok (.bool a.isNone) w := fun w a n c => Lib.run_eql_slice_nil w _ _ a n c 0 0 Try.underlying28
  have hmk := run_make_row' (P := Try.prog) 28 9 (.string ByteArray.empty) 16 Try.underlying28 Try.info9 rfl .i64 .i64 zs.length (by omega) (by omega)
  rcases h with ⟨rfl, rfl⟩ | ⟨b, o, s, c, rfl, hb, hc⟩
  · go_enter Try.func17, Try.ntmps17
    go_wp2
    go_ret
    exact ⟨_, rfl, World.ownsRow_nil _ _ _ _, Below.refl _ _⟩
  · go_enter Try.func17, Try.ntmps17
    go_wp2
    go_loopw [4] (fun i wr => ∃ k : Nat, k ≤ zs.length ∧ i = .int .i64 k ∧ wr.rowIs w.heap.size 9 zs.length (fun j => if j < k then .string (zs.getD j ByteArray.empty) else .string ByteArray.empty) ∧ Below w.heap.size w wr) (fun i _ => zs.length - (intOf i).toNat)
    case atStart =>
      exact ⟨0, Nat.zero_le _, rfl, (World.rowIs_made w (.string ByteArray.empty) zs.length 9).congr (fun i hi => by simp), (Below.refl _ _).alloc (Nat.le_refl _) _⟩
    case round =>
      obtain ⟨k, hk, rfl, hrow, hbel⟩ := hrel
      by_cases hlt : k < zs.length
      · obtain ⟨rfl, hbw⟩ := hb (by omega)
        obtain ⟨z, hz⟩ : ∃ z, zs[k]? = some z := ⟨zs[k], by simp [hlt]⟩
        have hcell : wr.cell? ⟨b, o + k, none⟩ = some (.string z) := by rw [hbel.cell (p := ⟨b, o + k, none⟩) hbw]; exact hc k z hz
        have hfz := hrow.frozen k
        have HR : Hid ((wr.setCell ⟨w.heap.size, k, none⟩ (.string z)).rowIs w.heap.size 9 zs.length (fun j => if j < k + 1 then .string (zs.getD j ByteArray.empty) else .string ByteArray.empty)) := by
          refine (hrow.set k (.string z)).congr (fun i hi => ?_)
          by_cases h1 : i = k
          · subst h1; simp [hz]
          · by_cases h2 : i < k
            · simp [h1, h2, show i < k + 1 by omega]
            · simp [h1, h2, show ¬ i < k + 1 by omega]
        have hc0 := hrow.cell hlt
        simp only [Nat.lt_irrefl, if_false] at hc0
        have HB : Hid (Below w.heap.size w (wr.setCell ⟨w.heap.size, k, none⟩ (.string z))) := hbel.setCell (Nat.le_refl _) _
        clear hrow hbel hc hz
        go_wp2
        go_roundw
        case rel => exact ⟨k + 1, by omega, by go_num, HR.out, HB.out⟩
        case measure => simp [intOf]; omega
      · go_wp2
        go_ret
        refine ⟨_, rfl, own_of_rowIs hrow (fun i z hz => ?_) (Nat.le_refl _) (by unfold maxLen; omega), hbel⟩
        have := lt_of_some hz
        rw [if_pos (by omega)]
        simp [hz]

/-- cloneBoolsCmdB1 -/
theorem clone18 (v : Value) (zs : List Bool) (w : World) (h : Sl (Value.bool) w w.heap.size v zs) (hn : zs.length ≤ 1048576) :
    Calls Try.prog 18 #[v] w fun e w' => ∃ v', e = .returned v' ∧ w'.ownsRow w.heap.size 4 1 v' zs.length (zs.map (Value.bool)) ∧ Below w.heap.size w w' := by
  have q29 : ∀ (w : World) (a : Option Addr) (n c : Nat), (binOp .eql 29 (.slice a n c) (.slice none 0 0)).run Try.prog w = .ok (.bool a.isNone) w := fun w a n c => Lib.run_eql_slice_nil w _ _ a n c 0 0 Try.underlying29
  have hmk := run_make_row' (P := Try.prog) 29 4 (.bool false) 1 Try.underlying29 Try.info4 rfl .i64 .i64 zs.length (by omega) (by omega)
  rcases h with ⟨rfl, rfl⟩ | ⟨b, o, s, c, rfl, hb, hc⟩
  · go_enter Try.func18, Try.ntmps18
    go_wp2
    go_ret
    exact ⟨_, rfl, World.ownsRow_nil _ _ _ _, Below.refl _ _⟩
  · go_enter Try.func18, Try.ntmps18
    go_wp2
    go_loopw [4] (fun i wr => ∃ k : Nat, k ≤ zs.length ∧ i = .int .i64 k ∧ wr.rowIs w.heap.size 4 zs.length (fun j => if j < k then .bool (zs.getD j false) else .bool false) ∧ Below w.heap.size w wr) (fun i _ => zs.length - (intOf i).toNat)
    case atStart =>
      exact ⟨0, Nat.zero_le _, rfl, (World.rowIs_made w (.bool false) zs.length 4).congr (fun i hi => by simp), (Below.refl _ _).alloc (Nat.le_refl _) _⟩
    case round =>
      obtain ⟨k, hk, rfl, hrow, hbel⟩ := hrel
      by_cases hlt : k < zs.length
      · obtain ⟨rfl, hbw⟩ := hb (by omega)
        obtain ⟨z, hz⟩ : ∃ z, zs[k]? = some z := ⟨zs[k], by simp [hlt]⟩
        have hcell : wr.cell? ⟨b, o + k, none⟩ = some (.bool z) := by rw [hbel.cell (p := ⟨b, o + k, none⟩) hbw]; exact hc k z hz
        have hfz := hrow.frozen k
        have HR : Hid ((wr.setCell ⟨w.heap.size, k, none⟩ (.bool z)).rowIs w.heap.size 4 zs.length (fun j => if j < k + 1 then .bool (zs.getD j false) else .bool false)) := by
          refine (hrow.set k (.bool z)).congr (fun i hi => ?_)
          by_cases h1 : i = k
          · subst h1; simp [hz]
          · by_cases h2 : i < k
            · simp [h1, h2, show i < k + 1 by omega]
            · simp [h1, h2, show ¬ i < k + 1 by omega]
        have hc0 := hrow.cell hlt
        simp only [Nat.lt_irrefl, if_false] at hc0
        have HB : Hid (Below w.heap.size w (wr.setCell ⟨w.heap.size, k, none⟩ (.bool z))) := hbel.setCell (Nat.le_refl _) _
        clear hrow hbel hc hz
        go_wp2
        go_roundw
        case rel => exact ⟨k + 1, by omega, by go_num, HR.out, HB.out⟩
        case measure => simp [intOf]; omega
      · go_wp2
        go_ret
        refine ⟨_, rfl, own_of_rowIs hrow (fun i z hz => ?_) (Nat.le_refl _) (by unfold maxLen; omega), hbel⟩
        have := lt_of_some hz
        rw [if_pos (by omega)]
        simp [hz]


/-- cloneRowsCmdB1 -/
theorem clone19 (v : Value) (rss : List (List ByteArray)) (w : World) (h : Sl2 Value.string w w.heap.size v rss) (hn : rss.length ≤ 1048576) (hr : ∀ (i : Nat) ss, rss[i]? = some ss → ss.length ≤ 1048576) :
    Calls Try.prog 19 #[v] w fun e w' => ∃ v', e = .returned v' ∧ Sl2 Value.string w' w'.heap.size v' rss ∧ Below w.heap.size w w' := by
  have q30 : ∀ (w : World) (a : Option Addr) (n c : Nat), (binOp .eql 30 (.slice a n c) (.slice none 0 0)).run Try.prog w = .ok (.bool a.isNone) w := fun w a n c => Lib.run_eql_slice_nil w _ _ a n c 0 0 Try.underlying30
  have hmk := run_make_row' (P := Try.prog) 30 28 (.slice none 0 0) 24 Try.underlying30 Try.info28 rfl .i64 .i64 rss.length (by omega) (by omega)
  obtain ⟨a, c, rfl⟩ := h.form
  cases a with
  | none =>
    have h0 : rss = [] := by
      cases rss with
      | nil => rfl
      | cons x r => obtain ⟨b, o, e, _⟩ := h.place (i := 0) (zs := x) rfl; cases e
    subst h0
    have hc0 : c = 0 := by
      obtain ⟨ts, hl, h1, _⟩ := h
      rcases h1 with ⟨_, h1⟩ | ⟨b, o, s, c', h1, _⟩
      · simp at h1; exact h1
      · simp at h1
    subst hc0
    go_enter Try.func19, Try.ntmps19
    go_wp2
    go_ret
    exact ⟨_, rfl, ⟨[], rfl, .inl ⟨rfl, rfl⟩, fun i t zs ht => by simp at ht⟩, Below.refl _ _⟩
  | some ad =>
    go_enter Try.func19, Try.ntmps19
    go_wp2
    go_loopw [4] (fun i wr => ∃ (k : Nat) (T : Nat → Option Addr × Nat × Nat), k ≤ rss.length ∧ i = .int .i64 k ∧ w.heap.size < wr.heap.size ∧ wr.rowIs w.heap.size 28 rss.length (fun j => if j < k then sl3 (T j) else .slice none 0 0) ∧
        (∀ j ss, j < k → rss[j]? = some ss → Sl Value.string wr wr.heap.size (sl3 (T j)) ss ∧ ∀ q, (sl3 (T j)).ownBlock = some q → w.heap.size < q) ∧ Below w.heap.size w wr) (fun i _ => rss.length - (intOf i).toNat)
    case atStart =>
      exact ⟨0, fun _ => (none, 0, 0), Nat.zero_le _, rfl, by simp, (World.rowIs_made w (.slice none 0 0) rss.length 28).congr (fun i hi => by simp), fun j ss hj => by omega, (Below.refl _ _).alloc (Nat.le_refl _) _⟩
    case round =>
      obtain ⟨k, T, hk, rfl, hsz, hrow, hin, hbel⟩ := hrel
      by_cases hlt : k < rss.length
      · obtain ⟨ss, hs⟩ : ∃ z, rss[k]? = some z := ⟨rss[k], by simp [hlt]⟩
        obtain ⟨b, o, e, hb, hc⟩ := h.place hs
        simp only [Option.some.injEq] at e
        subst e
        obtain ⟨a', c', hcell0, hsl⟩ := hc k ss hs
        have hcell : wr.cell? ⟨b, o + k, none⟩ = some (.slice a' ss.length c') := by rw [hbel.cell (p := ⟨b, o + k, none⟩) hb]; exact hcell0
        have hss := hr k ss hs
        have HS : Hid (rss[k]? = some ss) := hs
        clear hc hs hcell0
        have hsz' := hbel.size
        have HIN := hin
        have HIN : Hid (∀ j ss, j < k → rss[j]? = some ss → Sl Value.string wr wr.heap.size (sl3 (T j)) ss ∧ ∀ q, (sl3 (T j)).ownBlock = some q → w.heap.size < q) := hin
        clear hin
        have HROW : Hid (wr.rowIs w.heap.size 28 rss.length (fun j => if j < k then sl3 (T j) else .slice none 0 0)) := hrow
        clear hrow
        go_wp2_with fail
        refine (clone17 _ ss _ ((hsl.below hbel).mono hsz') hss).mono ?_
        rintro e w1 ⟨v1, rfl, o1, b1⟩
        have s1 := Sl.of_own o1
        obtain ⟨a1, c1, hv1⟩ := s1.form
        subst hv1
        have hrow1 : w1.rowIs w.heap.size 28 rss.length (fun j => if j < k then sl3 (T j) else .slice none 0 0) := HROW.out.of_block (b1.block _ HROW.out.lt)
        have hfz := hrow1.frozen k
        have hc0 := hrow1.cell hlt
        simp only [Nat.lt_irrefl, if_false] at hc0
        have hb1 := b1.size
        have hne : ∀ q, (Value.slice a1 ss.length c1).ownBlock = some q → w.heap.size < q := fun q hq => by have := (o1.lt q hq).1; omega
        have R1 : Hid ((w1.setCell ⟨w.heap.size, k, none⟩ (.slice a1 ss.length c1)).rowIs w.heap.size 28 rss.length (fun j => if j < k + 1 then sl3 ((fun i => if i = k then (a1, ss.length, c1) else T i) j) else .slice none 0 0)) := by
          refine (hrow1.set k _).congr (fun i hi => ?_)
          by_cases h1 : i = k
          · subst h1; simp [sl3]
          · by_cases h2 : i < k
            · simp [h1, h2, show i < k + 1 by omega]
            · simp [h1, h2, show ¬ i < k + 1 by omega]
        have R2 : Hid (∀ j zs, j < k + 1 → rss[j]? = some zs → Sl Value.string (w1.setCell ⟨w.heap.size, k, none⟩ (.slice a1 ss.length c1)) (w1.setCell ⟨w.heap.size, k, none⟩ (.slice a1 ss.length c1)).heap.size (sl3 ((fun i => if i = k then (a1, ss.length, c1) else T i) j)) zs ∧ ∀ q, (sl3 ((fun i => if i = k then (a1, ss.length, c1) else T i) j)).ownBlock = some q → w.heap.size < q) := by
          intro j zs hj hz
          rw [Deep.nblk_setCell]
          by_cases h1 : j = k
          · subst h1
            rw [HS.out] at hz
            simp only [Option.some.injEq] at hz
            subst hz
            simp only [if_true]
            exact ⟨s1.setCell _ _ (fun q hq => by have := hne q hq; simp; omega), hne⟩
          · simp only [if_neg h1]
            obtain ⟨p1, p2⟩ := HIN.out j zs (by omega) hz
            exact ⟨((p1.below b1).mono hb1).setCell _ _ (fun q hq => by have := p2 q hq; simp; omega), p2⟩
        have R3 : Hid (Below w.heap.size w (w1.setCell ⟨w.heap.size, k, none⟩ (.slice a1 ss.length c1))) := (hbel.trans (b1.mono hsz')).setCell (Nat.le_refl _) _
        have R4 : w.heap.size < (w1.setCell ⟨w.heap.size, k, none⟩ (.slice a1 ss.length c1)).heap.size := by rw [Deep.nblk_setCell]; omega
        clear hrow1 s1 o1 b1 hne
        go_wp2
        go_roundw
        case rel => exact ⟨k + 1, _, by omega, by go_num, R4, R1.out, R2.out, R3.out⟩
        case measure => simp [intOf]; omega
      · go_wp2
        go_ret
        refine ⟨_, rfl, ⟨(List.range rss.length).map T, by simp, .inr ⟨w.heap.size, 0, none, rss.length, by simp, fun _ => ⟨rfl, hsz⟩, fun i t ht => ?_⟩, fun i t zs ht hz => ?_⟩, hbel⟩
        · obtain ⟨hi, rfl⟩ := range_get ht
          have := hrow.cell hi
          rw [if_pos (by omega)] at this
          simpa using this
        · obtain ⟨hi, rfl⟩ := range_get ht
          exact (hin i zs (by omega) hz).1

end Go.Proofs.Qxb6000897a
