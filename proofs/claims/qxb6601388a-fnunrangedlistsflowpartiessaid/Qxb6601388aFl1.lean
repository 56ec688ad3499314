import Derived.Test.Qxb6601388aStk
import Derived.Test.Qxb6601388aFlow
namespace Go.Proofs.Qxb6601388a
open Go.RowKit
set_option linter.unusedVariables false

theorem Try.info3 : (Try.prog.info? 3).map (fun i => (i.zero, i.size, i.bytes)) = some (some (.int .i64 0), 1, 8) := by kernel_rfl
theorem Try.info43 : (Try.prog.info? 43).map (fun i => (i.zero, i.size, i.bytes)) = some (some (.slice none 0 0), 1, 24) := by kernel_rfl

/-- zzcloneInts -/
theorem clone25 (v : Value) (zs : List Int) (w : World) (h : Sl (Value.int .i64) w w.heap.size v zs) (hn : zs.length ≤ 1048576) :
    Calls Try.prog 25 #[v] w fun e w' => ∃ v', e = .returned v' ∧ w'.ownsRow w.heap.size 3 1 v' zs.length (zs.map (Value.int .i64)) ∧ Below w.heap.size w w' := by
  have qnil : ∀ (w : World) (a : Option Addr) (n c : Nat), (binOp .eql 43 (.slice a n c) (.slice none 0 0)).run Try.prog w = .ok (.bool a.isNone) w := fun w a n c => Lib.run_eql_slice_nil w _ _ a n c 0 0 Try.underlying43
  have hmk := run_make_row' (P := Try.prog) 43 3 (.int .i64 0) 8 Try.underlying43 Try.info3 rfl .i64 .i64 zs.length (by omega) (by omega)
  rcases h with ⟨rfl, rfl⟩ | ⟨b, o, s, c, rfl, hb, hc⟩
  · go_enter Try.func25, Try.ntmps25
    go_wp2
    go_ret
    exact ⟨_, rfl, World.ownsRow_nil _ _ _ _, Below.refl _ _⟩
  · go_enter Try.func25, Try.ntmps25
    go_wp2
    go_loopw [4] (fun i wr => ∃ k : Nat, k ≤ zs.length ∧ i = .int .i64 k ∧ wr.rowIs w.heap.size 3 zs.length (fun j => if j < k then .int .i64 (zs.getD j 0) else .int .i64 0) ∧ Below w.heap.size w wr) (fun i _ => zs.length - (intOf i).toNat)
    case atStart =>
      exact ⟨0, Nat.zero_le _, rfl, (World.rowIs_made w (.int .i64 0) zs.length 3).congr (fun i hi => by simp), (Below.refl _ _).alloc (Nat.le_refl _) _⟩
    case round =>
      obtain ⟨k, hk, rfl, hrow, hbel⟩ := hrel
      by_cases hlt : k < zs.length
      · obtain ⟨rfl, hbw⟩ := hb (by omega)
        obtain ⟨z, hz⟩ : ∃ z, zs[k]? = some z := ⟨zs[k], by simp [hlt]⟩
        have hcell : wr.cell? ⟨b, o + k, none⟩ = some (.int .i64 z) := by rw [hbel.cell (p := ⟨b, o + k, none⟩) hbw]; exact hc k z hz
        have hfz := hrow.frozen k
        have HR : Hid ((wr.setCell ⟨w.heap.size, k, none⟩ (.int .i64 z)).rowIs w.heap.size 3 zs.length (fun j => if j < k + 1 then .int .i64 (zs.getD j 0) else .int .i64 0)) := by
          refine (hrow.set k (.int .i64 z)).congr (fun i hi => ?_)
          by_cases h1 : i = k
          · subst h1; simp [hz]
          · by_cases h2 : i < k
            · simp [h1, h2, show i < k + 1 by omega]
            · simp [h1, h2, show ¬ i < k + 1 by omega]
        have hc0 := hrow.cell hlt
        simp only [Nat.lt_irrefl, if_false] at hc0
        have HB : Hid (Below w.heap.size w (wr.setCell ⟨w.heap.size, k, none⟩ (.int .i64 z))) := hbel.setCell (Nat.le_refl _) _
        clear hrow hbel hc hz
        go_wp2
        go_roundw
        case rel => exact ⟨k + 1, by omega, by go_num, HR.out, HB.out⟩
        case measure => simp [intOf]; omega
      · go_wp2
        go_ret
        refine ⟨_, rfl, own_of_rowIs hrow (fun i z hz => ?_) (Nat.le_refl _) (by unfold maxLen; omega), hbel⟩
        have := lt_of_some hz
        rw [if_pos (by omega)]
        simp [hz]

/-- zzcloneBool -/
theorem clone16 (v : Value) (zs : List Bool) (w : World) (h : Sl (Value.bool) w w.heap.size v zs) (hn : zs.length ≤ 1048576) :
    Calls Try.prog 16 #[v] w fun e w' => ∃ v', e = .returned v' ∧ w'.ownsRow w.heap.size 4 1 v' zs.length (zs.map (Value.bool)) ∧ Below w.heap.size w w' := by
  have qnil : ∀ (w : World) (a : Option Addr) (n c : Nat), (binOp .eql 32 (.slice a n c) (.slice none 0 0)).run Try.prog w = .ok (.bool a.isNone) w := fun w a n c => Lib.run_eql_slice_nil w _ _ a n c 0 0 Try.underlying32
  have hmk := run_make_row' (P := Try.prog) 32 4 (.bool false) 1 Try.underlying32 Try.info4 rfl .i64 .i64 zs.length (by omega) (by omega)
  rcases h with ⟨rfl, rfl⟩ | ⟨b, o, s, c, rfl, hb, hc⟩
  · go_enter Try.func16, Try.ntmps16
    go_wp2
    go_ret
    exact ⟨_, rfl, World.ownsRow_nil _ _ _ _, Below.refl _ _⟩
  · go_enter Try.func16, Try.ntmps16
    go_wp2
    go_loopw [4] (fun i wr => ∃ k : Nat, k ≤ zs.length ∧ i = .int .i64 k ∧ wr.rowIs w.heap.size 4 zs.length (fun j => if j < k then .bool (zs.getD j false) else .bool false) ∧ Below w.heap.size w wr) (fun i _ => zs.length - (intOf i).toNat)
    case atStart =>
      exact ⟨0, Nat.zero_le _, rfl, (World.rowIs_made w (.bool false) zs.length 4).congr (fun i hi => by simp), (Below.refl _ _).alloc (Nat.le_refl _) _⟩
    case round =>
      obtain ⟨k, hk, rfl, hrow, hbel⟩ := hrel
      by_cases hlt : k < zs.length
      · obtain ⟨rfl, hbw⟩ := hb (by omega)
        obtain ⟨z, hz⟩ : ∃ z, zs[k]? = some z := ⟨zs[k], by simp [hlt]⟩
        have hcell : wr.cell? ⟨b, o + k, none⟩ = some (.bool z) := by rw [hbel.cell (p := ⟨b, o + k, none⟩) hbw]; exact hc k z hz
        have hfz := hrow.frozen k
        have HR : Hid ((wr.setCell ⟨w.heap.size, k, none⟩ (.bool z)).rowIs w.heap.size 4 zs.length (fun j => if j < k + 1 then .bool (zs.getD j false) else .bool false)) := by
          refine (hrow.set k (.bool z)).congr (fun i hi => ?_)
          by_cases h1 : i = k
          · subst h1; simp [hz]
          · by_cases h2 : i < k
            · simp [h1, h2, show i < k + 1 by omega]
            · simp [h1, h2, show ¬ i < k + 1 by omega]
        have hc0 := hrow.cell hlt
        simp only [Nat.lt_irrefl, if_false] at hc0
        have HB : Hid (Below w.heap.size w (wr.setCell ⟨w.heap.size, k, none⟩ (.bool z))) := hbel.setCell (Nat.le_refl _) _
        clear hrow hbel hc hz
        go_wp2
        go_roundw
        case rel => exact ⟨k + 1, by omega, by go_num, HR.out, HB.out⟩
        case measure => simp [intOf]; omega
      · go_wp2
        go_ret
        refine ⟨_, rfl, own_of_rowIs hrow (fun i z hz => ?_) (Nat.le_refl _) (by unfold maxLen; omega), hbel⟩
        have := lt_of_some hz
        rw [if_pos (by omega)]
        simp [hz]

/-- zzcloneInts2 -/
theorem clone15 (v : Value) (rss : List (List Int)) (w : World) (h : Sl2 (Value.int .i64) w w.heap.size v rss) (hn : rss.length ≤ 1048576) (hr : ∀ (i : Nat) ss, rss[i]? = some ss → ss.length ≤ 1048576) :
    Calls Try.prog 15 #[v] w fun e w' => ∃ v', e = .returned v' ∧ Sl2 (Value.int .i64) w' w'.heap.size v' rss ∧ Below w.heap.size w w' := by
  have q31 : ∀ (w : World) (a : Option Addr) (n c : Nat), (binOp .eql 31 (.slice a n c) (.slice none 0 0)).run Try.prog w = .ok (.bool a.isNone) w := fun w a n c => Lib.run_eql_slice_nil w _ _ a n c 0 0 Try.underlying31
  have hmk := run_make_row' (P := Try.prog) 31 43 (.slice none 0 0) 24 Try.underlying31 Try.info43 rfl .i64 .i64 rss.length (by omega) (by omega)
  obtain ⟨a, c, rfl⟩ := h.form
  cases a with
  | none =>
    have h0 : rss = [] := by
      cases rss with
      | nil => rfl
      | cons x r => obtain ⟨b, o, e, _⟩ := h.place (i := 0) (zs := x) rfl; cases e
    subst h0
    have hc0 : c = 0 := by
      obtain ⟨ts, hl, h1, _⟩ := h
      rcases h1 with ⟨_, h1⟩ | ⟨b, o, s, c', h1, _⟩
      · simp at h1; exact h1
      · simp at h1
    subst hc0
    go_enter Try.func15, Try.ntmps15
    go_wp2
    go_ret
    exact ⟨_, rfl, ⟨[], rfl, .inl ⟨rfl, rfl⟩, fun i t zs ht => by simp at ht⟩, Below.refl _ _⟩
  | some ad =>
    go_enter Try.func15, Try.ntmps15
    go_wp2
    go_loopw [4] (fun i wr => ∃ (k : Nat) (T : Nat → Option Addr × Nat × Nat), k ≤ rss.length ∧ i = .int .i64 k ∧ w.heap.size < wr.heap.size ∧ wr.rowIs w.heap.size 43 rss.length (fun j => if j < k then sl3 (T j) else .slice none 0 0) ∧
        (∀ j ss, j < k → rss[j]? = some ss → Sl (Value.int .i64) wr wr.heap.size (sl3 (T j)) ss ∧ ∀ q, (sl3 (T j)).ownBlock = some q → w.heap.size < q) ∧ Below w.heap.size w wr) (fun i _ => rss.length - (intOf i).toNat)
    case atStart =>
      exact ⟨0, fun _ => (none, 0, 0), Nat.zero_le _, rfl, by simp, (World.rowIs_made w (.slice none 0 0) rss.length 43).congr (fun i hi => by simp), fun j ss hj => by omega, (Below.refl _ _).alloc (Nat.le_refl _) _⟩
    case round =>
      obtain ⟨k, T, hk, rfl, hsz, hrow, hin, hbel⟩ := hrel
      by_cases hlt : k < rss.length
      · obtain ⟨ss, hs⟩ : ∃ z, rss[k]? = some z := ⟨rss[k], by simp [hlt]⟩
        obtain ⟨b, o, e, hb, hc⟩ := h.place hs
        simp only [Option.some.injEq] at e
        subst e
        obtain ⟨a', c', hcell0, hsl⟩ := hc k ss hs
        have hcell : wr.cell? ⟨b, o + k, none⟩ = some (.slice a' ss.length c') := by rw [hbel.cell (p := ⟨b, o + k, none⟩) hb]; exact hcell0
        have hss := hr k ss hs
        have HS : Hid (rss[k]? = some ss) := hs
        clear hc hs hcell0
        have hsz' := hbel.size
        have HIN := hin
        have HIN : Hid (∀ j ss, j < k → rss[j]? = some ss → Sl (Value.int .i64) wr wr.heap.size (sl3 (T j)) ss ∧ ∀ q, (sl3 (T j)).ownBlock = some q → w.heap.size < q) := hin
        clear hin
        have HROW : Hid (wr.rowIs w.heap.size 43 rss.length (fun j => if j < k then sl3 (T j) else .slice none 0 0)) := hrow
        clear hrow
        go_wp2_with fail
        refine (clone25 _ ss _ ((hsl.below hbel).mono hsz') hss).mono ?_
        rintro e w1 ⟨v1, rfl, o1, b1⟩
        have s1 := Sl.of_own o1
        obtain ⟨a1, c1, hv1⟩ := s1.form
        subst hv1
        have hrow1 : w1.rowIs w.heap.size 43 rss.length (fun j => if j < k then sl3 (T j) else .slice none 0 0) := HROW.out.of_block (b1.block _ HROW.out.lt)
        have hfz := hrow1.frozen k
        have hc0 := hrow1.cell hlt
        simp only [Nat.lt_irrefl, if_false] at hc0
        have hb1 := b1.size
        have hne : ∀ q, (Value.slice a1 ss.length c1).ownBlock = some q → w.heap.size < q := fun q hq => by have := (o1.lt q hq).1; omega
        have R1 : Hid ((w1.setCell ⟨w.heap.size, k, none⟩ (.slice a1 ss.length c1)).rowIs w.heap.size 43 rss.length (fun j => if j < k + 1 then sl3 ((fun i => if i = k then (a1, ss.length, c1) else T i) j) else .slice none 0 0)) := by
          refine (hrow1.set k _).congr (fun i hi => ?_)
          by_cases h1 : i = k
          · subst h1; simp [sl3]
          · by_cases h2 : i < k
            · simp [h1, h2, show i < k + 1 by omega]
            · simp [h1, h2, show ¬ i < k + 1 by omega]
        have R2 : Hid (∀ j zs, j < k + 1 → rss[j]? = some zs → Sl (Value.int .i64) (w1.setCell ⟨w.heap.size, k, none⟩ (.slice a1 ss.length c1)) (w1.setCell ⟨w.heap.size, k, none⟩ (.slice a1 ss.length c1)).heap.size (sl3 ((fun i => if i = k then (a1, ss.length, c1) else T i) j)) zs ∧ ∀ q, (sl3 ((fun i => if i = k then (a1, ss.length, c1) else T i) j)).ownBlock = some q → w.heap.size < q) := by
          intro j zs hj hz
          rw [Deep.nblk_setCell]
          by_cases h1 : j = k
          · subst h1
            rw [HS.out] at hz
            simp only [Option.some.injEq] at hz
            subst hz
            simp only [if_true]
            exact ⟨s1.setCell _ _ (fun q hq => by have := hne q hq; simp; omega), hne⟩
          · simp only [if_neg h1]
            obtain ⟨p1, p2⟩ := HIN.out j zs (by omega) hz
            exact ⟨((p1.below b1).mono hb1).setCell _ _ (fun q hq => by have := p2 q hq; simp; omega), p2⟩
        have R3 : Hid (Below w.heap.size w (w1.setCell ⟨w.heap.size, k, none⟩ (.slice a1 ss.length c1))) := (hbel.trans (b1.mono hsz')).setCell (Nat.le_refl _) _
        have R4 : w.heap.size < (w1.setCell ⟨w.heap.size, k, none⟩ (.slice a1 ss.length c1)).heap.size := by rw [Deep.nblk_setCell]; omega
        clear hrow1 s1 o1 b1 hne
        go_wp2
        go_roundw
        case rel => exact ⟨k + 1, _, by omega, by go_num, R4, R1.out, R2.out, R3.out⟩
        case measure => simp [intOf]; omega
      · go_wp2
        go_ret
        refine ⟨_, rfl, ⟨(List.range rss.length).map T, by simp, .inr ⟨w.heap.size, 0, none, rss.length, by simp, fun _ => ⟨rfl, hsz⟩, fun i t ht => ?_⟩, fun i t zs ht hz => ?_⟩, hbel⟩
        · obtain ⟨hi, rfl⟩ := range_get ht
          have := hrow.cell hi
          rw [if_pos (by omega)] at this
          simpa using this
        · obtain ⟨hi, rfl⟩ := range_get ht
          exact (hin i zs (by omega) hz).1

/-- zzflowBytes: where it does not say 'too much' no list of edges is long. -/
def FbSaid (zss : List (List Int)) (w : World) (e : Ending) (w' : World) : Prop := ∃ z : Int, e = .returned (.int .i64 z) ∧ w = w' ∧ (z ≤ 1048576 → ∀ (i : Nat) zs, zss[i]? = some zs → zs.length ≤ 65536)

def SaidB (w : World) (e : Ending) (w' : World) : Prop := ∃ b : Bool, e = .returned (.bool b) ∧ w = w'

set_option maxRecDepth 100000 in
set_option maxHeartbeats 1000000 in
/-- zzBytes -/
theorem bytes13 (nv xv rv bv : Value) (ns : List ByteArray) (zss : List (List Int)) (rs : List ByteArray) (bs : List Bool) (w : World) (B : Nat) (hn : Sl Value.string w B nv ns) (hx : Sl2 (Value.int .i64) w B xv zss) (hr : Sl Value.string w B rv rs) (hb : Sl Value.bool w B bv bs)
    (m1 : ns.length ≤ maxLen) (m2 : zss.length ≤ maxLen) (m3 : rs.length ≤ maxLen) (m4 : bs.length ≤ maxLen) (m5 : ∀ (i : Nat) zs, zss[i]? = some zs → zs.length ≤ maxLen) :
    Calls Try.prog 13 #[nv, xv, rv, bv] w (SaidB w) := by
  obtain ⟨a0, c0, rfl⟩ := hn.form
  obtain ⟨a1, c1, rfl⟩ := hx.form
  obtain ⟨a2, c2, rfl⟩ := hr.form
  obtain ⟨a3, c3, rfl⟩ := hb.form
  unfold maxLen at m1 m2 m3 m4 m5
  go_enter Try.func13, Try.ntmps13
  go_wp2
  all_goals try (go_ret; exact ⟨_, rfl, rfl⟩)
  go_loop [9, 10] (fun z i => ∃ (y : Int) (k : Nat), k ≤ ns.length ∧ z = .int .i64 y ∧ i = .int .i64 k) (fun _ i => ns.length - (intOf i).toNat)
  case atStart => exact ⟨_, 0, Nat.zero_le _, rfl, rfl⟩
  case round =>
    obtain ⟨y, k, hk, rfl, rfl⟩ := hrel
    by_cases hlt : k < ns.length
    · obtain ⟨s, hs⟩ : ∃ s, ns[k]? = some s := ⟨ns[k], by simp [hlt]⟩
      obtain ⟨b, o, rfl, hb, hc⟩ := hn.place hs
      have hcell := hc k s hs
      clear hc hs hn hx hr
      go_wp2
      all_goals try (go_ret; exact ⟨_, rfl, rfl⟩)
      go_round
      case rel => exact ⟨_, k + 1, by omega, rfl, by go_num⟩
      case measure => simp [intOf]; omega
    · go_wp2
      all_goals try (go_ret; exact ⟨_, rfl, rfl⟩)
      clear hk hlt
      go_loop [9, 11] (fun z i => ∃ (y : Int) (k : Nat), k ≤ zss.length ∧ z = .int .i64 y ∧ i = .int .i64 k) (fun _ i => zss.length - (intOf i).toNat)
      case atStart => exact ⟨_, 0, Nat.zero_le _, rfl, rfl⟩
      case round =>
        obtain ⟨y1, k1, hk, rfl, rfl⟩ := hrel
        by_cases hlt : k1 < zss.length
        · obtain ⟨zs, hs⟩ : ∃ s, zss[k1]? = some s := ⟨zss[k1], by simp [hlt]⟩
          obtain ⟨b, o, rfl, hb, hc⟩ := hx.place hs
          obtain ⟨a', c', hcell, hsl⟩ := hc k1 zs hs
          have hss := m5 k1 zs hs
          clear hc hs hn hx hr hsl m5
          go_wp2
          all_goals try (go_ret; exact ⟨_, rfl, rfl⟩)
          go_round
          case rel => exact ⟨_, k1 + 1, by omega, rfl, by go_num⟩
          case measure => simp [intOf]; omega
        · go_wp2
          all_goals try (go_ret; exact ⟨_, rfl, rfl⟩)
          clear hk hlt
          go_loop [9, 12] (fun z i => ∃ (y : Int) (k : Nat), k ≤ rs.length ∧ z = .int .i64 y ∧ i = .int .i64 k) (fun _ i => rs.length - (intOf i).toNat)
          case atStart => exact ⟨_, 0, Nat.zero_le _, rfl, rfl⟩
          case round =>
            obtain ⟨y2, k2, hk, rfl, rfl⟩ := hrel
            by_cases hlt : k2 < rs.length
            · obtain ⟨s, hs⟩ : ∃ s, rs[k2]? = some s := ⟨rs[k2], by simp [hlt]⟩
              obtain ⟨b, o, rfl, hb, hc⟩ := hr.place hs
              have hcell := hc k2 s hs
              clear hc hs hn hx hr
              go_wp2
              all_goals try (go_ret; exact ⟨_, rfl, rfl⟩)
              go_round
              case rel => exact ⟨_, k2 + 1, by omega, rfl, by go_num⟩
              case measure => simp [intOf]; omega
            · go_wp2
              all_goals (go_ret; exact ⟨_, rfl, rfl⟩)

set_option maxRecDepth 100000 in
set_option maxHeartbeats 1000000 in
/-- zzflowBytes -/
theorem fbytes14 (nv xv rv bv : Value) (ns : List ByteArray) (zss : List (List Int)) (rs : List ByteArray) (bs : List Bool) (w : World) (B : Nat) (hn : Sl Value.string w B nv ns) (hx : Sl2 (Value.int .i64) w B xv zss) (hr : Sl Value.string w B rv rs) (hb : Sl Value.bool w B bv bs)
    (m1 : ns.length ≤ maxLen) (m2 : zss.length ≤ maxLen) (m3 : rs.length ≤ maxLen) (m4 : bs.length ≤ maxLen) (m5 : ∀ (i : Nat) zs, zss[i]? = some zs → zs.length ≤ maxLen) :
    Calls Try.prog 14 #[nv, xv, rv, bv] w (FbSaid zss w) := by
  obtain ⟨a0, c0, rfl⟩ := hn.form
  obtain ⟨a1, c1, rfl⟩ := hx.form
  obtain ⟨a2, c2, rfl⟩ := hr.form
  obtain ⟨a3, c3, rfl⟩ := hb.form
  unfold maxLen at m1 m2 m3 m4 m5
  go_enter Try.func14, Try.ntmps14
  go_wp2
  go_loop [9, 10] (fun z i => ∃ (y : Int) (k : Nat), k ≤ ns.length ∧ z = .int .i64 y ∧ i = .int .i64 k) (fun _ i => ns.length - (intOf i).toNat)
  case atStart => exact ⟨_, 0, Nat.zero_le _, rfl, rfl⟩
  case round =>
    obtain ⟨y, k, hk, rfl, rfl⟩ := hrel
    by_cases hlt : k < ns.length
    · obtain ⟨s, hs⟩ : ∃ s, ns[k]? = some s := ⟨ns[k], by simp [hlt]⟩
      obtain ⟨b, o, rfl, hb, hc⟩ := hn.place hs
      have hcell := hc k s hs
      clear hc hs hn hx hr
      go_wp2
      all_goals try (go_ret; exact ⟨_, rfl, rfl, fun h => absurd h (by omega)⟩)
      go_round
      case rel => exact ⟨_, k + 1, by omega, rfl, by go_num⟩
      case measure => simp [intOf]; omega
    · go_wp2
      clear hk hlt
      go_loop [9, 11] (fun z i => ∃ (y : Int) (k : Nat), k ≤ rs.length ∧ z = .int .i64 y ∧ i = .int .i64 k) (fun _ i => rs.length - (intOf i).toNat)
      case atStart => exact ⟨_, 0, Nat.zero_le _, rfl, rfl⟩
      case round =>
        obtain ⟨y2, k2, hk, rfl, rfl⟩ := hrel
        by_cases hlt : k2 < rs.length
        · obtain ⟨s, hs⟩ : ∃ s, rs[k2]? = some s := ⟨rs[k2], by simp [hlt]⟩
          obtain ⟨b, o, rfl, hb, hc⟩ := hr.place hs
          have hcell := hc k2 s hs
          clear hc hs hn hx hr
          go_wp2
          all_goals try (go_ret; exact ⟨_, rfl, rfl, fun h => absurd h (by omega)⟩)
          go_round
          case rel => exact ⟨_, k2 + 1, by omega, rfl, by go_num⟩
          case measure => simp [intOf]; omega
        · go_wp2
          clear hk hlt
          go_loop [9, 12] (fun z i => ∃ (y : Int) (k : Nat), k ≤ zss.length ∧ z = .int .i64 y ∧ i = .int .i64 k ∧ Hid (∀ (i : Nat) zs, i < k → zss[i]? = some zs → zs.length ≤ 65536)) (fun _ i => zss.length - (intOf i).toNat)
          case atStart => exact ⟨_, 0, Nat.zero_le _, rfl, rfl, fun i zs h => by omega⟩
          case round =>
            obtain ⟨y1, k1, hk, rfl, rfl, HK⟩ := hrel
            by_cases hlt : k1 < zss.length
            · obtain ⟨zs, hs⟩ : ∃ s, zss[k1]? = some s := ⟨zss[k1], by simp [hlt]⟩
              obtain ⟨b, o, rfl, hb, hc⟩ := hx.place hs
              obtain ⟨a', c', hcell, hsl⟩ := hc k1 zs hs
              have hss := m5 k1 zs hs
              have HS : Hid (zss[k1]? = some zs) := hs
              clear hc hs hn hx hr hsl m5
              by_cases hbig : zs.length ≤ 65536
              · go_wp2
                go_round
                case rel =>
                  refine ⟨_, k1 + 1, by omega, rfl, by go_num, fun i l hi hl => ?_⟩
                  by_cases e : i = k1
                  · subst e
                    rw [HS.out] at hl
                    simp at hl
                    subst hl
                    exact hbig
                  · exact HK.out i l (by omega) hl
                case measure => simp [intOf]; omega
              · go_wp2
                go_ret
                exact ⟨_, rfl, rfl, fun h => absurd h (by omega)⟩
            · go_wp2
              go_ret
              exact ⟨_, rfl, rfl, fun _ i zs hz => HK.out i zs (by have := lt_of_some hz; omega) hz⟩

end Go.Proofs.Qxb6601388a
