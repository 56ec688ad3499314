import Derived.Test.Qxb6001389aRows
import Derived.Test.Qxb6001389aMaps
namespace Go.Proofs.Qxb6001389a
open Go.RowKit
set_option linter.unusedVariables false

theorem Try.info9 : (Try.prog.info? 9).map (fun i => (i.zero, i.size, i.bytes)) = some (some (.string ByteArray.empty), 1, 16) := by kernel_rfl
theorem Try.info3 : (Try.prog.info? 3).map (fun i => (i.zero, i.size, i.bytes)) = some (some (.int .i64 0), 1, 8) := by kernel_rfl

/-- cloneStrings -/
theorem clone10 (v : Value) (zs : List ByteArray) (w : World) (h : Sl (Value.string) w w.heap.size v zs) (hn : zs.length ≤ 1048576) :
    Calls Try.prog 10 #[v] w fun e w' => ∃ v', e = .returned v' ∧ w'.ownsRow w.heap.size 9 1 v' zs.length (zs.map (Value.string)) ∧ Below w.heap.size w w' := by
  have qnil : ∀ (w : World) (a : Option Addr) (n c : Nat), (binOp .eql 22 (.slice a n c) (.slice none 0 0)).run Try.prog w = .ok (.bool a.isNone) w := fun w a n c => Lib.run_eql_slice_nil w _ _ a n c 0 0 Try.underlying22
  have hmk := run_make_row' (P := Try.prog) 22 9 (.string ByteArray.empty) 16 Try.underlying22 Try.info9 rfl .i64 .i64 zs.length (by omega) (by omega)
  rcases h with ⟨rfl, rfl⟩ | ⟨b, o, s, c, rfl, hb, hc⟩
  · go_enter Try.func10, Try.ntmps10
    go_wp2
    go_ret
    exact ⟨_, rfl, World.ownsRow_nil _ _ _ _, Below.refl _ _⟩
  · go_enter Try.func10, Try.ntmps10
    go_wp2
    go_loopw [4] (fun i wr => ∃ k : Nat, k ≤ zs.length ∧ i = .int .i64 k ∧ wr.rowIs w.heap.size 9 zs.length (fun j => if j < k then .string (zs.getD j ByteArray.empty) else .string ByteArray.empty) ∧ Below w.heap.size w wr) (fun i _ => zs.length - (intOf i).toNat)
    case atStart =>
      exact ⟨0, Nat.zero_le _, rfl, (World.rowIs_made w (.string ByteArray.empty) zs.length 9).congr (fun i hi => by simp), (Below.refl _ _).alloc (Nat.le_refl _) _⟩
    case round =>
      obtain ⟨k, hk, rfl, hrow, hbel⟩ := hrel
      by_cases hlt : k < zs.length
      · obtain ⟨rfl, hbw⟩ := hb (by omega)
        obtain ⟨z, hz⟩ : ∃ z, zs[k]? = some z := ⟨zs[k], by simp [hlt]⟩
        have hcell : wr.cell? ⟨b, o + k, none⟩ = some (.string z) := by rw [hbel.cell (p := ⟨b, o + k, none⟩) hbw]; exact hc k z hz
        have hfz := hrow.frozen k
        have HR : Hid ((wr.setCell ⟨w.heap.size, k, none⟩ (.string z)).rowIs w.heap.size 9 zs.length (fun j => if j < k + 1 then .string (zs.getD j ByteArray.empty) else .string ByteArray.empty)) := by
          refine (hrow.set k (.string z)).congr (fun i hi => ?_)
          by_cases h1 : i = k
          · subst h1; simp [hz]
          · by_cases h2 : i < k
            · simp [h1, h2, show i < k + 1 by omega]
            · simp [h1, h2, show ¬ i < k + 1 by omega]
        have hc0 := hrow.cell hlt
        simp only [Nat.lt_irrefl, if_false] at hc0
        have HB : Hid (Below w.heap.size w (wr.setCell ⟨w.heap.size, k, none⟩ (.string z))) := hbel.setCell (Nat.le_refl _) _
        clear hrow hbel hc hz
        go_wp2
        go_roundw
        case rel => exact ⟨k + 1, by omega, by go_num, HR.out, HB.out⟩
        case measure => simp [intOf]; omega
      · go_wp2
        go_ret
        refine ⟨_, rfl, own_of_rowIs hrow (fun i z hz => ?_) (Nat.le_refl _) (by unfold maxLen; omega), hbel⟩
        have := lt_of_some hz
        rw [if_pos (by omega)]
        simp [hz]

/-- cloneInts -/
theorem clone11 (v : Value) (zs : List Int) (w : World) (h : Sl (Value.int .i64) w w.heap.size v zs) (hn : zs.length ≤ 1048576) :
    Calls Try.prog 11 #[v] w fun e w' => ∃ v', e = .returned v' ∧ w'.ownsRow w.heap.size 3 1 v' zs.length (zs.map (Value.int .i64)) ∧ Below w.heap.size w w' := by
  have qnil : ∀ (w : World) (a : Option Addr) (n c : Nat), (binOp .eql 23 (.slice a n c) (.slice none 0 0)).run Try.prog w = .ok (.bool a.isNone) w := fun w a n c => Lib.run_eql_slice_nil w _ _ a n c 0 0 Try.underlying23
  have hmk := run_make_row' (P := Try.prog) 23 3 (.int .i64 0) 8 Try.underlying23 Try.info3 rfl .i64 .i64 zs.length (by omega) (by omega)
  rcases h with ⟨rfl, rfl⟩ | ⟨b, o, s, c, rfl, hb, hc⟩
  · go_enter Try.func11, Try.ntmps11
    go_wp2
    go_ret
    exact ⟨_, rfl, World.ownsRow_nil _ _ _ _, Below.refl _ _⟩
  · go_enter Try.func11, Try.ntmps11
    go_wp2
    go_loopw [4] (fun i wr => ∃ k : Nat, k ≤ zs.length ∧ i = .int .i64 k ∧ wr.rowIs w.heap.size 3 zs.length (fun j => if j < k then .int .i64 (zs.getD j 0) else .int .i64 0) ∧ Below w.heap.size w wr) (fun i _ => zs.length - (intOf i).toNat)
    case atStart =>
      exact ⟨0, Nat.zero_le _, rfl, (World.rowIs_made w (.int .i64 0) zs.length 3).congr (fun i hi => by simp), (Below.refl _ _).alloc (Nat.le_refl _) _⟩
    case round =>
      obtain ⟨k, hk, rfl, hrow, hbel⟩ := hrel
      by_cases hlt : k < zs.length
      · obtain ⟨rfl, hbw⟩ := hb (by omega)
        obtain ⟨z, hz⟩ : ∃ z, zs[k]? = some z := ⟨zs[k], by simp [hlt]⟩
        have hcell : wr.cell? ⟨b, o + k, none⟩ = some (.int .i64 z) := by rw [hbel.cell (p := ⟨b, o + k, none⟩) hbw]; exact hc k z hz
        have hfz := hrow.frozen k
        have HR : Hid ((wr.setCell ⟨w.heap.size, k, none⟩ (.int .i64 z)).rowIs w.heap.size 3 zs.length (fun j => if j < k + 1 then .int .i64 (zs.getD j 0) else .int .i64 0)) := by
          refine (hrow.set k (.int .i64 z)).congr (fun i hi => ?_)
          by_cases h1 : i = k
          · subst h1; simp [hz]
          · by_cases h2 : i < k
            · simp [h1, h2, show i < k + 1 by omega]
            · simp [h1, h2, show ¬ i < k + 1 by omega]
        have hc0 := hrow.cell hlt
        simp only [Nat.lt_irrefl, if_false] at hc0
        have HB : Hid (Below w.heap.size w (wr.setCell ⟨w.heap.size, k, none⟩ (.int .i64 z))) := hbel.setCell (Nat.le_refl _) _
        clear hrow hbel hc hz
        go_wp2
        go_roundw
        case rel => exact ⟨k + 1, by omega, by go_num, HR.out, HB.out⟩
        case measure => simp [intOf]; omega
      · go_wp2
        go_ret
        refine ⟨_, rfl, own_of_rowIs hrow (fun i z hz => ?_) (Nat.le_refl _) (by unfold maxLen; omega), hbel⟩
        have := lt_of_some hz
        rw [if_pos (by omega)]
        simp [hz]


def SaidB (w : World) (e : Ending) (w' : World) : Prop := ∃ b : Bool, e = .returned (.bool b) ∧ w = w'

set_option maxHeartbeats 400000 in
/-- zzBytes: it answers; what it says is not asked. -/
theorem bytes6 (nv pv : Value) (ns : List ByteArray) (zs : List Int) (w : World) (B : Nat) (hn : Sl Value.string w B nv ns) (hp : Sl (Value.int .i64) w B pv zs) (m1 : ns.length ≤ maxLen) (m2 : zs.length ≤ maxLen) :
    Calls Try.prog 6 #[nv, pv] w (SaidB w) := by
  obtain ⟨a0, c0, rfl⟩ := hn.form
  obtain ⟨a1, c1, rfl⟩ := hp.form
  unfold maxLen at m1 m2
  go_enter Try.func6, Try.ntmps6
  go_wp2
  all_goals try (go_ret; exact ⟨_, rfl, rfl⟩)
  go_loop [5, 6] (fun z i => ∃ (y : Int) (k : Nat), k ≤ ns.length ∧ z = .int .i64 y ∧ i = .int .i64 k) (fun _ i => ns.length - (intOf i).toNat)
  case atStart => exact ⟨_, 0, Nat.zero_le _, rfl, rfl⟩
  case round =>
    obtain ⟨y, k, hk, rfl, rfl⟩ := hrel
    by_cases hlt : k < ns.length
    · obtain ⟨s, hs⟩ : ∃ s, ns[k]? = some s := ⟨ns[k], by simp [hlt]⟩
      obtain ⟨b, o, rfl, hb, hc⟩ := hn.place hs
      have hcell := hc k s hs
      clear hc hs hn hp
      go_wp2
      all_goals try (go_ret; exact ⟨_, rfl, rfl⟩)
      go_round
      case rel => exact ⟨_, k + 1, by omega, rfl, by go_num⟩
      case measure => simp [intOf]; omega
    · go_wp2
      all_goals (go_ret; exact ⟨_, rfl, rfl⟩)

set_option maxHeartbeats 400000 in
/-- zzBytes: it answers; what it says is not asked. -/
theorem bytes14 (nv pv : Value) (ns : List ByteArray) (zs : List Int) (w : World) (B : Nat) (hn : Sl Value.string w B nv ns) (hp : Sl (Value.int .i64) w B pv zs) (m1 : ns.length ≤ maxLen) (m2 : zs.length ≤ maxLen) :
    Calls Try.prog 14 #[nv, pv] w (SaidB w) := by
  obtain ⟨a0, c0, rfl⟩ := hn.form
  obtain ⟨a1, c1, rfl⟩ := hp.form
  unfold maxLen at m1 m2
  go_enter Try.func14, Try.ntmps14
  go_wp2
  all_goals try (go_ret; exact ⟨_, rfl, rfl⟩)
  go_loop [5, 6] (fun z i => ∃ (y : Int) (k : Nat), k ≤ ns.length ∧ z = .int .i64 y ∧ i = .int .i64 k) (fun _ i => ns.length - (intOf i).toNat)
  case atStart => exact ⟨_, 0, Nat.zero_le _, rfl, rfl⟩
  case round =>
    obtain ⟨y, k, hk, rfl, rfl⟩ := hrel
    by_cases hlt : k < ns.length
    · obtain ⟨s, hs⟩ : ∃ s, ns[k]? = some s := ⟨ns[k], by simp [hlt]⟩
      obtain ⟨b, o, rfl, hb, hc⟩ := hn.place hs
      have hcell := hc k s hs
      clear hc hs hn hp
      go_wp2
      all_goals try (go_ret; exact ⟨_, rfl, rfl⟩)
      go_round
      case rel => exact ⟨_, k + 1, by omega, rfl, by go_num⟩
      case measure => simp [intOf]; omega
    · go_wp2
      all_goals (go_ret; exact ⟨_, rfl, rfl⟩)

set_option maxHeartbeats 400000 in
/-- sizeOK -/
theorem size7 (nv : Value) (ns : List ByteArray) (x : Int) (w : World) (B : Nat) (hn : Sl Value.string w B nv ns) (m1 : ns.length ≤ maxLen) :
    Calls Try.prog 7 #[nv, .int .i64 x] w (SaidB w) := by
  obtain ⟨a0, c0, rfl⟩ := hn.form
  unfold maxLen at m1
  go_enter Try.func7, Try.ntmps7
  go_wp2
  all_goals try (go_ret; exact ⟨_, rfl, rfl⟩)
  go_loop [5, 6] (fun z i => ∃ (y : Int) (k : Nat), k ≤ ns.length ∧ z = .int .i64 y ∧ i = .int .i64 k) (fun _ i => ns.length - (intOf i).toNat)
  case atStart => exact ⟨_, 0, Nat.zero_le _, rfl, rfl⟩
  case round =>
    obtain ⟨y, k, hk, rfl, rfl⟩ := hrel
    by_cases hlt : k < ns.length
    · obtain ⟨s, hs⟩ : ∃ s, ns[k]? = some s := ⟨ns[k], by simp [hlt]⟩
      obtain ⟨b, o, rfl, hb, hc⟩ := hn.place hs
      have hcell := hc k s hs
      clear hc hs hn
      go_wp2
      all_goals try (go_ret; exact ⟨_, rfl, rfl⟩)
      go_round
      case rel => exact ⟨_, k + 1, by omega, rfl, by go_num⟩
      case measure => simp [intOf]; omega
    · go_wp2
      go_ret
      exact ⟨_, rfl, rfl⟩

def Said8 (n : Nat) (zs : List Int) (w : World) (e : Ending) (w' : World) : Prop := ∃ b : Bool, e = .returned (.bool b) ∧ w = w' ∧ (b = true → ∀ (i : Nat) z, zs[i]? = some z → 0 ≤ z ∧ z < n)

set_option maxHeartbeats 400000 in
/-- indicesIn -/
theorem idx8 (pv : Value) (zs : List Int) (n : Nat) (w : World) (B : Nat) (hp : Sl (Value.int .i64) w B pv zs) (m2 : zs.length ≤ maxLen) :
    Calls Try.prog 8 #[pv, .int .i64 n] w (Said8 n zs w) := by
  obtain ⟨a0, c0, rfl⟩ := hp.form
  unfold maxLen at m2
  go_enter Try.func8, Try.ntmps8
  go_wp2
  go_loop [5] (fun i => ∃ k : Nat, k ≤ zs.length ∧ i = .int .i64 k ∧ Hid (∀ (i : Nat) z, i < k → zs[i]? = some z → 0 ≤ z ∧ z < n)) (fun i => zs.length - (intOf i).toNat)
  case atStart => exact ⟨0, Nat.zero_le _, rfl, fun i z h => by omega⟩
  case round =>
    obtain ⟨k, hk, rfl, HK⟩ := hrel
    by_cases hlt : k < zs.length
    · obtain ⟨z, hz⟩ : ∃ s, zs[k]? = some s := ⟨zs[k], by simp [hlt]⟩
      obtain ⟨b, o, rfl, hb, hc⟩ := hp.place hz
      have hcell := hc k z hz
      have HZ : Hid (zs[k]? = some z) := hz
      clear hc hz hp
      by_cases h0 : z < 0
      · go_wp2
        go_ret
        exact ⟨_, rfl, rfl, fun h => by cases h⟩
      · by_cases h1 : z < n
        · go_wp2
          go_round
          case rel =>
            refine ⟨k + 1, by omega, by go_num, fun i y hi hy => ?_⟩
            by_cases e : i = k
            · subst e
              rw [HZ.out] at hy
              simp at hy
              subst hy
              exact ⟨by omega, h1⟩
            · exact HK.out i y (by omega) hy
          case measure => simp [intOf]; omega
        · go_wp2
          go_ret
          exact ⟨_, rfl, rfl, fun h => by cases h⟩
    · go_wp2
      go_ret
      exact ⟨_, rfl, rfl, fun _ i z hz => HK.out i z (by have := lt_of_some hz; omega) hz⟩

/-- A number that is no less than nought, in its cell. -/
def nat64 (m : Nat) : Value := .int .i64 (m : Int)

theorem sl_nat {w : World} {B : Nat} {v : Value} {zs : List Int} (h : Sl (Value.int .i64) w B v zs) (hz : ∀ (i : Nat) z, zs[i]? = some z → 0 ≤ z) : Sl nat64 w B v (zs.map Int.toNat) := by
  rcases h with ⟨rfl, hv⟩ | ⟨b, o, s, c, hv, hlt, hc⟩
  · exact .inl ⟨rfl, hv⟩
  · refine .inr ⟨b, o, s, c, by rw [hv]; simp, by simpa using hlt, fun i m hm => ?_⟩
    rw [List.getElem?_map] at hm
    cases hzi : zs[i]? with
    | none => rw [hzi] at hm; simp at hm
    | some z =>
      rw [hzi] at hm
      simp at hm
      subst hm
      rw [hc i z hzi, nat64, Int.toNat_of_nonneg (hz i z hzi)]

def SaidI (w : World) (e : Ending) (w' : World) : Prop := ∃ z : Int, e = .returned (.int .i64 z) ∧ w = w'

set_option maxHeartbeats 400000 in
/-- unfoldedBytes -/
theorem unf9 (nv pv : Value) (ns : List ByteArray) (ms : List Nat) (x : Int) (w : World) (B : Nat) (hn : Sl Value.string w B nv ns) (hp : Sl nat64 w B pv ms) (m1 : ns.length ≤ maxLen) (m2 : ms.length ≤ maxLen) (hlt : ∀ (i m : Nat), ms[i]? = some m → m < ns.length) :
    Calls Try.prog 9 #[nv, pv, .int .i64 x] w (SaidI w) := by
  obtain ⟨a0, c0, rfl⟩ := hn.form
  obtain ⟨a1, c1, rfl⟩ := hp.form
  unfold maxLen at m1 m2
  go_enter Try.func9, Try.ntmps9
  go_wp2
  go_loop [7, 8] (fun z i => ∃ (y : Int) (k : Nat), k ≤ ms.length ∧ z = .int .i64 y ∧ i = .int .i64 k) (fun _ i => ms.length - (intOf i).toNat)
  case atStart => exact ⟨_, 0, Nat.zero_le _, rfl, rfl⟩
  case round =>
    obtain ⟨y, k, hk, rfl, rfl⟩ := hrel
    by_cases hkl : k < ms.length
    · obtain ⟨m, hm⟩ : ∃ s, ms[k]? = some s := ⟨ms[k], by simp [hkl]⟩
      have hml := hlt k m hm
      obtain ⟨s, hs⟩ : ∃ s, ns[m]? = some s := ⟨ns[m], by simp [hml]⟩
      obtain ⟨b, o, rfl, hb, hc⟩ := hn.place hs
      obtain ⟨b2, o2, rfl, hb2, hc2⟩ := hp.place hm
      have hcell := hc m s hs
      have hcell2 : w.cell? ⟨b2, o2 + k, none⟩ = some (.int .i64 (m : Int)) := hc2 k m hm
      clear hc hs hn hp hc2 hm hlt
      go_wp2
      all_goals try (go_ret; exact ⟨_, rfl, rfl⟩)
      go_round
      case rel => exact ⟨_, k + 1, by omega, rfl, by go_num⟩
      case measure => simp [intOf]; omega
    · go_wp2
      go_ret
      exact ⟨_, rfl, rfl⟩

end Go.Proofs.Qxb6001389a
