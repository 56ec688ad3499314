import Derived.Test.Qxb6001389aSizes
import Derived.Test.Qxb6001389aPlain
namespace Go.Proofs.Qxb6001389a
open Go.RowKit Go.Maps
set_option linter.unusedVariables false

theorem law9 : Keyed Try.prog 9 := string_keyed Try.underlying9
theorem zero3 (w : World) : (zeroValue 3).run Try.prog w = .ok (.int .i64 0) w := by kernel_rfl
theorem zero4 (w : World) : (zeroValue 4).run Try.prog w = .ok (.bool false) w := by kernel_rfl

def intE : Elem Try.prog 3 Int where
  f := Value.int .i64
  g := Lit.int .i64
  z := 0
  ok := fun x => (Lit.int .i64 x).wf = true
  h1 := fun x hx => plainElem_int Try.underlying3 hx
  h2 := fun v x ps h => by
    obtain ⟨a, rfl, h2, _⟩ := plainElem_int_inv Try.underlying3 h
    simp only [Prod.mk.injEq, DataW.lit.injEq, Lit.int.injEq, true_and] at h2
    rw [h2.1]
  hz := by decide
  h0 := zero3

theorem wf_nat {m : Nat} (h : m ≤ 9223372036854775807) : (Lit.int .i64 (m : Int)).wf = true := WalkArith.wf_i64 (by omega)

def enrZero : Value := .agg #[.string ByteArray.empty, .string ByteArray.empty, .string ByteArray.empty, .string ByteArray.empty, .string ByteArray.empty, .pointer none, .pointer none, .pointer none, .pointer none, .pointer none, .pointer none, .pointer none, .pointer none, .pointer none]
theorem Try.info41 : (Try.prog.info? 41).map (fun i => (i.zero, i.size, i.bytes)) = some (some enrZero, 14, 152) := by kernel_rfl

theorem rowIs_some (w : World) (c : Array Value) (t : TypeId) (n : Nat) (h : c.size = n) : ∃ F, (w.alloc (.cells c t)).rowIs w.heap.size t n F :=
  ⟨fun i => c[i]?.getD (.bool false), c, Deep.blk_alloc_new _ _, h, fun i hi => by simp [h, hi]⟩

/-- The roll: fourteen cells an entry, the NIM the second. -/
def RollIs (w : World) (B : Nat) (v : Value) (ns : List ByteArray) : Prop :=
  ∃ g c, v = .slice (some ⟨g, 0, none⟩) ns.length c ∧ g < B ∧ ∀ (j : Nat) s, ns[j]? = some s → w.cell? ⟨g, j * 14 + 1, none⟩ = some (.string s)

theorem RollIs.below {w w' : World} {B : Nat} {v : Value} {ns : List ByteArray} (h : RollIs w B v ns) (hb : Below B w w') : RollIs w' B v ns := by
  obtain ⟨g, c, hv, hg, hc⟩ := h
  exact ⟨g, c, hv, hg, fun j s hs => by rw [hb.cell (p := ⟨g, j * 14 + 1, none⟩) hg]; exact hc j s hs⟩

theorem RollIs.mono {w : World} {B B' : Nat} {v : Value} {ns : List ByteArray} (h : RollIs w B v ns) (hb : B ≤ B') : RollIs w B' v ns := by
  obtain ⟨g, c, hv, hg, hc⟩ := h
  exact ⟨g, c, hv, by omega, hc⟩

set_option maxHeartbeats 400000 in
/-- makeRoll -/
theorem roll12 (nv : Value) (ns : List ByteArray) (w : World) (hn : Sl Value.string w w.heap.size nv ns) (m1 : ns.length ≤ 1048576) :
    Calls Try.prog 12 #[nv] w fun e w' => ∃ v', e = .returned v' ∧ RollIs w' w'.heap.size v' ns ∧ Below w.heap.size w w' := by
  obtain ⟨i0, hi, hz0, hz1, hz2⟩ := info_parts Try.info41
  obtain ⟨a0, c0, rfl⟩ := hn.form
  obtain ⟨Z, hZ⟩ : ∃ Z : Array Value, enrZero.cells = Z := ⟨_, rfl⟩
  have hmk : ∀ w : World, (Instr.makeSlice 30 (.int .i64 (ns.length : Int)) (.int .i64 (ns.length : Int))).run Try.prog w = .ok (.slice (some ⟨w.heap.size, 0, none⟩) ns.length ns.length) (w.alloc (.cells (madeCells Z (ns.length * 14)) 41)) := by
    intro w
    have := run_make (P := Try.prog) w 30 41 i0 _ Try.underlying30 hi hz0 .i64 .i64 ns.length ns.length (by omega) (by omega) (by rw [hz2]; omega) (by omega)
    rw [hz1, hZ] at this
    simp only [Int.toNat_natCast] at this
    exact this
  clear hZ
  go_enter Try.func12, Try.ntmps12
  go_wp2
  go_loopw [4] (fun i wr => ∃ k : Nat, k ≤ ns.length ∧ i = .int .i64 k ∧ w.heap.size < wr.heap.size ∧ (∃ F, wr.rowIs w.heap.size 41 (ns.length * 14) F ∧ ∀ (j : Nat) s, j < k → ns[j]? = some s → F (j * 14 + 1) = .string s) ∧ Below w.heap.size w wr) (fun i _ => ns.length - (intOf i).toNat)
  case atStart =>
    obtain ⟨F, hF⟩ := rowIs_some w (madeCells Z (ns.length * 14)) 41 (ns.length * 14) (size_madeCells _ _)
    exact ⟨0, Nat.zero_le _, rfl, by simp, ⟨F, hF, fun j s hj => by omega⟩, (Below.refl _ _).alloc (Nat.le_refl _) _⟩
  case round =>
    obtain ⟨k, hk, rfl, hsz, ⟨F, hrow, hF⟩, hbel⟩ := hrel
    by_cases hlt : k < ns.length
    · obtain ⟨s, hs⟩ : ∃ z, ns[k]? = some z := ⟨ns[k], by simp [hlt]⟩
      obtain ⟨b, o, rfl, hbb, hc⟩ := hn.place hs
      have hcell : wr.cell? ⟨b, o + k, none⟩ = some (.string s) := by rw [hbel.cell (p := ⟨b, o + k, none⟩) hbb]; exact hc k s hs
      have d1 := hrow.cell (i := k * 14 + 1) (by omega)
      have f1 := hrow.frozen (k * 14 + 1)
      have R1 : Hid (∃ G, (wr.setCell ⟨w.heap.size, k * 14 + 1, none⟩ (.string s)).rowIs w.heap.size 41 (ns.length * 14) G ∧ ∀ (j : Nat) t, j < k + 1 → ns[j]? = some t → G (j * 14 + 1) = .string t) := by
        refine ⟨_, hrow.set _ _, fun j t hj ht => ?_⟩
        by_cases e : j = k
        · subst e
          rw [hs] at ht
          simp at ht
          subst ht
          simp
        · rw [if_neg (by omega)]
          exact hF j t (by omega) ht
      have R2 : Hid (Below w.heap.size w (wr.setCell ⟨w.heap.size, k * 14 + 1, none⟩ (.string s))) := hbel.setCell (Nat.le_refl _) _
      have R3 : Hid (w.heap.size < (wr.setCell ⟨w.heap.size, k * 14 + 1, none⟩ (.string s)).heap.size) := by rw [Deep.nblk_setCell]; exact hsz
      clear hrow hF hs hc hn hbel
      go_wp2
      go_roundw
      case rel => exact ⟨k + 1, by omega, by go_num, R3.out, R1.out, R2.out⟩
      case measure => simp [intOf]; omega
    · go_wp2
      go_ret
      refine ⟨_, rfl, ⟨w.heap.size, _, rfl, hsz, fun j s hs => ?_⟩, hbel⟩
      have hj := lt_of_some hs
      rw [hrow.cell (i := j * 14 + 1) (by omega), hF j s (by omega) hs]

def PlacesSaid (ns : List ByteArray) (ms : List Nat) (w : World) (e : Ending) (w' : World) : Prop :=
  ∃ b c, e = .returned (.map (some b)) ∧ MapIs intE 9 w' b ms.length (fwd (pairs ns ms)) c ∧ w.heap.size ≤ b ∧ Below w.heap.size w w'

set_option maxHeartbeats 400000 in
/-- placesByNIM -/
theorem places16 (rv pv : Value) (ns : List ByteArray) (ms : List Nat) (w : World) (hr : RollIs w w.heap.size rv ns) (hp : Sl nat64 w w.heap.size pv ms)
    (m1 : ns.length ≤ 1048576) (m2 : ms.length ≤ 1048576) (hlt : ∀ (i m : Nat), ms[i]? = some m → m < ns.length) (hsz : ∀ (i : Nat) s, ns[i]? = some s → s.size ≤ maxLen) :
    Calls Try.prog 16 #[rv, pv] w (PlacesSaid ns ms w) := by
  obtain ⟨a1, c1, rfl⟩ := hp.form
  obtain ⟨g, c, rfl, hg, hcells⟩ := hr
  have hmm := run_makeMap_some (P := Try.prog) Try.underlying32 (ms.length : Int)
  go_enter Try.func16, Try.ntmps16
  go_wp2
  go_loopw [13] (fun i wr => ∃ (k c : Nat), k ≤ ms.length ∧ i = .int .i64 k ∧ w.heap.size < wr.heap.size ∧ MapIs intE 9 wr w.heap.size k (fwd ((pairs ns ms).take k)) c ∧ Below w.heap.size w wr) (fun i _ => ms.length - (intOf i).toNat)
  case atStart => exact ⟨0, 0, Nat.zero_le _, rfl, by simp, MapIs.made w, (Below.refl _ _).alloc (Nat.le_refl _) _⟩
  case round =>
    obtain ⟨k, cc, hk, rfl, hszw, hmap, hbel⟩ := hrel
    by_cases hkl : k < ms.length
    · obtain ⟨m, hm⟩ : ∃ s, ms[k]? = some s := ⟨ms[k], by simp [hkl]⟩
      have hml := hlt k m hm
      obtain ⟨s, hs⟩ : ∃ s, ns[m]? = some s := ⟨ns[m], by simp [hml]⟩
      obtain ⟨b2, o2, rfl, hb2, hc2⟩ := hp.place hm
      have x1 : wr.cell? ⟨b2, o2 + k, none⟩ = some (.int .i64 (m : Int)) := by rw [hbel.cell (p := ⟨b2, o2 + k, none⟩) hb2]; exact hc2 k m hm
      have x2 : wr.cell? ⟨g, m * 14 + 1, none⟩ = some (.string s) := by rw [hbel.cell (p := ⟨g, m * 14 + 1, none⟩) hg]; exact hcells m s hs
      have hss := hsz m s hs
      have HF : Hid (fwd ((pairs ns ms).take (k + 1)) = upd (fwd ((pairs ns ms).take k)) s m) := fwd_take_step hm hs
      have HM : Hid (MapIs intE 9 wr w.heap.size k (fwd ((pairs ns ms).take k)) cc) := hmap
      have hmli : (m : Int) < ns.length := by omega
      clear hc2 hm hs hp hcells hmap
      go_wp2_with (at_mapUpdate; refine wpList_map_put _ rfl _ _ _ 32 rfl HM.out law9 Try.underlying9 Try.underlying32 ?n1 s hss (m : Int) ?n2 rfl rfl rfl ?_)
      case n1 => unfold maxLen; omega
      case n2 => exact wf_nat (by omega)
      · intro w1 c' hmap1 hcc hgrow
        have R1 : Hid (MapIs intE 9 w1 w.heap.size (k + 1) (fwd ((pairs ns ms).take (k + 1))) c') := by rw [HF.out]; exact hmap1
        have R2 : Hid (Below w.heap.size w w1) := hbel.grown hgrow (by omega) (fun q hq => by cases hq; exact Nat.le_refl _)
        have R3 : Hid (w.heap.size < w1.heap.size) := by have := hgrow.size; exact Nat.lt_of_lt_of_le hszw this
        clear hmap1 hgrow HM HF hcc
        go_wp2
        go_roundw
        case rel => exact ⟨k + 1, c', by omega, by go_num, R3.out, R1.out, R2.out⟩
        case measure => simp [intOf]; omega
    · obtain rfl : k = ms.length := by omega
      have e : (pairs ns ms).take ms.length = pairs ns ms := by rw [← pairs_len ns ms]; exact List.take_length
      rw [e] at hmap
      go_wp2
      go_ret
      exact ⟨_, _, rfl, hmap, Nat.le_refl _, hbel⟩

/-- ZZPlacesByNIM -/
theorem zz13 (rv pv : Value) (ns : List ByteArray) (ms : List Nat) (w : World) (hr : RollIs w w.heap.size rv ns) (hp : Sl nat64 w w.heap.size pv ms)
    (m1 : ns.length ≤ 1048576) (m2 : ms.length ≤ 1048576) (hlt : ∀ (i m : Nat), ms[i]? = some m → m < ns.length) (hsz : ∀ (i : Nat) s, ns[i]? = some s → s.size ≤ maxLen) :
    Calls Try.prog 13 #[rv, pv] w (PlacesSaid ns ms w) := by
  go_enter Try.func13, Try.ntmps13
  go_wp2_with fail
  refine (places16 rv pv ns ms _ hr hp m1 m2 hlt hsz).mono ?_
  rintro e w' ⟨b, c, rfl, h1, h2, h3⟩
  go_wp2
  go_ret
  exact ⟨b, c, rfl, h1, h2, h3⟩

end Go.Proofs.Qxb6001389a
