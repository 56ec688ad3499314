import Derived.Test.Qxb6601388aRows
import Derived.Test.Qxb6601388aMatch
import Derived.Test.Qxb6601388aMaps
namespace Go.Proofs.Qxb6601388a
open Go.RowKit
set_option linter.unusedVariables false

theorem Try.info9 : (Try.prog.info? 9).map (fun i => (i.zero, i.size, i.bytes)) = some (some (.string ByteArray.empty), 1, 16) := by kernel_rfl
theorem Try.info4 : (Try.prog.info? 4).map (fun i => (i.zero, i.size, i.bytes)) = some (some (.bool false), 1, 1) := by kernel_rfl
theorem Try.info60 : (Try.prog.info? 60).map (fun i => (i.zero, i.size, i.bytes)) = some (some (.int .i8 0), 1, 1) := by kernel_rfl

def nilS : Value → Bool
  | .slice none _ _ => true
  | _ => false

/-- zzcloneStr -/
theorem clone9 (v : Value) (zs : List ByteArray) (w : World) (h : Sl (Value.string) w w.heap.size v zs) (hn : zs.length ≤ 1048576) :
    Calls Try.prog 9 #[v] w fun e w' => ∃ v', e = .returned v' ∧ w'.ownsRow w.heap.size 9 1 v' zs.length (zs.map (Value.string)) ∧ Below w.heap.size w w' ∧ nilS v' = nilS v := by
  have qnil : ∀ (w : World) (a : Option Addr) (n c : Nat), (binOp .eql 24 (.slice a n c) (.slice none 0 0)).run Try.prog w = .ok (.bool a.isNone) w := fun w a n c => Lib.run_eql_slice_nil w _ _ a n c 0 0 Try.underlying24
  have hmk := run_make_row' (P := Try.prog) 24 9 (.string ByteArray.empty) 16 Try.underlying24 Try.info9 rfl .i64 .i64 zs.length (by omega) (by omega)
  rcases h with ⟨rfl, rfl⟩ | ⟨b, o, s, c, rfl, hb, hc⟩
  · go_enter Try.func9, Try.ntmps9
    go_wp2
    go_ret
    exact ⟨_, rfl, World.ownsRow_nil _ _ _ _, Below.refl _ _, rfl⟩
  · go_enter Try.func9, Try.ntmps9
    go_wp2
    go_loopw [4] (fun i wr => ∃ k : Nat, k ≤ zs.length ∧ i = .int .i64 k ∧ wr.rowIs w.heap.size 9 zs.length (fun j => if j < k then .string (zs.getD j ByteArray.empty) else .string ByteArray.empty) ∧ Below w.heap.size w wr) (fun i _ => zs.length - (intOf i).toNat)
    case atStart =>
      exact ⟨0, Nat.zero_le _, rfl, (World.rowIs_made w (.string ByteArray.empty) zs.length 9).congr (fun i hi => by simp), (Below.refl _ _).alloc (Nat.le_refl _) _⟩
    case round =>
      obtain ⟨k, hk, rfl, hrow, hbel⟩ := hrel
      by_cases hlt : k < zs.length
      · obtain ⟨rfl, hbw⟩ := hb (by omega)
        obtain ⟨z, hz⟩ : ∃ z, zs[k]? = some z := ⟨zs[k], by simp [hlt]⟩
        have hcell : wr.cell? ⟨b, o + k, none⟩ = some (.string z) := by rw [hbel.cell (p := ⟨b, o + k, none⟩) hbw]; exact hc k z hz
        have hfz := hrow.frozen k
        have HR : Hid ((wr.setCell ⟨w.heap.size, k, none⟩ (.string z)).rowIs w.heap.size 9 zs.length (fun j => if j < k + 1 then .string (zs.getD j ByteArray.empty) else .string ByteArray.empty)) := by
          refine (hrow.set k (.string z)).congr (fun i hi => ?_)
          by_cases h1 : i = k
          · subst h1; simp [hz]
          · by_cases h2 : i < k
            · simp [h1, h2, show i < k + 1 by omega]
            · simp [h1, h2, show ¬ i < k + 1 by omega]
        have hc0 := hrow.cell hlt
        simp only [Nat.lt_irrefl, if_false] at hc0
        have HB : Hid (Below w.heap.size w (wr.setCell ⟨w.heap.size, k, none⟩ (.string z))) := hbel.setCell (Nat.le_refl _) _
        clear hrow hbel hc hz
        go_wp2
        go_roundw
        case rel => exact ⟨k + 1, by omega, by go_num, HR.out, HB.out⟩
        case measure => simp [intOf]; omega
      · go_wp2
        go_ret
        refine ⟨_, rfl, own_of_rowIs hrow (fun i z hz => ?_) (Nat.le_refl _) (by unfold maxLen; omega), hbel, rfl⟩
        have := lt_of_some hz
        rw [if_pos (by omega)]
        simp [hz]


def SaidI (w : World) (e : Ending) (w' : World) : Prop := ∃ z : Int, e = .returned (.int .i64 z) ∧ w = w'

set_option maxHeartbeats 400000 in
/-- zzstackBytes -/
theorem bytes8 (nv : Value) (ns : List ByteArray) (w : World) (B : Nat) (hn : Sl Value.string w B nv ns) (m1 : ns.length ≤ maxLen) :
    Calls Try.prog 8 #[nv] w (SaidI w) := by
  obtain ⟨a0, c0, rfl⟩ := hn.form
  unfold maxLen at m1
  go_enter Try.func8, Try.ntmps8
  go_wp2
  go_loop [3, 4] (fun z i => ∃ (y : Int) (k : Nat), k ≤ ns.length ∧ z = .int .i64 y ∧ i = .int .i64 k) (fun _ i => ns.length - (intOf i).toNat)
  case atStart => exact ⟨_, 0, Nat.zero_le _, rfl, rfl⟩
  case round =>
    obtain ⟨y, k, hk, rfl, rfl⟩ := hrel
    by_cases hlt : k < ns.length
    · obtain ⟨s, hs⟩ : ∃ s, ns[k]? = some s := ⟨ns[k], by simp [hlt]⟩
      obtain ⟨b, o, rfl, hb, hc⟩ := hn.place hs
      have hcell := hc k s hs
      clear hc hs hn
      go_wp2
      all_goals try (go_ret; exact ⟨_, rfl, rfl⟩)
      go_round
      case rel => exact ⟨_, k + 1, by omega, rfl, by go_num⟩
      case measure => simp [intOf]; omega
    · go_wp2
      go_ret
      exact ⟨_, rfl, rfl⟩

def LookD (w : World) (a : Option Nat) (dom : ByteArray → Bool) : Prop := ∀ s, s.size ≤ maxLen → (Instr.lookup 22 (.map a) (.string s) false).run Try.prog w = .ok (.bool (dom s)) w
def LookH (w : World) (a : Option Nat) (hold : ByteArray → ByteArray) : Prop := ∀ s, s.size ≤ maxLen → (Instr.lookup 23 (.map a) (.string s) false).run Try.prog w = .ok (.string (hold s)) w

def cov (dom : ByteArray → Bool) (hold : ByteArray → ByteArray) (it f : ByteArray) : Bool := bif dom it then (hold f).toList == it.toList else it.toList == f.toList

theorem cov_t {dom : ByteArray → Bool} {hold : ByteArray → ByteArray} {it f : ByteArray} (h : dom it = true) : cov dom hold it f = ((hold f).toList == it.toList) := by simp [cov, h]
theorem cov_f {dom : ByteArray → Bool} {hold : ByteArray → ByteArray} {it f : ByteArray} (h : dom it = false) : cov dom hold it f = (it.toList == f.toList) := by simp [cov, h]

theorem covers28 (p : Nat) (a0 a1 : Option Nat) (dom : ByteArray → Bool) (hold : ByteArray → ByteArray) (it f : ByteArray) (w : World) (h0 : w.cell? ⟨p, 0, none⟩ = some (.map a0)) (h1 : w.cell? ⟨p, 1, none⟩ = some (.map a1))
    (hd : LookD w a0 dom) (hh : LookH w a1 hold) (hi : it.size ≤ maxLen) (hf : f.size ≤ maxLen) :
    Calls Try.prog 28 #[.pointer (some ⟨p, 0, none⟩), .string it, .string f] w fun e w' => e = .returned (.bool (cov dom hold it f)) ∧ w = w' := by
  have l0 := hd it hi
  have l1 := hh f hf
  cases hb : dom it with
  | true =>
    rw [hb] at l0
    rw [cov_t hb]
    clear hb
    go_enter Try.func28, Try.ntmps28
    go_wp2
    go_ret
    exact ⟨rfl, rfl⟩
  | false =>
    rw [hb] at l0
    rw [cov_f hb]
    clear hb
    go_enter Try.func28, Try.ntmps28
    go_wp2
    go_ret
    exact ⟨rfl, rfl⟩

theorem covers29 (a0 a1 : Option Nat) (dom : ByteArray → Bool) (hold : ByteArray → ByteArray) (it f : ByteArray) (w : World)
    (hd : LookD w a0 dom) (hh : LookH w a1 hold) (hi : it.size ≤ maxLen) (hf : f.size ≤ maxLen) :
    Calls Try.prog 29 #[.map a0, .map a1, .string it, .string f] w fun e w' => e = .returned (.bool (cov dom hold it f)) ∧ w = w' := by
  have l0 := hd it hi
  have l1 := hh f hf
  cases hb : dom it with
  | true =>
    rw [hb] at l0
    rw [cov_t hb]
    clear hb
    go_enter Try.func29, Try.ntmps29
    go_wp2
    go_ret
    exact ⟨rfl, rfl⟩
  | false =>
    rw [hb] at l0
    rw [cov_f hb]
    clear hb
    go_enter Try.func29, Try.ntmps29
    go_wp2
    go_ret
    exact ⟨rfl, rfl⟩

/-! ### zzmatch -/

/-- The memo: each entry nought, or what it ought to be. -/
def Memo (cv : ByteArray → ByteArray → Bool) (items stack : List ByteArray) (w : World) (mb L : Nat) : Prop :=
  L = (items.length + 1) * (stack.length + 1) ∧ ∃ F : Nat → Value, w.rowIs mb 60 L F ∧ ∀ i j, i ≤ items.length → j ≤ stack.length → F (i * (stack.length + 1) + j) = .int .i8 0 ∨ F (i * (stack.length + 1) + j) = .int .i8 (bif mtAt cv items stack i j then 2 else 1)

theorem idx_lt {I S i j : Nat} (hi : i ≤ I) (hj : j ≤ S) : i * (S + 1) + j < (I + 1) * (S + 1) := by
  have h1 : i * (S + 1) ≤ I * (S + 1) := Nat.mul_le_mul_right _ hi
  have h2 : (I + 1) * (S + 1) = I * (S + 1) + (S + 1) := by rw [Nat.add_mul, Nat.one_mul]
  omega

theorem idx_inj {S i j i' j' : Nat} (hj : j ≤ S) (hj' : j' ≤ S) (h : i * (S + 1) + j = i' * (S + 1) + j') : i = i' ∧ j = j' := by
  have e1 : (i * (S + 1) + j) / (S + 1) = i := by
    rw [Nat.add_comm, Nat.add_mul_div_right _ _ (by omega), Nat.div_eq_of_lt (by omega)]; omega
  have e2 : (i' * (S + 1) + j') / (S + 1) = i' := by
    rw [Nat.add_comm, Nat.add_mul_div_right _ _ (by omega), Nat.div_eq_of_lt (by omega)]; omega
  rw [h, e2] at e1
  subst e1
  exact ⟨rfl, by omega⟩

theorem Memo.store {cv : ByteArray → ByteArray → Bool} {items stack : List ByteArray} {w : World} {mb L i j : Nat} (h : Memo cv items stack w mb L) (hi : i ≤ items.length) (hj : j ≤ stack.length) {x : Int} (hx : x = bif mtAt cv items stack i j then 2 else 1) :
    Memo cv items stack (w.setCell ⟨mb, i * (stack.length + 1) + j, none⟩ (.int .i8 x)) mb L := by
  obtain ⟨hL, F, hrow, hF⟩ := h
  refine ⟨hL, _, hrow.set _ _, fun i' j' hi' hj' => ?_⟩
  by_cases e : i' * (stack.length + 1) + j' = i * (stack.length + 1) + j
  · obtain ⟨rfl, rfl⟩ := idx_inj hj' hj e
    right
    rw [if_pos rfl, hx]
  · rw [if_neg e]
    exact hF i' j' hi' hj'

end Go.Proofs.Qxb6601388a
