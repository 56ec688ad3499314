import Derived.Test.Qxb6601388aStk2
namespace Go.Proofs.Qxb6601388a
open Go.RowKit
set_option linter.unusedVariables false

/-- What both matchers answer. -/
def stackV (cv : ByteArray → ByteArray → Bool) (ni ns : Bool) (items stack : List ByteArray) : Bool :=
  ni || (bif ns then (!items.isEmpty && items.all (fun s => decide (s = allS))) else mtAt cv items stack 0 0)

theorem stackV_nil {cv : ByteArray → ByteArray → Bool} {ns : Bool} {items stack : List ByteArray} : stackV cv true ns items stack = true := rfl
theorem stackV_mt {cv : ByteArray → ByteArray → Bool} {items stack : List ByteArray} : stackV cv false false items stack = mtAt cv items stack 0 0 := rfl
theorem stackV_empty {cv : ByteArray → ByteArray → Bool} {stack : List ByteArray} : stackV cv false true [] stack = false := rfl
theorem stackV_yes {cv : ByteArray → ByteArray → Bool} {items stack : List ByteArray} (h0 : 0 < items.length) (h : ∀ (i : Nat) s, items[i]? = some s → s = allS) : stackV cv false true items stack = true := by
  simp only [stackV, Bool.false_or, cond_true, Bool.and_eq_true, List.all_eq_true, decide_eq_true_eq]
  refine ⟨?_, fun s hs => ?_⟩
  · cases items with
    | nil => simp at h0
    | cons => rfl
  · obtain ⟨i, hi⟩ := List.getElem?_of_mem hs
    exact h i s hi
theorem stackV_no {cv : ByteArray → ByteArray → Bool} {items stack : List ByteArray} {i : Nat} {s : ByteArray} (hs : items[i]? = some s) (h : s ≠ allS) : stackV cv false true items stack = false := by
  simp only [stackV, Bool.false_or, cond_true]
  rw [Bool.and_eq_false_iff]
  right
  rw [List.all_eq_false]
  exact ⟨s, List.mem_of_getElem? hs, by simpa using h⟩

def StackSaid (v : Bool) (w : World) (e : Ending) (w' : World) : Prop := e = .returned (.bool v) ∧ Below w.heap.size w w'

set_option maxRecDepth 100000 in
set_option maxHeartbeats 1000000 in
/-- zzstackModel -/
theorem model11 (a0 a1 : Option Nat) (dom : ByteArray → Bool) (hold : ByteArray → ByteArray) (iv sv : Value) (items stack : List ByteArray) (w : World)
    (hall : Hid (∀ wx, Below w.heap.size w wx → LookD wx a0 dom ∧ LookH wx a1 hold)) (hs1 : Sl Value.string w w.heap.size iv items) (hs2 : Sl Value.string w w.heap.size sv stack)
    (l1 : items.length ≤ 256) (l2 : stack.length ≤ 256) (z1 : Hid (∀ (i : Nat) s, items[i]? = some s → s.size ≤ maxLen)) (z2 : Hid (∀ (i : Nat) s, stack[i]? = some s → s.size ≤ maxLen)) :
    Calls Try.prog 11 #[.map a0, .map a1, iv, sv] w (StackSaid (stackV (cov dom hold) (nilS iv) (nilS sv) items stack) w) := by
  have qnil : ∀ (w : World) (a : Option Addr) (n c : Nat), (binOp .eql 24 (.slice a n c) (.slice none 0 0)).run Try.prog w = .ok (.bool a.isNone) w := fun w a n c => Lib.run_eql_slice_nil w _ _ a n c 0 0 Try.underlying24
  have hs1' := hs1
  have hs2' := hs2
  rcases hs1' with ⟨rfl, rfl⟩ | ⟨b1, o1, t1, c1, rfl, g1, g2⟩
  · rw [show nilS (.slice none 0 0) = true from rfl, stackV_nil]
    obtain ⟨p2, c2, rfl⟩ := hs2.form
    go_enter Try.func11, Try.ntmps11
    go_wp2_with fail
    go_ret
    exact ⟨rfl, Below.refl _ _⟩
  · clear g1 g2
    rw [show nilS (.slice (some ⟨b1, o1, t1⟩) items.length c1) = false from rfl]
    rcases hs2' with ⟨rfl, rfl⟩ | ⟨b2, o2, t2, c2, rfl, g1, g2⟩
    · rw [show nilS (.slice none 0 0) = true from rfl]
      by_cases h0 : items.length = 0
      · obtain rfl : items = [] := List.eq_nil_of_length_eq_zero h0
        rw [stackV_empty]
        go_enter Try.func11, Try.ntmps11
        go_wp2_with fail
        go_ret
        exact ⟨rfl, Below.refl _ _⟩
      · have hnz : ((items.length : Int) == 0) = false := beq_eq_false_iff_ne.2 (by omega)
        obtain ⟨V, hV⟩ : ∃ V, stackV (cov dom hold) false true items [] = V := ⟨_, rfl⟩
        rw [hV]
        have HV : Hid (stackV (cov dom hold) false true items [] = V) := hV
        clear hV
        go_enter Try.func11, Try.ntmps11
        go_wp2_with fail
        go_loop [9] (fun i => ∃ k : Nat, k ≤ items.length ∧ i = .int .i64 k ∧ Hid (∀ (i : Nat) s, i < k → items[i]? = some s → s = allS)) (fun i => items.length - (intOf i).toNat)
        case atStart => exact ⟨0, Nat.zero_le _, rfl, fun i s h => by omega⟩
        case round =>
          obtain ⟨k, hk, rfl, HK⟩ := hrel
          by_cases hlt : k < items.length
          · obtain ⟨s, hs⟩ : ∃ s, items[k]? = some s := ⟨items[k], by simp [hlt]⟩
            obtain ⟨b, o, e, hb, hc⟩ := hs1.place hs
            simp only [Option.some.injEq, Addr.mk.injEq] at e
            obtain ⟨rfl, rfl, rfl⟩ := e
            have hcell := hc k s hs
            have HS : Hid (items[k]? = some s) := hs
            have hlti : (k : Int) < items.length := by omega
            clear hc hs
            by_cases he : s = allS
            · subst he
              have hA := all_beq
              go_wp2_with fail
              go_round
              case rel =>
                refine ⟨k + 1, by omega, by go_num, fun i s hi hs => ?_⟩
                by_cases e : i = k
                · subst e
                  rw [HS.out] at hs
                  simp at hs
                  exact hs.symm
                · exact HK.out i s (by omega) hs
              case measure => simp [intOf]; omega
            · have hA := all_bne he
              have HV2 : Hid (V = false) := by rw [← HV.out]; exact stackV_no HS.out he
              clear he
              go_wp2_with fail
              go_ret
              exact ⟨by rw [HV2.out]; rfl, Below.refl _ _⟩
          · have HV2 : Hid (V = true) := by rw [← HV.out]; exact stackV_yes (by omega) (fun i s hs => HK.out i s (by have := lt_of_some hs; omega) hs)
            go_wp2_with fail
            go_ret
            exact ⟨by rw [HV2.out]; rfl, Below.refl _ _⟩
    · clear g1 g2
      rw [show nilS (.slice (some ⟨b2, o2, t2⟩) stack.length c2) = false from rfl, stackV_mt]
      obtain ⟨L, hL⟩ : ∃ L, (items.length + 1) * (stack.length + 1) = L := ⟨_, rfl⟩
      have hLb : L ≤ 66049 := by rw [← hL]; exact Nat.mul_le_mul (show items.length + 1 ≤ 257 by omega) (show stack.length + 1 ≤ 257 by omega)
      have hLi : ((items.length : Int) + 1) * ((stack.length : Int) + 1) = (L : Int) := by rw [← hL]; simp
      have hb1 : 0 ≤ ((items.length : Int) + 1) * ((stack.length : Int) + 1) := by omega
      have hb2 : ((items.length : Int) + 1) * ((stack.length : Int) + 1) ≤ 66049 := by omega
      have hmk := run_make_row' (P := Try.prog) 47 60 (.int .i8 0) 1 Try.underlying47 Try.info60 rfl .i64 .i64 L (by omega) (by omega)
      have HLL : Hid ((items.length + 1) * (stack.length + 1) = L) := hL
      clear hL
      go_enter Try.func11, Try.ntmps11
      go_wp2_with fail
      have b0 : Below w.heap.size w (w.alloc (.cells (madeCells #[.int .i8 0] L) 60)) := (Below.refl _ _).alloc (Nat.le_refl _) _
      have hM : Memo (cov dom hold) items stack (w.alloc (.cells (madeCells #[.int .i8 0] L) 60)) w.heap.size L :=
        ⟨HLL.out.symm, _, World.rowIs_made w (.int .i8 0) L 60, fun i j _ _ => .inl rfl⟩
      refine (match24 w w.heap.size w.heap.size w.heap.size L a0 a1 dom hold _ _ items stack hall (Nat.le_refl _) (Nat.le_refl _) l1 l2 z1 z2 1000 0 0 _ _ _ (by omega) (by omega) (by omega) rfl rfl b0 (hs1.below b0) (hs2.below b0) hM).mono ?_
      rintro e w1 ⟨rfl, hM1, hg1⟩
      have R : Hid (Below w.heap.size w w1) := b0.grown hg1 (by simp) (fun q hq => by cases hq; exact Nat.le_refl _)
      clear hM1 hg1 hM b0
      go_wp2_with fail
      go_ret
      exact ⟨rfl, R.out⟩

end Go.Proofs.Qxb6601388a
