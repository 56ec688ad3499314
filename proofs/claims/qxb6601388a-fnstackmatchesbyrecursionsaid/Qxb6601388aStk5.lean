import Derived.Test.Qxb6601388aStk4
namespace Go.Proofs.Qxb6601388a
open Go.RowKit
set_option linter.unusedVariables false

/-- ZZMatcherStack -/
theorem zz10 (a0 a1 : Option Nat) (dom : ByteArray → Bool) (hold : ByteArray → ByteArray) (iv sv : Value) (items stack : List ByteArray) (w : World)
    (hall : Hid (∀ wx, Below w.heap.size w wx → LookD wx a0 dom ∧ LookH wx a1 hold)) (hs1 : Sl Value.string w w.heap.size iv items) (hs2 : Sl Value.string w w.heap.size sv stack)
    (l1 : items.length ≤ 256) (l2 : stack.length ≤ 256) (z1 : Hid (∀ (i : Nat) s, items[i]? = some s → s.size ≤ maxLen)) (z2 : Hid (∀ (i : Nat) s, stack[i]? = some s → s.size ≤ maxLen)) :
    Calls Try.prog 10 #[.map a0, .map a1, iv, sv] w (StackSaid (stackV (cov dom hold) (nilS iv) (nilS sv) items stack) w) := by
  go_enter Try.func10, Try.ntmps10
  go_wp2_with fail
  have b0 : Below w.heap.size w (w.alloc (.cells #[.map a0, .map a1] 46)) := (Below.refl _ _).alloc (Nat.le_refl _) _
  have z0 := b0.size
  have p0 : (w.alloc (.cells #[.map a0, .map a1] 46)).cell? ⟨w.heap.size, 0, none⟩ = some (.map a0) := by simp
  have p1 : (w.alloc (.cells #[.map a0, .map a1] 46)).cell? ⟨w.heap.size, 1, none⟩ = some (.map a1) := by simp
  refine (stack23 w.heap.size a0 a1 dom hold iv sv items stack _ p0 p1 (fun wx hx => hall.out wx (b0.trans (hx.mono z0))) ((hs1.below b0).mono z0) ((hs2.below b0).mono z0) l1 l2 z1 z2).mono ?_
  rintro e w1 ⟨rfl, hb⟩
  have R : Hid (Below w.heap.size w w1) := b0.trans (hb.mono z0)
  clear hb b0 z0 p0 p1
  go_wp2_with fail
  go_ret
  exact ⟨rfl, R.out⟩

def TrueSaid (w : World) (e : Ending) (w' : World) : Prop := e = .returned (.bool true) ∧ Below w.heap.size w w'

set_option maxRecDepth 100000 in
set_option maxHeartbeats 1000000 in
theorem law3 (a0 a1 : Option Nat) (dom : ByteArray → Bool) (hold : ByteArray → ByteArray) (iv sv : Value) (items stack : List ByteArray) (w : World) (c0 c1 : Nat)
    (hall : Hid (∀ wx, Below w.heap.size w wx → LookD wx a0 dom ∧ LookH wx a1 hold)) (g0 : ∀ ty, (Builtin.len_ #[22] ty #[.map a0]).run Try.prog w = .ok (.int .i64 (c0 : Int)) w) (g1 : ∀ ty, (Builtin.len_ #[23] ty #[.map a1]).run Try.prog w = .ok (.int .i64 (c1 : Int)) w)
    (hs1 : Sl Value.string w w.heap.size iv items) (hs2 : Sl Value.string w w.heap.size sv stack) (m1 : items.length ≤ maxLen) (m2 : stack.length ≤ maxLen)
    (z1 : Hid (∀ (i : Nat) s, items[i]? = some s → s.size ≤ maxLen)) (z2 : Hid (∀ (i : Nat) s, stack[i]? = some s → s.size ≤ maxLen)) :
    Calls Try.prog 3 #[.map a0, .map a1, iv, sv] w (TrueSaid w) := by
  obtain ⟨p1, q1, rfl⟩ := hs1.form
  obtain ⟨p2, q2, rfl⟩ := hs2.form
  by_cases l1 : items.length ≤ 256
  case neg =>
    go_enter Try.func3, Try.ntmps3
    go_wp2_with fail
    go_ret
    exact ⟨rfl, Below.refl _ _⟩
  by_cases l2 : stack.length ≤ 256
  case neg =>
    go_enter Try.func3, Try.ntmps3
    go_wp2_with fail
    go_ret
    exact ⟨rfl, Below.refl _ _⟩
  by_cases l3 : c0 ≤ 4096
  case neg =>
    go_enter Try.func3, Try.ntmps3
    go_wp2_with fail
    go_ret
    exact ⟨rfl, Below.refl _ _⟩
  by_cases l4 : c1 ≤ 4096
  case neg =>
    go_enter Try.func3, Try.ntmps3
    go_wp2_with fail
    go_ret
    exact ⟨rfl, Below.refl _ _⟩
  go_enter Try.func3, Try.ntmps3
  go_wp2_with fail
  refine (bytes8 _ items _ _ hs1 m1).mono ?_
  rintro e w' ⟨x, rfl, rfl⟩
  go_wp2_with fail
  refine (bytes8 _ stack _ _ hs2 m2).mono ?_
  rintro e w' ⟨y, rfl, rfl⟩
  clear g0 g1
  by_cases hz : 1048576 < wrap64 (x + y)
  · go_wp2_with fail; go_ret; exact ⟨rfl, Below.refl _ _⟩
  go_wp2_with fail
  refine (clone9 _ items _ hs1 (by omega)).mono ?_
  rintro e w1 ⟨v1, rfl, o1, b1, n1⟩
  have y1 := b1.size
  go_wp2_with fail
  refine (clone9 _ stack _ ((hs2.below b1).mono y1) (by omega)).mono ?_
  rintro e w2 ⟨v2, rfl, o2, b2, n2⟩
  have y2 := b2.size
  have b20 : Below w.heap.size w w2 := b1.trans (b2.mono y1)
  have y20 := b20.size
  have s1 : Sl Value.string w2 w2.heap.size v1 items := ((Sl.of_own o1).below b2).mono y2
  have s2 : Sl Value.string w2 w2.heap.size v2 stack := Sl.of_own o2
  have hall2 : Hid (∀ wx, Below w2.heap.size w2 wx → LookD wx a0 dom ∧ LookH wx a1 hold) := fun wx hx => hall.out wx (b20.trans (hx.mono y20))
  clear o1 o2 b1 b2 hs1 hs2 n1 n2
  go_wp2_with fail
  refine (zz10 a0 a1 dom hold v1 v2 items stack _ hall2 s1 s2 l1 l2 z1 z2).mono ?_
  rintro e w3 ⟨rfl, b3⟩
  have y3 := b3.size
  have hall3 : Hid (∀ wx, Below w3.heap.size w3 wx → LookD wx a0 dom ∧ LookH wx a1 hold) := fun wx hx => hall2.out wx (b3.trans (hx.mono y3))
  have s1' := (s1.below b3).mono y3
  have s2' := (s2.below b3).mono y3
  go_wp2_with fail
  refine (model11 a0 a1 dom hold v1 v2 items stack _ hall3 s1' s2' l1 l2 z1 z2).mono ?_
  rintro e w4 ⟨rfl, b4⟩
  have R : Hid (Below w.heap.size w w4) := b20.trans ((b3.mono y20).trans (b4.mono (by omega)))
  clear b20 b3 b4 s1 s2 s1' s2'
  generalize stackV (cov dom hold) (nilS v1) (nilS v2) items stack = V
  have hVV : (V == V) = true := by simp
  go_wp2_with fail
  go_ret
  exact ⟨by simp, R.out⟩

end Go.Proofs.Qxb6601388a
