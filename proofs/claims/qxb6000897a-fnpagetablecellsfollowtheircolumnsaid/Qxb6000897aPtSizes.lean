import Derived.Test.Qxb6000897aRows
import Derived.Test.Qxb6000897aBase
namespace Go.Proofs.Qxb6000897a
open Go.RowKit
set_option linter.unusedVariables false

def Said15 (n : Nat) (w : World) (e : Ending) (w' : World) : Prop := ∃ (t' : Int) (b : Bool), e = .returned (.tuple #[.int .i64 t', .bool b]) ∧ w = w' ∧ (b = true → n ≤ 1048576)

/-- addStringsCmdB1: what it adds up is not asked; where it says yes the slice is short. -/
theorem add15 (t : Int) (v : Value) (ss : List ByteArray) (w : World) (B : Nat) (h : Sl Value.string w B v ss) (hm : ss.length ≤ maxLen) :
    Calls Try.prog 15 #[.int .i64 t, v] w (Said15 ss.length w) := by
  obtain ⟨a, c, rfl⟩ := h.form
  unfold maxLen at hm
  by_cases hn : ss.length ≤ 1048576
  · go_enter Try.func15, Try.ntmps15
    go_wp2
    · go_ret2
      exact ⟨_, _, rfl, rfl, fun h => by cases h⟩
    · go_loop [0, 6] (fun z i => ∃ (y : Int) (k : Nat), k ≤ ss.length ∧ z = .int .i64 y ∧ i = .int .i64 k) (fun _ i => ss.length - (intOf i).toNat)
      case atStart => exact ⟨_, 0, Nat.zero_le _, rfl, rfl⟩
      case round =>
        obtain ⟨y, k, hk, rfl, rfl⟩ := hrel
        by_cases hlt : k < ss.length
        · obtain ⟨s, hs⟩ : ∃ s, ss[k]? = some s := ⟨ss[k], by simp [hlt]⟩
          obtain ⟨b, o, rfl, hb, hc⟩ := h.place hs
          have hcell := hc k s hs
          clear hc hs h
          go_wp2
          · go_ret2
            exact ⟨_, _, rfl, rfl, fun h => by cases h⟩
          · go_ret2
            exact ⟨_, _, rfl, rfl, fun h => by cases h⟩
          · go_round
            case rel => exact ⟨_, k + 1, by omega, rfl, by go_num⟩
            case measure => simp [intOf]; omega
        · go_wp2
          go_ret2
          exact ⟨_, _, rfl, rfl, fun _ => hn⟩
  · go_enter Try.func15, Try.ntmps15
    go_wp2
    go_ret2
    exact ⟨_, _, rfl, rfl, fun h => by cases h⟩

def Said16 (n : Nat) (rss : List (List ByteArray)) (w : World) (e : Ending) (w' : World) : Prop := ∃ b : Bool, e = .returned (.bool b) ∧ w = w' ∧ (b = true → ∀ (i : Nat) ss, rss[i]? = some ss → ss.length ≤ n)

/-- rowsFitCmdB1 -/
theorem fit16 (a : Option Addr) (n c : Nat) (v : Value) (rss : List (List ByteArray)) (w : World) (B : Nat) (h : Sl2 Value.string w B v rss) (hn : n ≤ maxLen) (hm : rss.length ≤ maxLen) (hr : ∀ (i : Nat) ss, rss[i]? = some ss → ss.length ≤ maxLen) :
    Calls Try.prog 16 #[.slice a n c, v] w (Said16 n rss w) := by
  obtain ⟨a2, c2, rfl⟩ := h.form
  unfold maxLen at hn hm hr
  go_enter Try.func16, Try.ntmps16
  go_wp2
  go_loop [5] (fun i => ∃ k : Nat, k ≤ rss.length ∧ i = .int .i64 k ∧ Hid (∀ (i : Nat) ss, i < k → rss[i]? = some ss → ss.length ≤ n)) (fun i => rss.length - (intOf i).toNat)
  case atStart => exact ⟨0, Nat.zero_le _, rfl, fun i ss h => by omega⟩
  case round =>
    obtain ⟨k, hk, rfl, HK⟩ := hrel
    by_cases hlt : k < rss.length
    · obtain ⟨ss, hs⟩ : ∃ s, rss[k]? = some s := ⟨rss[k], by simp [hlt]⟩
      obtain ⟨b, o, rfl, hb, hc⟩ := h.place hs
      obtain ⟨a', c', hcell, _⟩ := hc k ss hs
      have hss := hr k ss hs
      have HS : Hid (rss[k]? = some ss) := hs
      clear hc hs h hr
      by_cases hfit : ss.length ≤ n
      · go_wp2
        go_round
        case rel =>
          refine ⟨k + 1, by omega, by go_num, fun i s hi hs => ?_⟩
          by_cases e : i = k
          · subst e
            rw [HS.out] at hs
            simp at hs
            subst hs
            exact hfit
          · exact HK.out i s (by omega) hs
        case measure => simp [intOf]; omega
      · go_wp2
        go_ret
        exact ⟨_, rfl, rfl, fun h => by cases h⟩
    · go_wp2
      go_ret
      exact ⟨_, rfl, rfl, fun _ i ss hs => HK.out i ss (by have := lt_of_some hs; omega) hs⟩

def Said14 (s : ByteArray) (tn nn rn : Nat) (w : World) (e : Ending) (w' : World) : Prop := ∃ (t' : Int) (b : Bool), e = .returned (.tuple #[.int .i64 t', .bool b]) ∧ w = w' ∧ (b = true → s.size ≤ 1048576 ∧ tn ≤ 1048576 ∧ nn ≤ 1048576 ∧ rn ≤ 1048576)

/-- pageBytesCmdB1 -/
theorem page14 (s : ByteArray) (tv nv rv : Value) (ts : List ByteArray) (ns : List Bool) (rss : List (List ByteArray)) (w : World) (B : Nat) (ht : Sl Value.string w B tv ts) (hn : Sl Value.bool w B nv ns) (hr : Sl2 Value.string w B rv rss)
    (m0 : s.size ≤ maxLen) (m1 : ts.length ≤ maxLen) (m2 : ns.length ≤ maxLen) (m3 : rss.length ≤ maxLen) (m4 : ∀ (i : Nat) ss, rss[i]? = some ss → ss.length ≤ maxLen) :
    Calls Try.prog 14 #[.string s, tv, nv, rv] w (Said14 s ts.length ns.length rss.length w) := by
  obtain ⟨a1, c1, rfl⟩ := ht.form
  obtain ⟨a2, c2, rfl⟩ := hn.form
  obtain ⟨a3, c3, rfl⟩ := hr.form
  have m1' := m1
  have m4' := m4
  unfold maxLen at m0 m1 m2 m3 m4
  by_cases h0 : s.size ≤ 1048576 ∧ ns.length ≤ 1048576 ∧ rss.length ≤ 1048576
  · obtain ⟨h0, h1, h2⟩ := h0
    go_enter Try.func14, Try.ntmps14
    go_wp2_with fail
    · go_ret2
      exact ⟨_, _, rfl, rfl, fun h => by cases h⟩
    · refine (add15 _ _ ts _ B ht m1').mono ?_
      rintro e w' ⟨t', b, rfl, rfl, hb⟩
      cases b with
      | false =>
        go_wp2
        go_ret2
        exact ⟨_, _, rfl, rfl, fun h => by cases h⟩
      | true =>
        have hts := hb rfl
        clear hb
        go_wp2
        go_loop [10, 11, 12] (fun z q i => ∃ (y : Int) (k : Nat), k ≤ rss.length ∧ z = .int .i64 y ∧ q = .bool true ∧ i = .int .i64 k) (fun _ _ i => rss.length - (intOf i).toNat)
        case atStart => exact ⟨_, 0, Nat.zero_le _, rfl, rfl, rfl⟩
        case round =>
          obtain ⟨y, k, hk, rfl, rfl, rfl⟩ := hrel
          by_cases hlt : k < rss.length
          · obtain ⟨ss, hs⟩ : ∃ s, rss[k]? = some s := ⟨rss[k], by simp [hlt]⟩
            obtain ⟨bb, o, rfl, hbb, hc⟩ := hr.place hs
            obtain ⟨a', c', hcell, hsl⟩ := hc k ss hs
            have hss := m4' k ss hs
            clear hc hs hr m4
            go_wp2_with fail
            refine (add15 _ _ ss _ B hsl hss).mono ?_
            rintro e w' ⟨t', b, rfl, rfl, hb2⟩
            cases b with
            | false =>
              go_wp2
              go_ret2
              exact ⟨_, _, rfl, rfl, fun h => by cases h⟩
            | true =>
              go_wp2
              go_round
              case rel => exact ⟨_, k + 1, by omega, rfl, rfl, by go_num⟩
              case measure => simp [intOf]; omega
          · go_wp2
            go_ret2
            exact ⟨_, _, rfl, rfl, fun _ => ⟨h0, hts, h1, h2⟩⟩
  · by_cases h1 : s.size ≤ 1048576
    · by_cases h2 : ns.length ≤ 1048576
      · have h3 : ¬ rss.length ≤ 1048576 := fun h => h0 ⟨h1, h2, h⟩
        clear h0
        go_enter Try.func14, Try.ntmps14
        go_wp2
        go_ret2
        exact ⟨_, _, rfl, rfl, fun h => by cases h⟩
      · clear h0
        go_enter Try.func14, Try.ntmps14
        go_wp2
        go_ret2
        exact ⟨_, _, rfl, rfl, fun h => by cases h⟩
    · clear h0
      go_enter Try.func14, Try.ntmps14
      go_wp2
      go_ret2
      exact ⟨_, _, rfl, rfl, fun h => by cases h⟩

def SaidB (w : World) (e : Ending) (w' : World) : Prop := ∃ b : Bool, e = .returned (.bool b) ∧ w = w'

end Go.Proofs.Qxb6000897a
