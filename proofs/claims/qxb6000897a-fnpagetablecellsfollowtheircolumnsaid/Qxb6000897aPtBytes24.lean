import Derived.Test.Qxb6000897aPtSizes
namespace Go.Proofs.Qxb6000897a
open Go.RowKit
set_option linter.unusedVariables false

set_option maxRecDepth 100000 in
set_option maxHeartbeats 1000000 in
/-- zzBytes (function 24): it answers; what it says is not asked. -/
theorem bytes24 (s : ByteArray) (mv tv nv rv : Value) (ms ts : List ByteArray) (ns : List Bool) (rss : List (List ByteArray)) (w : World) (B : Nat) (hms : Sl Value.string w B mv ms) (ht : Sl Value.string w B tv ts) (hn : Sl Value.bool w B nv ns) (hr : Sl2 Value.string w B rv rss)
    (m0 : s.size ≤ maxLen) (m5 : ms.length ≤ maxLen) (m1 : ts.length ≤ maxLen) (m2 : ns.length ≤ maxLen) (m3 : rss.length ≤ maxLen) (m4 : ∀ (i : Nat) ss, rss[i]? = some ss → ss.length ≤ maxLen) :
    Calls Try.prog 24 #[.string s, mv, tv, nv, rv] w (SaidB w) := by
  obtain ⟨a0, c0, rfl⟩ := hms.form
  obtain ⟨a1, c1, rfl⟩ := ht.form
  obtain ⟨a2, c2, rfl⟩ := hn.form
  obtain ⟨a3, c3, rfl⟩ := hr.form
  unfold maxLen at m0 m1 m2 m3 m4 m5
  go_enter Try.func24, Try.ntmps24
  go_wp2
  all_goals try (go_ret; exact ⟨_, rfl, rfl⟩)
  go_loop [11, 12] (fun z i => ∃ (y : Int) (k : Nat), k ≤ ms.length ∧ z = .int .i64 y ∧ i = .int .i64 k) (fun _ i => ms.length - (intOf i).toNat)
  case atStart => exact ⟨_, 0, Nat.zero_le _, rfl, rfl⟩
  case round =>
    obtain ⟨y, k, hk, rfl, rfl⟩ := hrel
    by_cases hlt : k < ms.length
    · obtain ⟨s, hs⟩ : ∃ s, ms[k]? = some s := ⟨ms[k], by simp [hlt]⟩
      obtain ⟨b, o, rfl, hb, hc⟩ := hms.place hs
      have hcell := hc k s hs
      clear hc hs hms ht hn hr
      go_wp2
      all_goals try (go_ret; exact ⟨_, rfl, rfl⟩)
      go_round
      case rel => exact ⟨_, k + 1, by omega, rfl, by go_num⟩
      case measure => simp [intOf]; omega
    · go_wp2
      all_goals try (go_ret; exact ⟨_, rfl, rfl⟩)
      clear hk hlt
      go_loop [11, 13] (fun z i => ∃ (y : Int) (k : Nat), k ≤ ts.length ∧ z = .int .i64 y ∧ i = .int .i64 k) (fun _ i => ts.length - (intOf i).toNat)
      case atStart => exact ⟨_, 0, Nat.zero_le _, rfl, rfl⟩
      case round =>
        obtain ⟨y1, k1, hk, rfl, rfl⟩ := hrel
        by_cases hlt : k1 < ts.length
        · obtain ⟨s, hs⟩ : ∃ s, ts[k1]? = some s := ⟨ts[k1], by simp [hlt]⟩
          obtain ⟨b, o, rfl, hb, hc⟩ := ht.place hs
          have hcell := hc k1 s hs
          clear hc hs hms ht hn hr
          go_wp2
          all_goals try (go_ret; exact ⟨_, rfl, rfl⟩)
          go_round
          case rel => exact ⟨_, k1 + 1, by omega, rfl, by go_num⟩
          case measure => simp [intOf]; omega
        · go_wp2
          all_goals try (go_ret; exact ⟨_, rfl, rfl⟩)
          clear hk hlt
          go_loop [11, 14, 15] (fun z i _ => ∃ (y : Int) (k : Nat), k ≤ rss.length ∧ z = .int .i64 y ∧ i = .int .i64 k) (fun _ i _ => rss.length - (intOf i).toNat)
          case atStart => exact ⟨_, 0, Nat.zero_le _, rfl, rfl⟩
          case round =>
            obtain ⟨y2, k2, hk, rfl, rfl⟩ := hrel
            by_cases hlt : k2 < rss.length
            · obtain ⟨ss, hs⟩ : ∃ s, rss[k2]? = some s := ⟨rss[k2], by simp [hlt]⟩
              obtain ⟨b, o, rfl, hb, hc⟩ := hr.place hs
              obtain ⟨a', c', hcell, hsl⟩ := hc k2 ss hs
              have hss := m4 k2 ss hs
              clear hc hs hms ht hn hr m4
              go_wp2
              all_goals try (go_ret; exact ⟨_, rfl, rfl⟩)
              go_loop [11, 15] (fun z i => ∃ (y : Int) (k : Nat), k ≤ ss.length ∧ z = .int .i64 y ∧ i = .int .i64 k) (fun _ i => ss.length - (intOf i).toNat)
              case atStart => exact ⟨_, 0, Nat.zero_le _, rfl, rfl⟩
              case round =>
                obtain ⟨y3, k3, hk3, rfl, rfl⟩ := hrel
                by_cases hlt3 : k3 < ss.length
                · obtain ⟨s, hs⟩ : ∃ s, ss[k3]? = some s := ⟨ss[k3], by simp [hlt3]⟩
                  obtain ⟨b, o, rfl, hb, hc⟩ := hsl.place hs
                  have hcell3 := hc k3 s hs
                  clear hc hs hsl
                  go_wp2
                  all_goals try (go_ret; exact ⟨_, rfl, rfl⟩)
                  go_round
                  case rel => exact ⟨_, k3 + 1, by omega, rfl, by go_num⟩
                  case measure => simp [intOf]; omega
                · clear hsl
                  go_wp2
                  go_round
                  case rel => exact ⟨_, k2 + 1, by omega, rfl, by go_num⟩
                  case measure => simp [intOf]; omega
            · go_wp2
              go_ret
              exact ⟨_, rfl, rfl⟩

end Go.Proofs.Qxb6000897a
