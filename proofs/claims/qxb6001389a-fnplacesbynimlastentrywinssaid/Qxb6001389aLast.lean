import Derived.Test.Qxb6001389aPlaces
namespace Go.Proofs.Qxb6001389a
open Go.RowKit Go.Maps
set_option linter.unusedVariables false

def TrueSaid (w : World) (e : Ending) (w' : World) : Prop := e = .returned (.bool true) ∧ Below w.heap.size w w'

set_option maxHeartbeats 4000000 in
theorem law3 (nv pv : Value) (ns : List ByteArray) (zs : List Int) (w : World) (hn : Sl Value.string w w.heap.size nv ns) (hp : Sl (Value.int .i64) w w.heap.size pv zs)
    (m1 : ns.length ≤ maxLen) (m2 : zs.length ≤ maxLen) (hsz : ∀ (i : Nat) s, ns[i]? = some s → s.size ≤ maxLen) :
    Calls Try.prog 3 #[nv, pv] w (TrueSaid w) := by
  obtain ⟨a0, c0, rfl⟩ := hn.form
  obtain ⟨a1, c1, rfl⟩ := hp.form
  have m1' := m1
  have m2' := m2
  unfold maxLen at m1' m2'
  have HSZ : Hid (∀ (i : Nat) s, ns[i]? = some s → s.size ≤ maxLen) := hsz
  clear hsz
  go_enter Try.func3, Try.ntmps3
  go_wp2_with fail
  refine (bytes6 _ _ ns zs _ _ hn hp m1 m2).mono ?_
  rintro e w' ⟨b, rfl, rfl⟩
  cases b with
  | false => go_wp2; go_ret; exact ⟨rfl, Below.refl _ _⟩
  | true =>
  by_cases l1 : ns.length ≤ 65536
  case neg => go_wp2; go_ret; exact ⟨rfl, Below.refl _ _⟩
  by_cases l2 : zs.length ≤ 65536
  case neg => go_wp2; go_ret; exact ⟨rfl, Below.refl _ _⟩
  go_wp2_with fail
  refine (size7 _ ns _ _ _ hn m1).mono ?_
  rintro e w' ⟨b, rfl, rfl⟩
  cases b with
  | false => go_wp2; go_ret; exact ⟨rfl, Below.refl _ _⟩
  | true =>
  go_wp2_with fail
  refine (idx8 _ zs ns.length _ _ hp m2).mono ?_
  rintro e w' ⟨b, rfl, rfl, h8⟩
  cases b with
  | false => go_wp2; go_ret; exact ⟨rfl, Below.refl _ _⟩
  | true =>
  have h8' := h8 rfl
  have hms : (zs.map Int.toNat).length = zs.length := by simp
  have hlt : ∀ (i m : Nat), (zs.map Int.toNat)[i]? = some m → m < ns.length := by
    intro i m hm
    rw [List.getElem?_map] at hm
    cases hzi : zs[i]? with
    | none => rw [hzi] at hm; simp at hm
    | some z =>
      rw [hzi] at hm
      simp at hm
      have := h8' i z hzi
      omega
  have hpos : ∀ (i : Nat) z, zs[i]? = some z → 0 ≤ z := fun i z hz => (h8' i z hz).1
  have HP : Hid (∀ (i : Nat) z, zs[i]? = some z → 0 ≤ z) := hpos
  have HL : Hid (∀ (i m : Nat), (zs.map Int.toNat)[i]? = some m → m < ns.length) := hlt
  clear h8 h8' hlt hpos
  go_wp2_with fail
  refine (unf9 _ _ ns (zs.map Int.toNat) _ _ _ hn (sl_nat hp HP.out) m1 (by rw [hms]; exact m2) HL.out).mono ?_
  rintro e w' ⟨z, rfl, rfl⟩
  by_cases hz : 1048576 < z
  · go_wp2; go_ret; exact ⟨rfl, Below.refl _ _⟩
  clear hms
  go_wp2_with fail
  refine (clone10 _ ns _ hn (by omega)).mono ?_
  rintro e w1 ⟨v1, rfl, o1, b1⟩
  have z1 := b1.size
  go_wp2_with fail
  refine (clone11 _ zs _ ((hp.below b1).mono z1) (by omega)).mono ?_
  rintro e w2 ⟨v2, rfl, o2, b2⟩
  have z2 := b2.size
  have s1 : Sl Value.string w2 w2.heap.size v1 ns := ((Sl.of_own o1).below b2).mono z2
  have s2 : Sl nat64 w2 w2.heap.size v2 (zs.map Int.toNat) := sl_nat (Sl.of_own o2) HP.out
  have b20 : Below w.heap.size w w2 := b1.trans (b2.mono z1)
  have l2' : (zs.map Int.toNat).length ≤ 65536 := by simpa using l2
  obtain ⟨ms, hms⟩ : ∃ ms, zs.map Int.toNat = ms := ⟨_, rfl⟩
  rw [hms] at s2 HL l2'
  clear o1 o2 b1 b2 hn hp hms HP
  go_wp2_with fail
  refine (roll12 _ ns _ s1 (by omega)).mono ?_
  rintro e w3 ⟨v3, rfl, r3, b3⟩
  have z3 := b3.size
  go_wp2_with fail
  refine (zz13 _ _ ns ms _ r3 ((s2.below b3).mono z3) (by omega) (by omega) HL.out HSZ.out).mono ?_
  rintro e w4 ⟨ba, ca, rfl, hA, hba, b4⟩
  have z4 := b4.size
  have t1 := (s1.below (b3.trans (b4.mono z3))).mono (show w2.heap.size ≤ w4.heap.size by omega)
  have t2 := (s2.below (b3.trans (b4.mono z3))).mono (show w2.heap.size ≤ w4.heap.size by omega)
  have b40 : Below w.heap.size w w4 := b20.trans ((b3.mono (by omega)).trans (b4.mono (by omega)))
  have z40 := b40.size
  clear s1 s2 b20 b3 b4 r3 z1 z2 z3 z4
  obtain ⟨d1, f1, rfl⟩ := t1.form
  obtain ⟨d2, f2, rfl⟩ := t2.form
  have hbalt := hA.lt
  have HA : Hid (MapIs intE 9 w4 ba ms.length (fwd (pairs ns ms)) ca) := hA
  clear hA
  have hmm := run_makeMap_some (P := Try.prog) Try.underlying32 (ms.length : Int)
  go_wp2
  clear hmm
  go_loopw [8] (fun i wr => ∃ (k n c : Nat), n + k ≤ ms.length ∧ i = .int .i64 ((k : Int) - 1) ∧ w4.heap.size < wr.heap.size ∧ MapIs intE 9 wr w4.heap.size n (fwd ((pairs ns ms).drop k)) c ∧ Below w4.heap.size w4 wr) (fun i _ => (intOf i + 1).toNat)
  case atStart =>
    refine ⟨ms.length, 0, 0, by omega, rfl, by simp, (MapIs.made w4).congr ?_, (Below.refl _ _).alloc (Nat.le_refl _) _⟩
    rw [← pairs_len ns ms, List.drop_length]
    rfl
  case round =>
    obtain ⟨k, n, c, hk, rfl, hsw, hmap, hbel⟩ := hrel
    cases k with
    | succ j =>
      have e1 : ((j + 1 : Nat) : Int) - 1 = (j : Int) := by omega
      rw [e1]
      clear e1
      have hjl : j < ms.length := by omega
      obtain ⟨m, hm⟩ : ∃ s, ms[j]? = some s := ⟨ms[j], by simp [hjl]⟩
      have hml := HL.out j m hm
      obtain ⟨s, hs⟩ : ∃ s, ns[m]? = some s := ⟨ns[m], by simp [hml]⟩
      obtain ⟨bb1, oo1, rfl, hb1, hc1⟩ := t1.place hs
      obtain ⟨bb2, oo2, rfl, hb2, hc2⟩ := t2.place hm
      have x1 : wr.cell? ⟨bb1, oo1 + m, none⟩ = some (.string s) := by rw [hbel.cell (p := ⟨bb1, oo1 + m, none⟩) hb1]; exact hc1 m s hs
      have x2 : wr.cell? ⟨bb2, oo2 + j, none⟩ = some (.int .i64 (m : Int)) := by rw [hbel.cell (p := ⟨bb2, oo2 + j, none⟩) hb2]; exact hc2 j m hm
      have hss := HSZ.out m s hs
      have hmli : (m : Int) < ns.length := by omega
      have hjli : (j : Int) < ms.length := by omega
      have HF := fwd_drop_step hm hs
      have HM : Hid (MapIs intE 9 wr w4.heap.size n (fwd ((pairs ns ms).drop (j + 1))) c) := hmap
      cases hy : fwd ((pairs ns ms).drop (j + 1)) s with
      | some y =>
        rw [hy] at HF
        simp only [Option.isSome_some, if_true] at HF
        have HF : Hid (fwd ((pairs ns ms).drop j) = fwd ((pairs ns ms).drop (j + 1))) := HF
        have HY : Hid (fwd ((pairs ns ms).drop (j + 1)) s = some y) := hy
        clear hc1 hc2 hm hs hmap hy
        go_wp2_with (at_lookup; refine wpList_map_look_ok _ rfl _ _ 32 rfl HM.out law9 Try.underlying9 Try.underlying32 s hss rfl rfl (some y) HY.out (.int .i64 y) rfl ?_)
        go_roundw
        case rel => exact ⟨j, n, c, by omega, by go_num, hsw, HM.out.congr HF.out.symm, hbel⟩
        case measure => simp [intOf]
      | none =>
        rw [hy] at HF
        simp only [Option.isSome_none, Bool.false_eq_true, if_false] at HF
        have HF : Hid (fwd ((pairs ns ms).drop j) = upd (fwd ((pairs ns ms).drop (j + 1))) s m) := HF
        have HY : Hid (fwd ((pairs ns ms).drop (j + 1)) s = none) := hy
        clear hc1 hc2 hm hs hmap hy
        go_wp2_with (first | (at_lookup; refine wpList_map_look_ok _ rfl _ _ 32 rfl HM.out law9 Try.underlying9 Try.underlying32 s hss rfl rfl none HY.out (.int .i64 0) rfl ?_) | (at_mapUpdate; refine wpList_map_put _ rfl _ _ _ 32 rfl HM.out law9 Try.underlying9 Try.underlying32 ?n1 s hss (m : Int) ?n2 rfl rfl rfl ?_))
        case n1 => unfold maxLen; omega
        case n2 => exact wf_nat (by omega)
        · intro w5 c' hmap1 hcc hgrow
          have R1 : Hid (MapIs intE 9 w5 w4.heap.size (n + 1) (fwd ((pairs ns ms).drop j)) c') := by rw [HF.out]; exact hmap1
          have R2 : Hid (Below w4.heap.size w4 w5) := hbel.grown hgrow (by omega) (fun q hq => by cases hq; exact Nat.le_refl _)
          have R3 : Hid (w4.heap.size < w5.heap.size) := Nat.lt_of_lt_of_le hsw hgrow.size
          clear hmap1 hgrow HM HF hcc hbel
          go_wp2
          go_roundw
          case rel => exact ⟨j, n + 1, c', by omega, by go_num, R3.out, R1.out, R2.out⟩
          case measure => simp [intOf]
    | zero =>
      have e1 : ((0 : Nat) : Int) - 1 = -1 := by omega
      rw [e1]
      clear e1
      rw [List.drop_zero] at hmap
      have hA := HA.out.below hbel hbalt
      obtain rfl : ca = c := hA.card.unique hmap.card (fun _ => rfl)
      have HA2 : Hid (MapIs intE 9 wr ba ms.length (fwd (pairs ns ms)) ca) := hA
      have HM : Hid (MapIs intE 9 wr w4.heap.size n (fwd (pairs ns ms)) ca) := hmap
      clear hA hmap
      go_wp2_with (first | (at_len; refine wpList_map_len _ rfl (.tmp 83) 32 rfl HA2.out Try.underlying32 rfl ?_) | (at_len; refine wpList_map_len _ rfl (.tmp 85) 32 rfl HM.out Try.underlying32 rfl ?_))
      go_loop [12] (fun i => ∃ j : Nat, j ≤ ms.length ∧ i = .int .i64 j) (fun i => ms.length - (intOf i).toNat)
      case atStart => exact ⟨0, Nat.zero_le _, rfl⟩
      case round =>
        obtain ⟨j, hj, rfl⟩ := hrel
        by_cases hjl : j < ms.length
        · obtain ⟨m, hm⟩ : ∃ s, ms[j]? = some s := ⟨ms[j], by simp [hjl]⟩
          have hml := HL.out j m hm
          obtain ⟨s, hs⟩ : ∃ s, ns[m]? = some s := ⟨ns[m], by simp [hml]⟩
          obtain ⟨bb1, oo1, rfl, hb1, hc1⟩ := t1.place hs
          obtain ⟨bb2, oo2, rfl, hb2, hc2⟩ := t2.place hm
          have x1 : wr.cell? ⟨bb1, oo1 + m, none⟩ = some (.string s) := by rw [hbel.cell (p := ⟨bb1, oo1 + m, none⟩) hb1]; exact hc1 m s hs
          have x2 : wr.cell? ⟨bb2, oo2 + j, none⟩ = some (.int .i64 (m : Int)) := by rw [hbel.cell (p := ⟨bb2, oo2 + j, none⟩) hb2]; exact hc2 j m hm
          have hss := HSZ.out m s hs
          have hmli : (m : Int) < ns.length := by omega
          have hjli : (j : Int) < ms.length := by omega
          obtain ⟨y, hy⟩ := fwd_some (pairs_mem hm hs)
          have HY : Hid (fwd (pairs ns ms) s = some y) := hy
          clear hc1 hc2 hm hs hy
          go_wp2_with (first | (at_lookup; refine wpList_map_look_ok _ rfl (.tmp 102) (.tmp 103) 32 rfl HA2.out law9 Try.underlying9 Try.underlying32 s hss rfl rfl (some y) HY.out (.int .i64 y) rfl ?_) | (at_lookup; refine wpList_map_look _ rfl (.tmp 107) (.tmp 108) 32 rfl HM.out law9 Try.underlying9 Try.underlying32 s hss rfl rfl (some y) HY.out (.int .i64 y) rfl ?_))
          go_round
          case rel => exact ⟨j + 1, by omega, by go_num⟩
          case measure => simp [intOf]; omega
        · go_wp2
          go_ret
          exact ⟨rfl, b40.trans (hbel.mono z40)⟩
end Go.Proofs.Qxb6001389a
