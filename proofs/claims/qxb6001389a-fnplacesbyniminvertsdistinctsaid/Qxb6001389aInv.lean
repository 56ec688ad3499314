import Derived.Test.Qxb6001389aPlaces
namespace Go.Proofs.Qxb6001389a
open Go.RowKit Go.Maps
set_option linter.unusedVariables false

def TrueSaid (w : World) (e : Ending) (w' : World) : Prop := e = .returned (.bool true) ∧ Below w.heap.size w w'

theorem pairs_reverse (ns : List ByteArray) (ms : List Nat) : pairs ns ms.reverse = (pairs ns ms).reverse := by simp [pairs, List.map_reverse]

set_option maxRecDepth 100000 in
set_option maxHeartbeats 4000000 in
theorem law4 (nv pv : Value) (ns : List ByteArray) (zs : List Int) (w : World) (hn : Sl Value.string w w.heap.size nv ns) (hp : Sl (Value.int .i64) w w.heap.size pv zs)
    (m1 : ns.length ≤ maxLen) (m2 : zs.length ≤ maxLen) (hsz : ∀ (i : Nat) s, ns[i]? = some s → s.size ≤ maxLen) :
    Calls Try.prog 4 #[nv, pv] w (TrueSaid w) := by
  obtain ⟨a0, c0, rfl⟩ := hn.form
  obtain ⟨a1, c1, rfl⟩ := hp.form
  have m1' := m1
  have m2' := m2
  unfold maxLen at m1' m2'
  have HSZ : Hid (∀ (i : Nat) s, ns[i]? = some s → s.size ≤ maxLen) := hsz
  clear hsz
  go_enter Try.func4, Try.ntmps4
  go_wp2_with fail
  refine (bytes14 _ _ ns zs _ _ hn hp m1 m2).mono ?_
  rintro e w' ⟨b, rfl, rfl⟩
  cases b with
  | false => go_wp2; go_ret; exact ⟨rfl, Below.refl _ _⟩
  | true =>
  by_cases l1 : ns.length ≤ 65536
  case neg => go_wp2; go_ret; exact ⟨rfl, Below.refl _ _⟩
  by_cases l2 : zs.length ≤ 65536
  case neg => go_wp2; go_ret; exact ⟨rfl, Below.refl _ _⟩
  go_wp2_with fail
  refine (size7 _ ns _ _ _ hn m1).mono ?_
  rintro e w' ⟨b, rfl, rfl⟩
  cases b with
  | false => go_wp2; go_ret; exact ⟨rfl, Below.refl _ _⟩
  | true =>
  go_wp2_with fail
  refine (idx8 _ zs ns.length _ _ hp m2).mono ?_
  rintro e w' ⟨b, rfl, rfl, h8⟩
  cases b with
  | false => go_wp2; go_ret; exact ⟨rfl, Below.refl _ _⟩
  | true =>
  have h8' := h8 rfl
  have hms : (zs.map Int.toNat).length = zs.length := by simp
  have hlt : ∀ (i m : Nat), (zs.map Int.toNat)[i]? = some m → m < ns.length := by
    intro i m hm
    rw [List.getElem?_map] at hm
    cases hzi : zs[i]? with
    | none => rw [hzi] at hm; simp at hm
    | some z =>
      rw [hzi] at hm
      simp at hm
      have := h8' i z hzi
      omega
  have hpos : ∀ (i : Nat) z, zs[i]? = some z → 0 ≤ z := fun i z hz => (h8' i z hz).1
  have HP : Hid (∀ (i : Nat) z, zs[i]? = some z → 0 ≤ z) := hpos
  have HL : Hid (∀ (i m : Nat), (zs.map Int.toNat)[i]? = some m → m < ns.length) := hlt
  clear h8 h8' hlt hpos
  go_wp2_with fail
  refine (unf9 _ _ ns (zs.map Int.toNat) _ _ _ hn (sl_nat hp HP.out) m1 (by rw [hms]; exact m2) HL.out).mono ?_
  rintro e w' ⟨z, rfl, rfl⟩
  by_cases hz : 1048576 < z
  · go_wp2; go_ret; exact ⟨rfl, Below.refl _ _⟩
  clear hms
  go_wp2_with fail
  refine (clone10 _ ns _ hn (by omega)).mono ?_
  rintro e w1 ⟨v1, rfl, o1, b1⟩
  have z1 := b1.size
  go_wp2_with fail
  refine (clone11 _ zs _ ((hp.below b1).mono z1) (by omega)).mono ?_
  rintro e w2 ⟨v2, rfl, o2, b2⟩
  have z2 := b2.size
  have s1 : Sl Value.string w2 w2.heap.size v1 ns := ((Sl.of_own o1).below b2).mono z2
  have s2 : Sl nat64 w2 w2.heap.size v2 (zs.map Int.toNat) := sl_nat (Sl.of_own o2) HP.out
  have b20 : Below w.heap.size w w2 := b1.trans (b2.mono z1)
  have l2' : (zs.map Int.toNat).length ≤ 65536 := by simpa using l2
  obtain ⟨ms, hms⟩ : ∃ ms, zs.map Int.toNat = ms := ⟨_, rfl⟩
  rw [hms] at s2 HL l2'
  clear o1 o2 b1 b2 hn hp hms HP
  obtain ⟨d1, f1, rfl⟩ := s1.form
  obtain ⟨d2, f2, rfl⟩ := s2.form
  have hmm := run_makeMap_some (P := Try.prog) Try.underlying32 (ms.length : Int)
  go_wp2
  clear hmm
  have z20 := b20.size
  go_loopw [6] (fun i wr => ∃ (k c : Nat), k ≤ ms.length ∧ i = .int .i64 k ∧ w2.heap.size < wr.heap.size ∧ MapIs intE 9 wr w2.heap.size k (fwd ((pairs ns ms).take k)) c ∧ OneVal ((pairs ns ms).take k) ∧ Below w2.heap.size w2 wr) (fun i _ => ms.length - (intOf i).toNat)
  case atStart => exact ⟨0, 0, Nat.zero_le _, rfl, by simp, MapIs.made w2, fun s v v' h => by simp at h, (Below.refl _ _).alloc (Nat.le_refl _) _⟩
  case round =>
    obtain ⟨k, c, hk, rfl, hsw, hmap, hone, hbel⟩ := hrel
    by_cases hkl : k < ms.length
    · obtain ⟨m, hm⟩ : ∃ s, ms[k]? = some s := ⟨ms[k], by simp [hkl]⟩
      have hml := HL.out k m hm
      obtain ⟨s, hs⟩ : ∃ s, ns[m]? = some s := ⟨ns[m], by simp [hml]⟩
      obtain ⟨bb1, oo1, rfl, hb1, hc1⟩ := s1.place hs
      obtain ⟨bb2, oo2, rfl, hb2, hc2⟩ := s2.place hm
      have x1 : wr.cell? ⟨bb1, oo1 + m, none⟩ = some (.string s) := by rw [hbel.cell (p := ⟨bb1, oo1 + m, none⟩) hb1]; exact hc1 m s hs
      have x2 : wr.cell? ⟨bb2, oo2 + k, none⟩ = some (.int .i64 (m : Int)) := by rw [hbel.cell (p := ⟨bb2, oo2 + k, none⟩) hb2]; exact hc2 k m hm
      have hss := HSZ.out m s hs
      have hmli : (m : Int) < ns.length := by omega
      have hkli : (k : Int) < ms.length := by omega
      have HF : Hid (fwd ((pairs ns ms).take (k + 1)) = upd (fwd ((pairs ns ms).take k)) s m) := fwd_take_step hm hs
      have HT : Hid ((pairs ns ms).take (k + 1) = (pairs ns ms).take k ++ [(s, (m : Int))]) := take_step (pairs_get hm hs)
      have HM : Hid (MapIs intE 9 wr w2.heap.size k (fwd ((pairs ns ms).take k)) c) := hmap
      have HO : Hid (OneVal ((pairs ns ms).take k)) := hone
      have hyy : (∃ y, fwd ((pairs ns ms).take k) s = some y ∧ y ≠ (m : Int)) ∨ (fwd ((pairs ns ms).take k) s = none ∨ fwd ((pairs ns ms).take k) s = some (m : Int)) := by
        cases hy : fwd ((pairs ns ms).take k) s with
        | none => exact .inr (.inl rfl)
        | some y =>
          by_cases e : y = (m : Int)
          · subst e; exact .inr (.inr rfl)
          · exact .inl ⟨y, rfl, e⟩
      rcases hyy with ⟨y, hy, hne⟩ | hy
      · have HY : Hid (fwd ((pairs ns ms).take k) s = some y) := hy
        have hne' : (y != (m : Int)) = true := by simpa using hne
        clear hc1 hc2 hm hs hmap hy hone hne
        go_wp2_with (at_lookup; refine wpList_map_look_ok _ rfl _ _ 32 rfl HM.out law9 Try.underlying9 Try.underlying32 s hss rfl rfl (some y) HY.out (.int .i64 y) rfl ?_)
        go_ret
        exact ⟨rfl, b20.trans (hbel.mono z20)⟩
      · have HON : Hid (OneVal ((pairs ns ms).take (k + 1))) := by rw [HT.out]; exact oneVal_snoc hone hy
        clear hc1 hc2 hm hs hmap hone
        rcases hy with hy | hy
        · have HY : Hid (fwd ((pairs ns ms).take k) s = none) := hy
          clear hy
          go_wp2_with (first | (at_lookup; refine wpList_map_look_ok _ rfl _ _ 32 rfl HM.out law9 Try.underlying9 Try.underlying32 s hss rfl rfl none HY.out (.int .i64 0) rfl ?_) | (at_mapUpdate; refine wpList_map_put _ rfl _ _ _ 32 rfl HM.out law9 Try.underlying9 Try.underlying32 ?n1 s hss (m : Int) ?n2 rfl rfl rfl ?_))
          case n1 => unfold maxLen; omega
          case n2 => exact wf_nat (by omega)
          · intro w5 c' hmap1 hcc hgrow
            have R1 : Hid (MapIs intE 9 w5 w2.heap.size (k + 1) (fwd ((pairs ns ms).take (k + 1))) c') := by rw [HF.out]; exact hmap1
            have R2 : Hid (Below w2.heap.size w2 w5) := hbel.grown hgrow (by omega) (fun q hq => by cases hq; exact Nat.le_refl _)
            have R3 : Hid (w2.heap.size < w5.heap.size) := Nat.lt_of_lt_of_le hsw hgrow.size
            clear hmap1 hgrow HM HF hcc hbel
            go_wp2
            go_roundw
            case rel => exact ⟨k + 1, c', by omega, by go_num, R3.out, R1.out, HON.out, R2.out⟩
            case measure => simp [intOf]; omega
        · have HY : Hid (fwd ((pairs ns ms).take k) s = some (m : Int)) := hy
          clear hy
          go_wp2_with (first | (at_lookup; refine wpList_map_look_ok _ rfl _ _ 32 rfl HM.out law9 Try.underlying9 Try.underlying32 s hss rfl rfl (some (m : Int)) HY.out (.int .i64 (m : Int)) rfl ?_) | (at_mapUpdate; refine wpList_map_put _ rfl _ _ _ 32 rfl HM.out law9 Try.underlying9 Try.underlying32 ?n3 s hss (m : Int) ?n4 rfl rfl rfl ?_))
          case n3 => unfold maxLen; omega
          case n4 => exact wf_nat (by omega)
          · intro w5 c' hmap1 hcc hgrow
            have R1 : Hid (MapIs intE 9 w5 w2.heap.size (k + 1) (fwd ((pairs ns ms).take (k + 1))) c') := by rw [HF.out]; exact hmap1
            have R2 : Hid (Below w2.heap.size w2 w5) := hbel.grown hgrow (by omega) (fun q hq => by cases hq; exact Nat.le_refl _)
            have R3 : Hid (w2.heap.size < w5.heap.size) := Nat.lt_of_lt_of_le hsw hgrow.size
            clear hmap1 hgrow HM HF hcc hbel
            go_wp2
            go_roundw
            case rel => exact ⟨k + 1, c', by omega, by go_num, R3.out, R1.out, HON.out, R2.out⟩
            case measure => simp [intOf]; omega
    · obtain rfl : k = ms.length := by omega
      have e0 : (pairs ns ms).take ms.length = pairs ns ms := by rw [← pairs_len ns ms]; exact List.take_length
      rw [e0] at hmap hone
      clear e0
      obtain ⟨w3, rfl⟩ : ∃ x, x = wr := ⟨wr, rfl⟩
      have HONE : Hid (OneVal (pairs ns ms)) := hone
      have z3 := hbel.size
      have t1 := (s1.below hbel).mono z3
      have t2 := (s2.below hbel).mono z3
      have b30 : Below w.heap.size w w3 := b20.trans (hbel.mono z20)
      have z30 := b30.size
      have HM : Hid (MapIs intE 9 w3 w2.heap.size ms.length (fwd (pairs ns ms)) c) := hmap
      clear s1 s2 b20 hbel hone hmap
      go_wp2_with fail
      refine (roll12 _ ns _ t1 (by omega)).mono ?_
      rintro e w4 ⟨v4, rfl, r4, b4⟩
      have z4 := b4.size
      go_wp2_with fail
      refine (zz13 _ _ ns ms _ r4 ((t2.below b4).mono z4) (by omega) (by omega) HL.out HSZ.out).mono ?_
      rintro e w5 ⟨ba, ca, rfl, hA, hba, b5⟩
      have z5 := b5.size
      have hmk := run_make_row' (P := Try.prog) 23 3 (.int .i64 0) 8 Try.underlying23 Try.info3 rfl .i64 .i64 ms.length (by omega) (by omega)
      have b35 : Below w3.heap.size w3 w5 := b4.trans (b5.mono z4)
      have u1 := (t1.below b35).mono (show w3.heap.size ≤ w5.heap.size by omega)
      have u2 := (t2.below b35).mono (show w3.heap.size ≤ w5.heap.size by omega)
      have r5 := (r4.below b5).mono z5
      have HM5 : Hid (MapIs intE 9 w5 w2.heap.size ms.length (fwd (pairs ns ms)) c) := HM.out.below b35 HM.out.lt
      have HA5 : Hid (MapIs intE 9 w5 ba ms.length (fwd (pairs ns ms)) ca) := hA
      have b50 : Below w.heap.size w w5 := b30.trans (b35.mono z30)
      have z50 := b50.size
      clear t1 t2 b30 b4 b5 b35 hA HM r4
      go_wp2
      clear hmk
      go_loopw [13] (fun i wz => ∃ k : Nat, k ≤ ms.length ∧ i = .int .i64 k ∧ w5.heap.size < wz.heap.size ∧ Below w5.heap.size w5 wz ∧ ∃ F, wz.rowIs w5.heap.size 3 ms.length F ∧ ∀ j m, j < k → ms[j]? = some m → F (ms.length - 1 - j) = .int .i64 (m : Int)) (fun i _ => ms.length - (intOf i).toNat)
      case atStart => exact ⟨0, Nat.zero_le _, rfl, by simp, (Below.refl _ _).alloc (Nat.le_refl _) _, _, World.rowIs_made w5 (.int .i64 0) ms.length 3, fun j m hj => by omega⟩
      case round =>
        obtain ⟨k, hk, rfl, hsz5, hb6, F, hrow, hF⟩ := hrel
        by_cases hkl : k < ms.length
        · obtain ⟨m, hm⟩ : ∃ s, ms[k]? = some s := ⟨ms[k], by simp [hkl]⟩
          obtain ⟨bb2, oo2, rfl, hb2, hc2⟩ := u2.place hm
          have x2 : wr.cell? ⟨bb2, oo2 + k, none⟩ = some (.int .i64 (m : Int)) := by rw [hb6.cell (p := ⟨bb2, oo2 + k, none⟩) hb2]; exact hc2 k m hm
          obtain ⟨q, hq⟩ : ∃ q, q = ms.length - 1 - k := ⟨_, rfl⟩
          have hqi : (ms.length : Int) - 1 - (k : Int) = (q : Int) := by omega
          have hql : q < ms.length := by omega
          have hqli : (q : Int) < ms.length := by omega
          have hkli : (k : Int) < ms.length := by omega
          have d1 := hrow.cell (i := q) hql
          have f1 := hrow.frozen q
          have R1 : Hid (∃ G, (wr.setCell ⟨w5.heap.size, q, none⟩ (.int .i64 (m : Int))).rowIs w5.heap.size 3 ms.length G ∧ ∀ j m, j < k + 1 → ms[j]? = some m → G (ms.length - 1 - j) = .int .i64 (m : Int)) := by
            refine ⟨_, hrow.set _ _, fun j m' hj hm' => ?_⟩
            by_cases e : j = k
            · subst e
              rw [hm] at hm'
              simp at hm'
              subst hm'
              simp [hq]
            · rw [if_neg (by have := lt_of_some hm'; omega)]
              exact hF j m' (by omega) hm'
          have R2 : Hid (Below w5.heap.size w5 (wr.setCell ⟨w5.heap.size, q, none⟩ (.int .i64 (m : Int)))) := hb6.setCell (Nat.le_refl _) _
          have R3 : Hid (w5.heap.size < (wr.setCell ⟨w5.heap.size, q, none⟩ (.int .i64 (m : Int))).heap.size) := by rw [Deep.nblk_setCell]; exact hsz5
          clear hrow hF hm hc2 hb6 hq u1 u2
          go_wp2
          go_roundw
          case rel => exact ⟨k + 1, by omega, by go_num, R3.out, R2.out, R1.out⟩
          case measure => simp [intOf]; omega
        · obtain rfl : k = ms.length := by omega
          have srev : Sl nat64 wr wr.heap.size (.slice (some ⟨w5.heap.size, 0, none⟩) ms.length ms.length) ms.reverse := by
            refine .inr ⟨w5.heap.size, 0, none, ms.length, by simp, fun _ => ⟨rfl, hsz5⟩, fun i m hm => ?_⟩
            have hi : i < ms.length := by have := lt_of_some hm; simpa using this
            rw [List.getElem?_reverse hi] at hm
            have := hF (ms.length - 1 - i) m (by omega) hm
            rw [show ms.length - 1 - (ms.length - 1 - i) = i from by omega] at this
            rw [show 0 + i = i from by omega, hrow.cell hi, this]
            rfl
          have z6 := hb6.size
          obtain ⟨w6, rfl⟩ : ∃ x, x = wr := ⟨wr, rfl⟩
          have y1 := (u1.below hb6).mono z6
          have y2 := (u2.below hb6).mono z6
          have HM6 : Hid (MapIs intE 9 w6 w2.heap.size ms.length (fwd (pairs ns ms)) c) := HM5.out.below hb6 HM5.out.lt
          have HA6 : Hid (MapIs intE 9 w6 ba ms.length (fwd (pairs ns ms)) ca) := HA5.out.below hb6 HA5.out.lt
          have r6 := (r5.below hb6).mono z6
          have b60 : Below w.heap.size w w6 := b50.trans (hb6.mono z50)
          have hrl : ms.reverse.length = ms.length := List.length_reverse
          clear u1 u2 HM5 HA5 r5 b50 hb6 hrow hF
          go_wp2_with fail
          refine (zz13 _ _ ns ms.reverse _ r6 srev (by omega) (by omega) ?_ HSZ.out).mono ?_
          · intro i m hm
            have hmem : m ∈ ms := by simpa using List.mem_of_getElem? hm
            obtain ⟨j, hj⟩ := List.getElem?_of_mem hmem
            exact HL.out j m hj
          rintro e w7 ⟨br, cr, rfl, hR, hbr, b7⟩
          rw [pairs_reverse, fwd_reverse HONE.out, hrl] at hR
          have z7 := b7.size
          have x1 := (y1.below b7).mono z7
          have x2 := (y2.below b7).mono z7
          have HM7 := HM6.out.below b7 HM6.out.lt
          have HA7 := HA6.out.below b7 HA6.out.lt
          obtain rfl : ca = c := HA7.card.unique HM7.card (fun _ => rfl)
          obtain rfl : cr = ca := hR.card.unique HM7.card (fun _ => rfl)
          have HM8 : Hid (MapIs intE 9 w7 w2.heap.size ms.length (fwd (pairs ns ms)) cr) := HM7
          have HA8 : Hid (MapIs intE 9 w7 ba ms.length (fwd (pairs ns ms)) cr) := HA7
          have HR8 : Hid (MapIs intE 9 w7 br ms.length (fwd (pairs ns ms)) cr) := hR
          have b70 : Below w.heap.size w w7 := b60.trans (b7.mono b60.size)
          clear y1 y2 HM6 HA6 r6 b60 b7 HM7 HA7 hR srev hrl
          go_wp2
          go_loop [15] (fun i => ∃ j : Nat, j ≤ ms.length ∧ i = .int .i64 j) (fun i => ms.length - (intOf i).toNat)
          case atStart => exact ⟨0, Nat.zero_le _, rfl⟩
          case round =>
            obtain ⟨j, hj, rfl⟩ := hrel
            by_cases hjl : j < ms.length
            · obtain ⟨m, hm⟩ : ∃ s, ms[j]? = some s := ⟨ms[j], by simp [hjl]⟩
              have hml := HL.out j m hm
              obtain ⟨s, hs⟩ : ∃ s, ns[m]? = some s := ⟨ns[m], by simp [hml]⟩
              obtain ⟨bb1, oo1, rfl, hb1, hc1⟩ := x1.place hs
              obtain ⟨bb2, oo2, rfl, hb2, hc2⟩ := x2.place hm
              have e1 := hc1 m s hs
              have e2 : w7.cell? ⟨bb2, oo2 + j, none⟩ = some (.int .i64 (m : Int)) := hc2 j m hm
              have hss := HSZ.out m s hs
              have hmli : (m : Int) < ns.length := by omega
              have hjli : (j : Int) < ms.length := by omega
              have HY : Hid (fwd (pairs ns ms) s = some (m : Int)) := fwd_one HONE.out (pairs_mem hm hs)
              clear hc1 hc2 hm hs
              go_wp2_with (first | (at_lookup; refine wpList_map_look_ok _ rfl (.tmp 130) (.tmp 131) 32 rfl HA8.out law9 Try.underlying9 Try.underlying32 s hss rfl rfl (some (m : Int)) HY.out (.int .i64 (m : Int)) rfl ?_) | (at_lookup; refine wpList_map_look_ok _ rfl (.tmp 146) (.tmp 147) 32 rfl HR8.out law9 Try.underlying9 Try.underlying32 s hss rfl rfl (some (m : Int)) HY.out (.int .i64 (m : Int)) rfl ?_))
              go_round
              case rel => exact ⟨j + 1, by omega, by go_num⟩
              case measure => simp [intOf]; omega
            · have g1 := fun ty => HA8.out.len Try.underlying32 ty
              have g2 := fun ty => HR8.out.len Try.underlying32 ty
              have g3 := fun ty => HM8.out.len Try.underlying32 ty
              go_wp2
              go_ret
              exact ⟨by simp, b70⟩
end Go.Proofs.Qxb6001389a
