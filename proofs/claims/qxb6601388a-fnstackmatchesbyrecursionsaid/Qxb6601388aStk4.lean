import Derived.Test.Qxb6601388aStk3
namespace Go.Proofs.Qxb6601388a
open Go.RowKit
set_option linter.unusedVariables false

theorem row_start (w : World) (n : Nat) : (w.alloc (.cells ((madeCells #[.bool false] n).setIfInBounds 0 (.bool true)) 4)).rowIs w.heap.size 4 n (fun j => if j = 0 then .bool true else .bool false) := by
  have h := (World.rowIs_made w (.bool false) n 4).set 0 (.bool true)
  rw [World.setCell_alloc_at _ _ _ _ _ rfl] at h
  exact h

/-- covered holds, up to j, the new line; from there on the old one. -/
def Mid (A Bf : Nat → Bool) (j S : Nat) (F : Nat → Value) : Prop := (∀ t, t < j → t ≤ S → F t = .bool (A t)) ∧ ∀ t, j ≤ t → t ≤ S → F t = .bool (Bf t)

set_option maxRecDepth 100000 in
set_option maxHeartbeats 4000000 in
/-- (*matcher).stack -/
theorem stack23 (p : Nat) (a0 a1 : Option Nat) (dom : ByteArray → Bool) (hold : ByteArray → ByteArray) (iv sv : Value) (items stack : List ByteArray) (w : World) (hp0 : w.cell? ⟨p, 0, none⟩ = some (.map a0)) (hp1 : w.cell? ⟨p, 1, none⟩ = some (.map a1))
    (hall : Hid (∀ wx, Below w.heap.size w wx → LookD wx a0 dom ∧ LookH wx a1 hold)) (hs1 : Sl Value.string w w.heap.size iv items) (hs2 : Sl Value.string w w.heap.size sv stack)
    (l1 : items.length ≤ 256) (l2 : stack.length ≤ 256) (z1 : Hid (∀ (i : Nat) s, items[i]? = some s → s.size ≤ maxLen)) (z2 : Hid (∀ (i : Nat) s, stack[i]? = some s → s.size ≤ maxLen)) :
    Calls Try.prog 23 #[.pointer (some ⟨p, 0, none⟩), iv, sv] w (StackSaid (stackV (cov dom hold) (nilS iv) (nilS sv) items stack) w) := by
  have qnil : ∀ (w : World) (a : Option Addr) (n c : Nat), (binOp .eql 24 (.slice a n c) (.slice none 0 0)).run Try.prog w = .ok (.bool a.isNone) w := fun w a n c => Lib.run_eql_slice_nil w _ _ a n c 0 0 Try.underlying24
  have hpw : p < w.heap.size := World.block_lt_of_cell? _ _ hp0
  have hs1' := hs1
  have hs2' := hs2
  rcases hs1' with ⟨rfl, rfl⟩ | ⟨b1, o1, t1, c1, rfl, g1, g2⟩
  · rw [show nilS (.slice none 0 0) = true from rfl, stackV_nil]
    obtain ⟨p2, c2, rfl⟩ := hs2.form
    go_enter Try.func23, Try.ntmps23
    go_wp2_with fail
    go_ret
    exact ⟨rfl, Below.refl _ _⟩
  · clear g1 g2
    rw [show nilS (.slice (some ⟨b1, o1, t1⟩) items.length c1) = false from rfl]
    rcases hs2' with ⟨rfl, rfl⟩ | ⟨b2, o2, t2, c2, rfl, g1, g2⟩
    · rw [show nilS (.slice none 0 0) = true from rfl]
      obtain ⟨V, hV⟩ : ∃ V, stackV (cov dom hold) false true items [] = V := ⟨_, rfl⟩
      rw [hV]
      have HV : Hid (stackV (cov dom hold) false true items [] = V) := hV
      clear hV
      go_enter Try.func23, Try.ntmps23
      go_wp2_with fail
      go_loop [20] (fun i => ∃ k : Nat, k ≤ items.length ∧ i = .int .i64 k ∧ Hid (∀ (i : Nat) s, i < k → items[i]? = some s → s = allS)) (fun i => items.length - (intOf i).toNat)
      case atStart => exact ⟨0, Nat.zero_le _, rfl, fun i s h => by omega⟩
      case round =>
        obtain ⟨k, hk, rfl, HK⟩ := hrel
        by_cases hlt : k < items.length
        · obtain ⟨s, hs⟩ : ∃ s, items[k]? = some s := ⟨items[k], by simp [hlt]⟩
          obtain ⟨b, o, e, hb, hc⟩ := hs1.place hs
          simp only [Option.some.injEq, Addr.mk.injEq] at e
          obtain ⟨rfl, rfl, rfl⟩ := e
          have hcell := hc k s hs
          have HS : Hid (items[k]? = some s) := hs
          have hlti : (k : Int) < items.length := by omega
          clear hc hs
          by_cases he : s = allS
          · subst he
            have hA := all_beq
            go_wp2_with fail
            go_round
            case rel =>
              refine ⟨k + 1, by omega, by go_num, fun i s hi hs => ?_⟩
              by_cases e : i = k
              · subst e
                rw [HS.out] at hs
                simp at hs
                exact hs.symm
              · exact HK.out i s (by omega) hs
            case measure => simp [intOf]; omega
          · have hA := all_bne he
            have HV2 : Hid (V = false) := by rw [← HV.out]; exact stackV_no HS.out he
            clear he
            go_wp2_with fail
            go_ret
            exact ⟨by rw [HV2.out]; rfl, Below.refl _ _⟩
        · have HV2 : Hid (V = decide (0 < items.length)) := by
            rw [← HV.out]
            by_cases h0 : items.length = 0
            · rw [List.eq_nil_of_length_eq_zero h0]; exact stackV_empty
            · have h1 : 0 < items.length := by omega
              rw [stackV_yes h1 (fun i s hs => HK.out i s (by have := lt_of_some hs; omega) hs)]
              simp [Hid, h1]
          go_wp2_with fail
          go_ret
          exact ⟨by rw [HV2.out]; rfl, Below.refl _ _⟩
    · clear g1 g2
      rw [show nilS (.slice (some ⟨b2, o2, t2⟩) stack.length c2) = false from rfl, stackV_mt]
      have ec : ((stack.length + 1 : Nat) : Int) = (stack.length : Int) + 1 := by omega
      have hmk := run_make_row' (P := Try.prog) 32 4 (.bool false) 1 Try.underlying32 Try.info4 rfl .i64 .i64 (stack.length + 1) (by omega) (by omega)
      rw [ec] at hmk
      clear ec
      have hm0 : (madeCells #[Value.bool false] (stack.length + 1))[0]? = some (.bool false) := by simp [madeCells]
      go_enter Try.func23, Try.ntmps23
      go_wp2_with fail
      clear hmk hm0
      go_loopw [38] (fun i wr => ∃ k : Nat, k ≤ items.length ∧ i = .int .i64 k ∧ w.heap.size < wr.heap.size ∧ Below w.heap.size w wr ∧ ∃ F, wr.rowIs w.heap.size 4 (stack.length + 1) F ∧ ∀ j, j ≤ stack.length → F j = .bool (cAt (cov dom hold) items stack k j)) (fun i _ => items.length - (intOf i).toNat)
      case atStart =>
        refine ⟨0, Nat.zero_le _, rfl, by simp, (Below.refl _ _).alloc (Nat.le_refl _) _, _, row_start w (stack.length + 1), fun j hj => ?_⟩
        rw [cAt_zero (cov dom hold) items stack hj]
        by_cases e : j = 0
        · simp [e]
        · simp [e]
      case round =>
        obtain ⟨k, hk, rfl, hsz, hbel, F, hrow, hF⟩ := hrel
        by_cases hlt : k < items.length
        · obtain ⟨it, hit⟩ : ∃ s, items[k]? = some s := ⟨items[k], by simp [hlt]⟩
          obtain ⟨b, o, e, hb, hc⟩ := hs1.place hit
          simp only [Option.some.injEq, Addr.mk.injEq] at e
          obtain ⟨rfl, rfl, rfl⟩ := e
          have hcell : wr.cell? ⟨b1, o1 + k, none⟩ = some (.string it) := by rw [hbel.cell (p := ⟨b1, o1 + k, none⟩) hb]; exact hc k it hit
          have HIT : Hid (items[k]? = some it) := hit
          have hzi := z1.out k it hit
          have hlti : (k : Int) < items.length := by omega
          obtain ⟨wo, rfl⟩ : ∃ x, x = wr := ⟨wr, rfl⟩
          have HSZ : Hid (w.heap.size < wo.heap.size) := hsz
          have HBEL : Hid (Below w.heap.size w wo) := hbel
          have HROW : Hid (wo.rowIs w.heap.size 4 (stack.length + 1) F) := hrow
          have HF : Hid (∀ j, j ≤ stack.length → F j = .bool (cAt (cov dom hold) items stack k j)) := hF
          clear hc hit hsz hbel hrow hF
          by_cases he : it = allS
          · subst he
            have hA := all_beq
            go_wp2_with fail
            clear hcell
            go_loopw [12] (fun i wz => ∃ j : Nat, j ≤ stack.length ∧ i = .int .i64 ((j : Int) + 1) ∧ w.heap.size < wz.heap.size ∧ Below w.heap.size w wz ∧ ∃ G, wz.rowIs w.heap.size 4 (stack.length + 1) G ∧ Mid (cAt (cov dom hold) items stack (k + 1)) (cAt (cov dom hold) items stack k) (j + 1) stack.length G) (fun i _ => stack.length + 1 - (intOf i).toNat)
            case atStart =>
              refine ⟨0, Nat.zero_le _, rfl, HSZ.out, HBEL.out, F, HROW.out, fun t ht hts => ?_, fun t _ hts => HF.out t hts⟩
              obtain rfl : t = 0 := by omega
              rw [cAt_all_zero (cov dom hold) items stack HIT.out]
              exact HF.out 0 (by omega)
            case round =>
              clear HSZ HBEL HROW HF
              obtain ⟨j, hj, rfl, hsz, hbel, G, hrow, hG1, hG2⟩ := hrel
              by_cases hjl : j < stack.length
              · obtain ⟨f, hf⟩ : ∃ s, stack[j]? = some s := ⟨stack[j], by simp [hjl]⟩
                have d0 := hrow.cell (i := j) (by omega)
                rw [hG1 j (by omega) (by omega)] at d0
                have d1 := hrow.cell (i := j + 1) (by omega)
                rw [hG2 (j + 1) (Nat.le_refl _) (by omega)] at d1
                have f1 := hrow.frozen (j + 1)
                have hCA := cAt_all (cov dom hold) items stack HIT.out hf
                have hjl1 : (j : Int) + 1 < (stack.length : Int) + 1 := by omega
                have hjl2 : (j : Int) < (stack.length : Int) + 1 := by omega
                have hjl3 : (j : Int) + 1 ≤ (stack.length : Int) := by omega
                have R : ∀ v, v = cAt (cov dom hold) items stack (k + 1) (j + 1) → Hid (∃ G', (wr.setCell ⟨w.heap.size, j + 1, none⟩ (.bool v)).rowIs w.heap.size 4 (stack.length + 1) G' ∧ Mid (cAt (cov dom hold) items stack (k + 1)) (cAt (cov dom hold) items stack k) (j + 1 + 1) stack.length G') := by
                  intro v hv
                  refine ⟨_, hrow.set _ _, fun t ht hts => ?_, fun t ht hts => ?_⟩
                  · by_cases e : t = j + 1
                    · subst e; dsimp only; rw [if_pos rfl, hv]
                    · dsimp only; rw [if_neg e]; exact hG1 t (by omega) hts
                  · dsimp only; rw [if_neg (by omega)]; exact hG2 t (by omega) hts
                have R2 : ∀ v, Hid (Below w.heap.size w (wr.setCell ⟨w.heap.size, j + 1, none⟩ (.bool v))) := fun v => hbel.setCell (Nat.le_refl _) _
                have R3 : ∀ v, Hid (w.heap.size < (wr.setCell ⟨w.heap.size, j + 1, none⟩ (.bool v)).heap.size) := fun v => by rw [Deep.nblk_setCell]; exact hsz
                cases hcv : cAt (cov dom hold) items stack k (j + 1) with
                | true =>
                  rw [hcv] at d1 hCA
                  have R1 := R true (by rw [hCA]; rfl)
                  have R2 := R2 true
                  have R3 := R3 true
                  clear hrow hG1 hG2 hf hbel hCA R hcv
                  go_wp2_with fail
                  go_roundw
                  case rel => exact ⟨j + 1, by omega, by go_num, R3.out, R2.out, R1.out⟩
                  case measure => simp [intOf]; omega
                | false =>
                  rw [hcv] at d1 hCA
                  obtain ⟨v, hv⟩ : ∃ v, cAt (cov dom hold) items stack (k + 1) j = v := ⟨_, rfl⟩
                  rw [hv] at d0 hCA
                  have R1 := R v (by rw [hCA]; rfl)
                  have R2 := R2 v
                  have R3 := R3 v
                  clear hrow hG1 hG2 hf hbel hCA R hcv hv
                  go_wp2_with fail
                  go_roundw
                  case rel => exact ⟨j + 1, by omega, by go_num, R3.out, R2.out, R1.out⟩
                  case measure => simp [intOf]; omega
              · have R1 : Hid (∃ G, wr.rowIs w.heap.size 4 (stack.length + 1) G ∧ ∀ j, j ≤ stack.length → G j = .bool (cAt (cov dom hold) items stack (k + 1) j)) := ⟨G, hrow, fun t ht => hG1 t (by omega) ht⟩
                clear hrow hG1 hG2
                go_wp2_with fail
                go_roundw
                case rel => exact ⟨k + 1, by omega, by go_num, hsz, hbel, R1.out⟩
                case measure => simp [intOf]; omega
          · have hA := all_bne he
            go_wp2_with fail
            clear hcell
            go_loopw [13] (fun i wz => ∃ j : Nat, j ≤ stack.length ∧ i = .int .i64 (j : Int) ∧ w.heap.size < wz.heap.size ∧ Below w.heap.size w wz ∧ ∃ G, wz.rowIs w.heap.size 4 (stack.length + 1) G ∧ Mid (cAt (cov dom hold) items stack k) (cAt (cov dom hold) items stack (k + 1)) (j + 1) stack.length G) (fun i _ => (intOf i).toNat)
            case atStart => exact ⟨stack.length, Nat.le_refl _, rfl, HSZ.out, HBEL.out, F, HROW.out, fun t _ hts => HF.out t hts, fun t ht hts => by omega⟩
            case round =>
              clear HSZ HBEL HROW HF
              obtain ⟨j, hj, rfl, hsz, hbel, G, hrow, hG1, hG2⟩ := hrel
              cases j with
              | succ j =>
                obtain ⟨f, hf⟩ : ∃ s, stack[j]? = some s := ⟨stack[j], by simp [show j < stack.length by omega]⟩
                obtain ⟨b, o, e, hb2, hc2⟩ := hs2.place hf
                simp only [Option.some.injEq, Addr.mk.injEq] at e
                obtain ⟨rfl, rfl, rfl⟩ := e
                have x2 : wr.cell? ⟨b2, o2 + j, none⟩ = some (.string f) := by rw [hbel.cell (p := ⟨b2, o2 + j, none⟩) hb2]; exact hc2 j f hf
                have hzf := z2.out j f hf
                have hcast : ((j + 1 : Nat) : Int) = (j : Int) + 1 := by omega
                rw [hcast]
                clear hcast
                have d0 := hrow.cell (i := j) (by omega)
                rw [hG1 j (by omega) (by omega)] at d0
                have d1 := hrow.cell (i := j + 1) (by omega)
                have f1 := hrow.frozen (j + 1)
                have hCA := cAt_one (cov dom hold) items stack HIT.out he hf
                have hjl1 : (j : Int) + 1 < (stack.length : Int) + 1 := by omega
                have hjl2 : (j : Int) < (stack.length : Int) + 1 := by omega
                have hjl3 : (j : Int) < (stack.length : Int) := by omega
                have R : ∀ v, v = cAt (cov dom hold) items stack (k + 1) (j + 1) → Hid (∃ G', (wr.setCell ⟨w.heap.size, j + 1, none⟩ (.bool v)).rowIs w.heap.size 4 (stack.length + 1) G' ∧ Mid (cAt (cov dom hold) items stack k) (cAt (cov dom hold) items stack (k + 1)) (j + 1) stack.length G') := by
                  intro v hv
                  refine ⟨_, hrow.set _ _, fun t ht hts => ?_, fun t ht hts => ?_⟩
                  · dsimp only; rw [if_neg (by omega)]; exact hG1 t (by omega) hts
                  · by_cases e : t = j + 1
                    · subst e; dsimp only; rw [if_pos rfl, hv]
                    · dsimp only; rw [if_neg e]; exact hG2 t (by omega) hts
                have R2 : ∀ v, Hid (Below w.heap.size w (wr.setCell ⟨w.heap.size, j + 1, none⟩ (.bool v))) := fun v => hbel.setCell (Nat.le_refl _) _
                have R3 : ∀ v, Hid (w.heap.size < (wr.setCell ⟨w.heap.size, j + 1, none⟩ (.bool v)).heap.size) := fun v => by rw [Deep.nblk_setCell]; exact hsz
                have y0 : wr.cell? ⟨p, 0, none⟩ = some (.map a0) := by rw [hbel.cell (p := ⟨p, 0, none⟩) hpw]; exact hp0
                have y1 : wr.cell? ⟨p, 1, none⟩ = some (.map a1) := by rw [hbel.cell (p := ⟨p, 1, none⟩) hpw]; exact hp1
                have hlook := hall.out wr hbel
                have HLK : Hid (LookD wr a0 dom ∧ LookH wr a1 hold) := hlook
                cases hcv : cAt (cov dom hold) items stack k j with
                | false =>
                  rw [hcv] at d0 hCA
                  have R1 := R false (by rw [hCA]; rfl)
                  have R2 := R2 false
                  have R3 := R3 false
                  clear hrow hG1 hG2 hf hbel hCA R hcv hc2 hlook
                  go_wp2_with fail
                  go_roundw
                  case rel => exact ⟨j, by omega, by go_num, R3.out, R2.out, R1.out⟩
                  case measure => simp [intOf]
                | true =>
                  rw [hcv] at d0 hCA
                  have HCA : Hid (cAt (cov dom hold) items stack (k + 1) (j + 1) = cov dom hold it f) := by rw [hCA]; rfl
                  have R1 := R (cov dom hold it f) HCA.out.symm
                  have R2 := R2 (cov dom hold it f)
                  have R3 := R3 (cov dom hold it f)
                  clear hrow hG1 hG2 hf hbel hCA R hcv hc2 hlook
                  generalize hgv : cov dom hold it f = gv at R1 R2 R3
                  have HGV : Hid (cov dom hold it f = gv) := hgv
                  clear hgv HCA
                  go_wp2_with fail
                  refine (covers28 p a0 a1 dom hold it f wr y0 y1 HLK.out.1 HLK.out.2 hzi hzf).mono ?_
                  rintro e w' ⟨rfl, rfl⟩
                  rw [HGV.out]
                  go_wp2_with fail
                  go_roundw
                  case rel => exact ⟨j, by omega, by go_num, R3.out, R2.out, R1.out⟩
                  case measure => simp [intOf]
              | zero =>
                have d0 := hrow.cell (i := 0) (by omega)
                have f0 := hrow.frozen 0
                have hC0 := cAt_one_zero (cov dom hold) items stack HIT.out he
                have R1 : Hid (∃ G', (wr.setCell ⟨w.heap.size, 0, none⟩ (.bool false)).rowIs w.heap.size 4 (stack.length + 1) G' ∧ ∀ j, j ≤ stack.length → G' j = .bool (cAt (cov dom hold) items stack (k + 1) j)) := by
                  refine ⟨_, hrow.set _ _, fun t hts => ?_⟩
                  by_cases e : t = 0
                  · subst e; rw [if_pos rfl, hC0]
                  · rw [if_neg e]; exact hG2 t (by omega) hts
                have R2 : Hid (Below w.heap.size w (wr.setCell ⟨w.heap.size, 0, none⟩ (.bool false))) := hbel.setCell (Nat.le_refl _) _
                have R3 : Hid (w.heap.size < (wr.setCell ⟨w.heap.size, 0, none⟩ (.bool false)).heap.size) := by rw [Deep.nblk_setCell]; exact hsz
                clear hrow hG1 hG2 hbel hC0
                go_wp2_with fail
                go_roundw
                case rel => exact ⟨k + 1, by omega, by go_num, R3.out, R2.out, R1.out⟩
                case measure => simp [intOf]; omega
        · obtain rfl : k = items.length := by omega
          have d0 := hrow.cell (i := stack.length) (by omega)
          rw [hF stack.length (Nat.le_refl _), cAt_end (cov dom hold) items stack] at d0
          have hl : (stack.length : Int) < (stack.length : Int) + 1 := by omega
          clear hrow hF
          go_wp2_with fail
          go_ret
          exact ⟨rfl, hbel⟩
end Go.Proofs.Qxb6601388a
