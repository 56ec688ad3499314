import Derived.Test.Qxb6601388aStk
namespace Go.Proofs.Qxb6601388a
open Go.RowKit
set_option linter.unusedVariables false

theorem Sl.grownAt {α : Type} {f : α → Value} {w w' : World} {B mb : Nat} {v : Value} {zs : List α} (h : Sl f w B v zs) (hg : w.grownBy w' (some mb)) (hB : B ≤ w.heap.size) (hm : B ≤ mb) : Sl f w' B v zs := by
  rcases h with h | ⟨b, o, s, c, hv, hlt, hc⟩
  · exact .inl h
  · exact .inr ⟨b, o, s, c, hv, hlt, fun i z hz => by
      have hb := (hlt (by have := lt_of_some hz; omega)).2
      rw [World.cell?_of_block (a := ⟨b, o + i, none⟩) (hg.block b (by omega) (by simp; omega))]
      exact hc i z hz⟩

def MSaid (cv : ByteArray → ByteArray → Bool) (items stack : List ByteArray) (mb L i j : Nat) (w : World) (e : Ending) (w' : World) : Prop :=
  e = .returned (.bool (mtAt cv items stack i j)) ∧ Memo cv items stack w' mb L ∧ w.grownBy w' (some mb)

theorem quiet29 (a0 a1 : Option Nat) (dom : ByteArray → Bool) (hold : ByteArray → ByteArray) (it f : ByteArray) (w : World) (n : Nat)
    (hd : LookD (w.drewN n) a0 dom) (hh : LookH (w.drewN n) a1 hold) (hi : it.size ≤ maxLen) (hf : f.size ≤ maxLen) (b : Bool) (hb : Hid (cov dom hold it f = b)) :
    Calls Try.prog 29 #[.map a0, .map a1, .string it, .string f] (w.drewN n) fun e w'' => e = .returned (.bool b) ∧ ∃ m, w'' = w.drewN m :=
  Calls.quiet_of_same ((covers29 a0 a1 dom hold it f (w.drewN n) hd hh hi hf).mono fun _ _ ⟨he, hw⟩ => ⟨by rw [he, hb.out], hw.symm⟩)

theorem all_beq : (allS.toList == [97, 108, 108]) = true := by rw [ByteArray.toList_eq]; rfl

theorem all_bne {it : ByteArray} (h : it ≠ allS) : (it.toList == [97, 108, 108]) = false := by
  rw [ByteArray.toList_eq, beq_eq_false_iff_ne]
  intro e
  apply h
  have e2 : it.data.toList = allS.data.toList := e
  have := Array.toList_inj.1 e2
  cases it
  simp only at this
  subst this
  rfl

theorem and_true_split {x y : Bool} : (x && y) = bif x then y else false := by cases x <;> rfl

theorem grownBy_set (w : World) (p : Addr) (u : Value) : w.grownBy (w.setCell p u) (some p.block) :=
  ⟨rfl, rfl, rfl, by rw [Deep.nblk_setCell]; exact Nat.le_refl _, fun k _ hk => Below.heap_setCell _ _ _ _ (fun e => hk (by rw [e]))⟩

theorem m_end {cv : ByteArray → ByteArray → Bool} {items stack : List ByteArray} {mb L i j q : Nat} {w w1 : World} (hM : Memo cv items stack w1 mb L) (hg : w.grownBy w1 (some mb)) (hi : i ≤ items.length) (hj : j ≤ stack.length) (hq : i * (stack.length + 1) + j = q) {b : Bool} (hv : mtAt cv items stack i j = b) {x : Int} (hx : x = bif b then 2 else 1) :
    MSaid cv items stack mb L i j w (.returned (.bool b)) (w1.setCell ⟨mb, q, none⟩ (.int .i8 x)) := by
  subst hq
  exact ⟨by rw [hv], hM.store hi hj (by rw [hv, hx]), grownBy_trans hg (grownBy_set w1 ⟨mb, _, none⟩ _) (.inl rfl)⟩

theorem memo_cell {cv : ByteArray → ByteArray → Bool} {items stack : List ByteArray} {mb L q : Nat} {w : World} (hM : Memo cv items stack w mb L) (hq : q < L) : (∃ v, w.cell? ⟨mb, q, none⟩ = some v) ∧ w.frozen? ⟨mb, q, none⟩ = false ∧ mb < w.heap.size := by
  obtain ⟨_, F, hrow, _⟩ := hM
  exact ⟨⟨_, hrow.cell hq⟩, hrow.frozen q, hrow.lt⟩

set_option maxRecDepth 100000 in
set_option maxHeartbeats 4000000 in
/-- zzmatch -/
theorem match24 (w0 : World) (B0 B mb L : Nat) (a0 a1 : Option Nat) (dom : ByteArray → Bool) (hold : ByteArray → ByteArray) (iv sv : Value) (items stack : List ByteArray)
    (hall : Hid (∀ wx, Below B0 w0 wx → LookD wx a0 dom ∧ LookH wx a1 hold)) (hB0 : B0 ≤ mb) (hB : B ≤ mb)
    (l1 : items.length ≤ 256) (l2 : stack.length ≤ 256) (z1 : Hid (∀ (i : Nat) s, items[i]? = some s → s.size ≤ maxLen)) (z2 : Hid (∀ (i : Nat) s, stack[i]? = some s → s.size ≤ maxLen)) :
    ∀ N : Nat, ∀ (i j : Nat) (xi xj : Int) (w : World), (items.length - i) + (stack.length - j) < N → i ≤ items.length → j ≤ stack.length → xi = (i : Int) → xj = (j : Int) → Below B0 w0 w → Sl Value.string w B iv items → Sl Value.string w B sv stack → Memo (cov dom hold) items stack w mb L →
      Calls Try.prog 24 #[.map a0, .map a1, iv, sv, .int .i64 xi, .int .i64 xj, .slice (some ⟨mb, 0, none⟩) L L] w (MSaid (cov dom hold) items stack mb L i j w) := by
  intro N
  induction N with
  | zero => intro i j xi xj w h; omega
  | succ N ih =>
    intro i j xi xj w hN hi hj hxi hxj hbel hs1 hs2 hmemo
    subst hxi
    subst hxj
    have IH := ih
    have IH : Hid (∀ (i j : Nat) (xi xj : Int) (w : World), (items.length - i) + (stack.length - j) < N → i ≤ items.length → j ≤ stack.length → xi = (i : Int) → xj = (j : Int) → Below B0 w0 w → Sl Value.string w B iv items → Sl Value.string w B sv stack → Memo (cov dom hold) items stack w mb L →
      Calls Try.prog 24 #[.map a0, .map a1, iv, sv, .int .i64 xi, .int .i64 xj, .slice (some ⟨mb, 0, none⟩) L L] w (MSaid (cov dom hold) items stack mb L i j w)) := ih
    clear ih
    obtain ⟨p1, c1, rfl⟩ := hs1.form
    obtain ⟨p2, c2, rfl⟩ := hs2.form
    have hlt := idx_lt (I := items.length) (S := stack.length) hi hj
    have hM := hmemo
    obtain ⟨hL, F, hrow, hF⟩ := hM
    have hLb : L ≤ 66049 := by rw [hL]; exact Nat.mul_le_mul (show items.length + 1 ≤ 257 by omega) (show stack.length + 1 ≤ 257 by omega)
    rw [← hL] at hlt
    clear hL
    obtain ⟨q, hq⟩ : ∃ q, i * (stack.length + 1) + j = q := ⟨_, rfl⟩
    rw [hq] at hlt
    have hFq := hF i j hi hj
    rw [hq] at hFq
    have hcell := hrow.cell hlt
    have hfz := hrow.frozen q
    have hmbl := hrow.lt
    have hqi : (i : Int) * ((stack.length : Int) + 1) + (j : Int) = (q : Int) := by rw [← hq]; simp
    have HQ : Hid (i * (stack.length + 1) + j = q) := hq
    have hb1 : 0 ≤ (i : Int) * ((stack.length : Int) + 1) := by
      have : (i : Int) * ((stack.length : Int) + 1) = ((i * (stack.length + 1) : Nat) : Int) := by simp
      omega
    have hb2 : (i : Int) * ((stack.length : Int) + 1) ≤ 66049 := by omega
    have hqL : (q : Int) < L := by omega
    have HM : Hid (Memo (cov dom hold) items stack w mb L) := hmemo
    clear hF hq hrow hmemo
    rcases hFq with h0 | h0
    · rw [h0] at hcell
      clear h0
      by_cases hie : i = items.length
      · have hv := mtAt_end (cov dom hold) items stack hj
        rw [← hie] at hv
        have hib : ((i : Int) == (items.length : Int)) = true := by simp; omega
        by_cases hje : j = stack.length
        · have HV : Hid (mtAt (cov dom hold) items stack i j = true) := by rw [hv]; simp [Hid, hje]
          have hjb : ((j : Int) == (stack.length : Int)) = true := by simp; omega
          clear hv hie hje
          go_enter Try.func24, Try.ntmps24
          go_wp2_with fail
          go_ret
          exact m_end HM.out (World.grownBy.refl _ _) hi hj HQ.out HV.out rfl
        · have HV : Hid (mtAt (cov dom hold) items stack i j = false) := by rw [hv]; simp [Hid, hje]
          have hjb : ((j : Int) == (stack.length : Int)) = false := by simp; omega
          clear hv hie hje
          go_enter Try.func24, Try.ntmps24
          go_wp2_with fail
          go_ret
          exact m_end HM.out (World.grownBy.refl _ _) hi hj HQ.out HV.out rfl
      · have hib : ((i : Int) == (items.length : Int)) = false := by simp; omega
        have hil : i < items.length := by omega
        have hili : (i : Int) < items.length := by omega
        clear hie
        obtain ⟨it, hit⟩ : ∃ x, items[i]? = some x := ⟨items[i], by simp [hil]⟩
        have hsz := z1.out i it hit
        obtain ⟨bb1, oo1, rfl, hbb1, hc1⟩ := hs1.place hit
        have x1 := hc1 i it hit
        have HIT : Hid (items[i]? = some it) := hit
        clear hc1 hit
        by_cases hall' : it = allS
        · subst hall'
          have hA := all_beq
          go_enter Try.func24, Try.ntmps24
          go_wp2_with fail
          refine (IH.out (i + 1) j _ _ w (by omega) (by omega) hj (by omega) rfl hbel hs1 hs2 HM.out).mono ?_
          rintro e w1 ⟨rfl, hM1, hg1⟩
          obtain ⟨⟨v1, y1⟩, y2, y3⟩ := memo_cell hM1 hlt
          have HM1 : Hid (Memo (cov dom hold) items stack w1 mb L) := hM1
          clear hM1
          cases hv1 : mtAt (cov dom hold) items stack (i + 1) j with
          | true =>
            have HV : Hid (mtAt (cov dom hold) items stack i j = true) := by
              by_cases hjl : j < stack.length
              · rw [mtAt_all (cov dom hold) items stack HIT.out hjl, hv1]; rfl
              · have : j = stack.length := by omega
                subst this
                rw [mtAt_all_end (cov dom hold) items stack HIT.out]; exact hv1
            clear hv1
            go_wp2_with fail
            go_ret
            exact m_end HM1.out hg1 hi hj HQ.out HV.out rfl
          | false =>
            by_cases hjl : j < stack.length
            · have hjli : (j : Int) < stack.length := by omega
              have HVV : Hid (mtAt (cov dom hold) items stack i j = mtAt (cov dom hold) items stack i (j + 1)) := by
                rw [mtAt_all (cov dom hold) items stack HIT.out hjl, hv1]; rfl
              have hs1' := hs1.grownAt hg1 (by omega) hB
              have hs2' := hs2.grownAt hg1 (by omega) hB
              have hbel' := hbel.grown hg1 (by omega) (fun k hk => by cases hk; exact hB0)
              clear hv1 y1 y2
              go_wp2_with fail
              refine (IH.out i (j + 1) _ _ w1 (by omega) (by omega) (by omega) rfl (by omega) hbel' hs1' hs2' HM1.out).mono ?_
              rintro e w2 ⟨rfl, hM2, hg2⟩
              obtain ⟨⟨v2, y1⟩, y2, y4⟩ := memo_cell hM2 hlt
              have HM2 : Hid (Memo (cov dom hold) items stack w2 mb L) := hM2
              have HG2 : Hid (w.grownBy w2 (some mb)) := grownBy_trans hg1 hg2 (.inl rfl)
              clear hM2 hg2
              cases hv2 : mtAt (cov dom hold) items stack i (j + 1) with
              | true =>
                have HV : Hid (mtAt (cov dom hold) items stack i j = true) := by rw [HVV.out]; exact hv2
                clear hv2 HVV
                go_wp2_with fail
                go_ret
                exact m_end HM2.out HG2.out hi hj HQ.out HV.out rfl
              | false =>
                have HV : Hid (mtAt (cov dom hold) items stack i j = false) := by rw [HVV.out]; exact hv2
                clear hv2 HVV
                go_wp2_with fail
                go_ret
                exact m_end HM2.out HG2.out hi hj HQ.out HV.out rfl
            · have hjd : decide ((j : Int) < (stack.length : Int)) = false := by simp; omega
              have HV : Hid (mtAt (cov dom hold) items stack i j = false) := by
                have : j = stack.length := by omega
                subst this
                rw [mtAt_all_end (cov dom hold) items stack HIT.out]; exact hv1
              clear hv1
              go_wp2_with fail
              go_ret
              exact m_end HM1.out hg1 hi hj HQ.out HV.out rfl
        · have hA := all_bne hall'
          by_cases hjl : j < stack.length
          · have hjli : (j : Int) < stack.length := by omega
            obtain ⟨f, hf⟩ : ∃ x, stack[j]? = some x := ⟨stack[j], by simp [hjl]⟩
            have hszf := z2.out j f hf
            obtain ⟨bb2, oo2, rfl, hbb2, hc2⟩ := hs2.place hf
            have x2 := hc2 j f hf
            have hVV := mtAt_one (cov dom hold) items stack HIT.out hall' hf
            clear hc2 hf
            cases hcv : cov dom hold it f with
            | true =>
              have HVV : Hid (mtAt (cov dom hold) items stack i j = mtAt (cov dom hold) items stack (i + 1) (j + 1)) := by rw [hVV, hcv]; rfl
              have HC : Hid (cov dom hold it f = true) := hcv
              clear hVV hcv hall'
              go_enter Try.func24, Try.ntmps24
              go_wp2_with fail
              go_quiet ((go_at_call 29; exact quiet29 _ _ dom hold _ _ _ _ (hall.out _ (below_drewN hbel _)).1 (hall.out _ (below_drewN hbel _)).2 hsz hszf true HC))
              go_wp2_with fail
              have hs1' := hs1.below (below_drewN (Below.refl B w) nq)
              have hs2' := hs2.below (below_drewN (Below.refl B w) nq)
              have hM' : Memo (cov dom hold) items stack (w.drewN nq) mb L := HM.out
              refine (IH.out (i + 1) (j + 1) _ _ (w.drewN nq) (by omega) (by omega) (by omega) (by omega) (by omega) (below_drewN hbel nq) hs1' hs2' hM').mono ?_
              rintro e w1 ⟨rfl, hM1, hg1⟩
              obtain ⟨⟨v1, y1⟩, y2, y3⟩ := memo_cell hM1 hlt
              have HM1 : Hid (Memo (cov dom hold) items stack w1 mb L) := hM1
              have HG1 : Hid (w.grownBy w1 (some mb)) := ⟨hg1.os, hg1.tape, hg1.output, hg1.size, hg1.block⟩
              clear hM1 hg1 hM' hs1' hs2'
              cases hv1 : mtAt (cov dom hold) items stack (i + 1) (j + 1) with
              | true =>
                have HV : Hid (mtAt (cov dom hold) items stack i j = true) := by rw [HVV.out]; exact hv1
                clear hv1
                go_wp2_with fail
                go_ret
                exact m_end HM1.out HG1.out hi hj HQ.out HV.out rfl
              | false =>
                have HV : Hid (mtAt (cov dom hold) items stack i j = false) := by rw [HVV.out]; exact hv1
                clear hv1
                go_wp2_with fail
                go_ret
                exact m_end HM1.out HG1.out hi hj HQ.out HV.out rfl
            | false =>
              have HV : Hid (mtAt (cov dom hold) items stack i j = false) := by rw [hVV, hcv]; rfl
              have HC : Hid (cov dom hold it f = false) := hcv
              clear hVV hcv hall'
              go_enter Try.func24, Try.ntmps24
              go_wp2_with fail
              go_quiet ((go_at_call 29; exact quiet29 _ _ dom hold _ _ _ _ (hall.out _ (below_drewN hbel _)).1 (hall.out _ (below_drewN hbel _)).2 hsz hszf false HC))
              go_wp2_with fail
              have hM' : Memo (cov dom hold) items stack (w.drewN nq) mb L := HM.out
              have hG' : w.grownBy (w.drewN nq) (some mb) := ⟨rfl, rfl, rfl, Nat.le_refl _, fun _ _ _ => rfl⟩
              go_ret
              exact m_end hM' hG' hi hj HQ.out HV.out rfl
          · have hjd : decide ((j : Int) < (stack.length : Int)) = false := by simp; omega
            have HV : Hid (mtAt (cov dom hold) items stack i j = false) := by
              have : j = stack.length := by omega
              subst this
              exact mtAt_one_end (cov dom hold) items stack HIT.out hall'
            clear hall'
            go_enter Try.func24, Try.ntmps24
            go_wp2_with fail
            go_quiet (fail)
            go_wp2_with fail
            have hM' : Memo (cov dom hold) items stack (w.drewN nq) mb L := HM.out
            have hG' : w.grownBy (w.drewN nq) (some mb) := ⟨rfl, rfl, rfl, Nat.le_refl _, fun _ _ _ => rfl⟩
            go_ret
            exact m_end hM' hG' hi hj HQ.out HV.out rfl
    · rw [h0] at hcell
      have HV := h0
      clear h0 HV
      cases hv : mtAt (cov dom hold) items stack i j with
      | true =>
        rw [hv] at hcell
        simp only [cond_true] at hcell
        have HV : Hid (mtAt (cov dom hold) items stack i j = true) := hv
        clear hv
        go_enter Try.func24, Try.ntmps24
        go_wp2_with fail
        go_ret
        exact ⟨by rw [HV.out]; rfl, HM.out, World.grownBy.refl _ _⟩
      | false =>
        rw [hv] at hcell
        simp only [cond_false] at hcell
        have HV : Hid (mtAt (cov dom hold) items stack i j = false) := hv
        clear hv
        go_enter Try.func24, Try.ntmps24
        go_wp2_with fail
        go_ret
        exact ⟨by rw [HV.out]; rfl, HM.out, World.grownBy.refl _ _⟩
end Go.Proofs.Qxb6601388a
