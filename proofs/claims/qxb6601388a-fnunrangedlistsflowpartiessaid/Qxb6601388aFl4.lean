import Derived.Test.Qxb6601388aFl3
namespace Go.Proofs.Qxb6601388a
open Go.RowKit
set_option linter.unusedVariables false

def AdjTo (next : List (List Nat)) (k : Nat) (A : Nat → Nat → Bool) : Prop := ∀ u x, A u x = true ↔ u < k ∧ Ed next u x
def AdjIn (next : List (List Nat)) (k : Nat) (l : List Nat) (j : Nat) (A : Nat → Nat → Bool) : Prop := ∀ u x, A u x = true ↔ (u < k ∧ Ed next u x) ∨ (u = k ∧ ∃ t, t < j ∧ l[t]? = some x)

theorem AdjIn.start {next : List (List Nat)} {k : Nat} {A : Nat → Nat → Bool} (h : AdjTo next k A) (l : List Nat) : AdjIn next k l 0 A := by
  intro u x
  rw [h u x]
  simp

theorem AdjIn.step {next : List (List Nat)} {k j y : Nat} {l : List Nat} {A : Nat → Nat → Bool} (h : AdjIn next k l j A) (hy : l[j]? = some y) : AdjIn next k l (j + 1) (fun u' x' => A u' x' || (decide (u' = k) && decide (x' = y))) := by
  intro u x
  simp only [Bool.or_eq_true, Bool.and_eq_true, decide_eq_true_eq, h u x]
  constructor
  · rintro ((h1 | ⟨h1, t, h2, h3⟩) | ⟨h1, h2⟩)
    · exact .inl h1
    · exact .inr ⟨h1, t, by omega, h3⟩
    · exact .inr ⟨h1, j, by omega, by rw [hy, h2]⟩
  · rintro (h1 | ⟨h1, t, h2, h3⟩)
    · exact .inl (.inl h1)
    · by_cases e : t = j
      · subst e
        rw [hy] at h3
        simp at h3
        exact .inr ⟨h1, h3.symm⟩
      · exact .inl (.inr ⟨h1, t, by omega, h3⟩)

theorem AdjIn.fin {next : List (List Nat)} {k : Nat} {l : List Nat} {A : Nat → Nat → Bool} (h : AdjIn next k l l.length A) (hl : next[k]? = some l) : AdjTo next (k + 1) A := by
  intro u x
  rw [h u x]
  constructor
  · rintro (⟨h1, h2⟩ | ⟨h1, t, h2, h3⟩)
    · exact ⟨by omega, h2⟩
    · subst h1
      exact ⟨by omega, l, hl, List.mem_of_getElem? h3⟩
  · rintro ⟨h1, h2⟩
    by_cases e : u = k
    · subst e
      obtain ⟨l', hl', hx⟩ := h2
      rw [hl] at hl'
      simp at hl'
      subst hl'
      obtain ⟨t, ht⟩ := List.getElem?_of_mem hx
      exact .inr ⟨rfl, t, lt_of_some ht, ht⟩
    · exact .inl ⟨by omega, h2⟩

/-- flow, in the round x. -/
def FlowTo (v : Nat) (next : List (List Nat)) (a b x : Nat) (f : Bool) : Prop := f = true ↔ Ed next a b ∨ ∃ y, v ≤ y ∧ y < x ∧ Ed next a y ∧ Ed next y b

set_option maxRecDepth 100000 in
set_option maxHeartbeats 4000000 in
/-- zzflowModel -/
theorem model20 (nv xv rv bv : Value) (names : List ByteArray) (next : List (List Nat)) (ranged : List ByteArray) (needs : List Bool) (w : World) (hn : Sl Value.string w w.heap.size nv names) (hx : Sl2 nat64 w w.heap.size xv next) (hr : Sl Value.string w w.heap.size rv ranged) (hb : Sl Value.bool w w.heap.size bv needs)
    (hs : Hid (Shaped names.length next)) (m1 : names.length ≤ 256) (m2 : next.length ≤ 512) (m3 : ranged.length ≤ 4096) (m4 : needs.length ≤ 4096) (m5 : Hid (∀ (i : Nat) l, next[i]? = some l → l.length ≤ 65536)) :
    Calls Try.prog 20 #[nv, xv, rv, bv] w (FlowSaid names next ranged needs w) := by
  obtain ⟨a0, c0, rfl⟩ := hn.form
  obtain ⟨a1, c1, rfl⟩ := hx.form
  obtain ⟨a2, c2, rfl⟩ := hr.form
  obtain ⟨a3, c3, rfl⟩ := hb.form
  have hvn := hs.out.1
  obtain ⟨N, hN⟩ : ∃ N, next.length * next.length = N := ⟨_, rfl⟩
  have hNb : N ≤ 262144 := by have := Nat.mul_le_mul m2 m2; omega
  have hNi : (next.length : Int) * (next.length : Int) = (N : Int) := by rw [← hN, Int.natCast_mul]
  have HN : Hid (next.length * next.length = N) := hN
  clear hN
  have hmk := run_make_row' (P := Try.prog) 32 4 (.bool false) 1 Try.underlying32 Try.info4 rfl .i64 .i64 N (by omega) (by omega)
  have hmk2 := run_make_row' (P := Try.prog) 32 4 (.bool false) 1 Try.underlying32 Try.info4 rfl .i64 .i64 names.length (by omega) (by omega)
  have HX : Hid (Sl2 nat64 w w.heap.size (.slice a1 next.length c1) next) := hx
  have HNM : Hid (Sl Value.string w w.heap.size (.slice a0 names.length c0) names) := hn
  have HR : Hid (Sl Value.string w w.heap.size (.slice a2 ranged.length c2) ranged) := hr
  have HB : Hid (Sl Value.bool w w.heap.size (.slice a3 needs.length c3) needs) := hb
  clear hn hx hr hb
  go_enter Try.func20, Try.ntmps20
  go_wp2
  go_loopw [12] (fun i wr => ∃ (k : Nat) (A : Nat → Nat → Bool), k ≤ next.length ∧ i = .int .i64 k ∧ Adj wr w.heap.size next.length A ∧ AdjTo next k A ∧ Below w.heap.size w wr) (fun i _ => next.length - (intOf i).toNat)
  case atStart =>
    refine ⟨0, _, Nat.zero_le _, rfl, Adj.made w next.length N HN.out, fun u x => by simp, (Below.refl _ _).alloc (Nat.le_refl _) _⟩
  case round =>
    obtain ⟨k, A, hk, rfl, hA0, hAT, hbel⟩ := hrel
    have HA : Hid (Adj wr w.heap.size next.length A) := hA0
    have HAT : Hid (AdjTo next k A) := hAT
    have HBEL : Hid (Below w.heap.size w wr) := hbel
    clear hA0 hAT hbel
    by_cases hlt : k < next.length
    · obtain ⟨l, hl⟩ : ∃ s, next[k]? = some s := ⟨next[k], by simp [hlt]⟩
      obtain ⟨b, o, rfl, hb, hc⟩ := HX.out.place hl
      obtain ⟨a', c', hcell0, hsl⟩ := hc k l hl
      have hcell : wr.cell? ⟨b, o + k, none⟩ = some (.slice a' l.length c') := by rw [HBEL.out.cell (p := ⟨b, o + k, none⟩) hb]; exact hcell0
      have hll := m5.out k l hl
      have HL : Hid (next[k]? = some l) := hl
      have HSL : Hid (Sl nat64 w w.heap.size (.slice a' l.length c') l) := hsl
      clear hc hl hcell0 hsl
      go_wp2
      clear hcell
      obtain ⟨wo, rfl⟩ : ∃ x, x = wr := ⟨wr, rfl⟩
      go_loopw [41] (fun i wr => ∃ (j : Nat) (A : Nat → Nat → Bool), j ≤ l.length ∧ i = .int .i64 j ∧ Adj wr w.heap.size next.length A ∧ AdjIn next k l j A ∧ Below w.heap.size w wr) (fun i _ => l.length - (intOf i).toNat)
      case atStart =>
        exact ⟨0, A, Nat.zero_le _, rfl, HA.out, AdjIn.start HAT.out l, HBEL.out⟩
      case round =>
        obtain ⟨j, A', hj, rfl, hA1, hAI, hbel1⟩ := hrel
        by_cases hjl : j < l.length
        · obtain ⟨x, hxx⟩ : ∃ s, l[j]? = some s := ⟨l[j], by simp [hjl]⟩
          obtain ⟨b2, o2, rfl, hb2, hc2⟩ := HSL.out.place hxx
          have x2 : wr.cell? ⟨b2, o2 + j, none⟩ = some (.int .i64 (x : Int)) := by rw [hbel1.cell (p := ⟨b2, o2 + j, none⟩) hb2]; exact hc2 j x hxx
          have hxn := (hs.out.2 k l x HL.out (List.mem_of_getElem? hxx)).1
          obtain ⟨q, hq⟩ : ∃ q, k * next.length + x = q := ⟨_, rfl⟩
          have hqN : q < N := by have := sq_lt hlt hxn; have := HN.out; omega
          have hqi : (k : Int) * (next.length : Int) + (x : Int) = (q : Int) := by rw [← hq]; simp
          obtain ⟨hc0, hfz⟩ := hA1.cell hlt hxn hq
          have p0 : (0 : Int) ≤ (k : Int) * (next.length : Int) := Int.mul_nonneg (by omega) (by omega)
          have p1 : (k : Int) * (next.length : Int) ≤ 262144 := by omega
          have R1 : Hid (Adj (wr.setCell ⟨w.heap.size, q, none⟩ (.bool true)) w.heap.size next.length (fun u' x' => A' u' x' || (decide (u' = k) && decide (x' = x)))) := hA1.store hxn hq
          have R2 : Hid (AdjIn next k l (j + 1) (fun u' x' => A' u' x' || (decide (u' = k) && decide (x' = x)))) := hAI.step hxx
          have R3 : Hid (Below w.heap.size w (wr.setCell ⟨w.heap.size, q, none⟩ (.bool true))) := hbel1.setCell (Nat.le_refl _) _
          clear hc2 hxx hq hA1 hAI hbel1
          go_wp2
          go_roundw
          case rel => exact ⟨j + 1, _, by omega, by go_num, R1.out, R2.out, R3.out⟩
          case measure => simp [intOf]; omega
        · have hje : j = l.length := by omega
          have R2 : Hid (AdjTo next (k + 1) A') := AdjIn.fin (hje ▸ hAI) HL.out
          clear hAI
          go_wp2
          go_roundw
          case rel => exact ⟨k + 1, A', by omega, by go_num, hA1, R2.out, hbel1⟩
          case measure => simp [intOf]; omega
    · have hke : k = next.length := by omega
      subst hke
      clear hlt hk
      have HE : Hid (∀ u x, A u x = true ↔ Ed next u x) := fun u x => by
        rw [HAT.out u x]
        exact ⟨fun h => h.2, fun h => ⟨(hs.out.lt h).1, h⟩⟩
      have hbp := HA.out.lt
      clear HAT
      go_wp2
      obtain ⟨wo, rfl⟩ : ∃ x, x = wr := ⟨wr, rfl⟩
      go_loopw [16] (fun i wr => ∃ (a : Nat) (Pm : Nat → Bool), a ≤ names.length ∧ i = .int .i64 a ∧ Adj wr w.heap.size next.length A ∧ Bls wr wo.heap.size names.length Pm ∧ PartOK names.length next a 0 Pm ∧ Below w.heap.size w wr) (fun i _ => names.length - (intOf i).toNat)
      case atStart =>
        exact ⟨0, _, Nat.zero_le _, rfl, HA.out.alloc _, World.rowIs_made wo (.bool false) names.length 4, part_start _ _, HBEL.out.alloc (by omega) _⟩
      case round =>
        obtain ⟨a, Pm, ha, rfl, hA0, hP0, hPO, hbel⟩ := hrel
        have HA : Hid (Adj wr w.heap.size next.length A) := hA0
        have HP : Hid (Bls wr wo.heap.size names.length Pm) := hP0
        have HPO : Hid (PartOK names.length next a 0 Pm) := hPO
        have HBEL : Hid (Below w.heap.size w wr) := hbel
        clear hA0 hP0 hPO hbel
        by_cases hav : a < names.length
        · go_wp2
          obtain ⟨wq, rfl⟩ : ∃ x, x = wr := ⟨wr, rfl⟩
          go_loopw [17] (fun i wr => ∃ (b : Nat) (Pm : Nat → Bool), b ≤ names.length ∧ i = .int .i64 b ∧ Adj wr w.heap.size next.length A ∧ Bls wr wo.heap.size names.length Pm ∧ PartOK names.length next a b Pm ∧ Below w.heap.size w wr) (fun i _ => names.length - (intOf i).toNat)
          case atStart =>
            exact ⟨0, Pm, Nat.zero_le _, rfl, HA.out, HP.out, HPO.out, HBEL.out⟩
          case round =>
            obtain ⟨b, Pm, hb, rfl, hA0, hP0, hPO, hbel⟩ := hrel
            have HA : Hid (Adj wr w.heap.size next.length A) := hA0
            have HP : Hid (Bls wr wo.heap.size names.length Pm) := hP0
            have HPO : Hid (PartOK names.length next a b Pm) := hPO
            have HBEL : Hid (Below w.heap.size w wr) := hbel
            clear hA0 hP0 hPO hbel
            by_cases hbv : b < names.length
            · by_cases hab : a = b
              · subst hab
                go_wp2
                go_roundw
                case rel => exact ⟨a + 1, Pm, by omega, by go_num, HA.out, HP.out, part_skip HPO.out (.inl rfl), HBEL.out⟩
                case measure => simp [intOf]; omega
              · have habi : ¬ (a : Int) = (b : Int) := by omega
                have hbn : b < next.length := by omega
                have han : a < next.length := by omega
                obtain ⟨q, hq⟩ : ∃ q, a * next.length + b = q := ⟨_, rfl⟩
                have hqN : q < N := by have := sq_lt han hbn; have := HN.out; omega
                have hqi : (a : Int) * (next.length : Int) + (b : Int) = (q : Int) := by rw [← hq]; simp
                obtain ⟨hc0, hfz⟩ := HA.out.cell han hbn hq
                have p0 : (0 : Int) ≤ (a : Int) * (next.length : Int) := Int.mul_nonneg (by omega) (by omega)
                have p1 : (a : Int) * (next.length : Int) ≤ 262144 := by omega
                clear hq
                go_wp2
                clear hc0 hfz hqi hqN
                go_loop [18, 19] (fun f i => ∃ (fb : Bool) (x : Nat), names.length ≤ x ∧ x ≤ next.length ∧ i = .int .i64 x ∧ f = .bool fb ∧ Hid (FlowTo names.length next a b x fb)) (fun _ i => next.length - (intOf i).toNat)
                case atStart =>
                  refine ⟨_, names.length, Nat.le_refl _, hvn, rfl, rfl, ?_⟩
                  show _ ↔ _
                  rw [HE.out a b]
                  constructor
                  · exact .inl
                  · rintro (h | ⟨y, h1, h2, _⟩)
                    · exact h
                    · omega
                case round =>
                  obtain ⟨fb, x, hx0, hx1, rfl, rfl, HF⟩ := hrel
                  cases fb with
                  | true =>
                    have hfl : Flow names.length next a b := by
                      rcases HF.out.1 rfl with h | ⟨y, h1, h2, h3, h4⟩
                      · exact .inl h
                      · exact .inr ⟨y, h1, h3, h4⟩
                    have R1 : Hid (Bls ((wr.setCell ⟨wo.heap.size, a, none⟩ (.bool true)).setCell ⟨wo.heap.size, b, none⟩ (.bool true)) wo.heap.size names.length (fun p => if p = b then true else if p = a then true else Pm p)) := (HP.out.store a true).store b true
                    have R2 : Hid (PartOK names.length next a (b + 1) (fun p => if p = b then true else if p = a then true else Pm p)) := part_hit HPO.out hav hbv hab hfl
                    have R3 : Hid (Below w.heap.size w ((wr.setCell ⟨wo.heap.size, a, none⟩ (.bool true)).setCell ⟨wo.heap.size, b, none⟩ (.bool true))) := (HBEL.out.setCell (by simp; omega) _).setCell (by simp; omega) _
                    have R4 : Hid (Adj ((wr.setCell ⟨wo.heap.size, a, none⟩ (.bool true)).setCell ⟨wo.heap.size, b, none⟩ (.bool true)) w.heap.size next.length A) := (HA.out.setOther (by simp; omega) _).setOther (by simp; omega) _
                    have ca := World.rowIs.cell HP.out hav
                    have fa := World.rowIs.frozen HP.out a
                    have cb := World.rowIs.cell (World.rowIs.set HP.out a (.bool true)) hbv
                    have fb' := World.rowIs.frozen (World.rowIs.set HP.out a (.bool true)) b
                    rw [if_neg (by omega)] at cb
                    clear hfl
                    go_wp2
                    go_roundw
                    case rel => exact ⟨b + 1, _, by omega, by go_num, R4.out, R1.out, R2.out, R3.out⟩
                    case measure => simp [intOf]; omega
                  | false =>
                    by_cases hxl : x < next.length
                    · obtain ⟨q, hq⟩ : ∃ q, a * next.length + x = q := ⟨_, rfl⟩
                      have hqN : q < N := by have := sq_lt han hxl; have := HN.out; omega
                      have hqi : (a : Int) * (next.length : Int) + (x : Int) = (q : Int) := by rw [← hq]; simp
                      obtain ⟨hc0, hfz⟩ := HA.out.cell han hxl hq
                      obtain ⟨q2, hq2⟩ : ∃ q, x * next.length + b = q := ⟨_, rfl⟩
                      have hqN2 : q2 < N := by have := sq_lt hxl hbn; have := HN.out; omega
                      have hqi2 : (x : Int) * (next.length : Int) + (b : Int) = (q2 : Int) := by rw [← hq2]; simp
                      obtain ⟨hc02, hfz2⟩ := HA.out.cell hxl hbn hq2
                      have p02 : (0 : Int) ≤ (x : Int) * (next.length : Int) := Int.mul_nonneg (by omega) (by omega)
                      have p12 : (x : Int) * (next.length : Int) ≤ 262144 := by omega
                      clear hq hq2
                      have HH : Hid (FlowTo names.length next a b (x + 1) (A a x && A x b)) := by
                        show _ ↔ _
                        rw [Bool.and_eq_true, HE.out a x, HE.out x b]
                        constructor
                        · rintro ⟨h1, h2⟩
                          exact .inr ⟨x, hx0, by omega, h1, h2⟩
                        · intro h
                          have hno : ¬ (Ed next a b ∨ ∃ y, names.length ≤ y ∧ y < x ∧ Ed next a y ∧ Ed next y b) := fun h => by have := HF.out.2 h; cases this
                          rcases h with h | ⟨y, h1, h2, h3, h4⟩
                          · exact absurd (.inl h) hno
                          · by_cases e : y = x
                            · subst e; exact ⟨h3, h4⟩
                            · exact absurd (.inr ⟨y, h1, by omega, h3, h4⟩) hno
                      cases hax : A a x with
                      | false =>
                        rw [hax] at hc0 HH
                        go_wp2
                        go_round
                        case rel => exact ⟨false, x + 1, by omega, by omega, by go_num, rfl, HH⟩
                        case measure => simp [intOf]; omega
                      | true =>
                        rw [hax] at hc0 HH
                        go_wp2
                        go_round
                        case rel => exact ⟨_, x + 1, by omega, by omega, by go_num, rfl, HH⟩
                        case measure => simp [intOf]; omega
                    · have hnf : ¬ Flow names.length next a b := by
                        intro h
                        have : (false = true) := HF.out.2 (by
                          rcases h with h | ⟨y, h1, h3, h4⟩
                          · exact .inl h
                          · exact .inr ⟨y, h1, by have := (hs.out.lt h4).1; omega, h3, h4⟩)
                        cases this
                      have HNF : Hid (¬ Flow names.length next a b) := hnf
                      clear hnf
                      go_wp2
                      go_roundw
                      case rel => exact ⟨b + 1, Pm, by omega, by go_num, HA.out, HP.out, part_skip HPO.out (.inr HNF.out), HBEL.out⟩
                      case measure => simp [intOf]; omega
            · have hbe : b = names.length := by omega
              subst hbe
              go_wp2
              go_roundw
              case rel => exact ⟨a + 1, Pm, by omega, by go_num, HA.out, HP.out, part_row HPO.out, HBEL.out⟩
              case measure => simp [intOf]; omega
        · have hae : a = names.length := by omega
          subst hae
          clear hav ha
          obtain ⟨Q, hQ⟩ : ∃ Q : Nat → Bool, Q = fun p => needs.getD p false || Pm p := ⟨_, rfl⟩
          obtain ⟨keep, hkeep⟩ : ∃ keep, keep = keepB names ranged Q := ⟨_, rfl⟩
          have HK : Hid (KeepOK names next ranged needs keep) := by
            show KeepOK _ _ _ _ _
            rw [hkeep]
            refine keepB_ok (fun p hp => ?_)
            rw [hQ]
            simp only [Bool.or_eq_true, part_end HPO.out p hp]
          have HKP : Hid (∀ p, keep p = ((needs.getD p false || Pm p) && !hasB ranged (names.getD p ByteArray.empty))) := by
            intro p; rw [hkeep, keepB, hQ]
          clear hQ hkeep HPO
          obtain ⟨i0, hi, hz0, hz1, hz2⟩ : ∃ i0, Try.prog.info? 9 = some i0 ∧ i0.zero = some (.string ByteArray.empty) ∧ i0.size = 1 ∧ i0.bytes = 16 := by
            have h := Try.info9
            cases hh : Try.prog.info? 9 with
            | none => rw [hh] at h; simp at h
            | some i0 => rw [hh] at h; simp at h; exact ⟨i0, rfl, h.1, h.2.1, h.2.2⟩
          have hbw := HBEL.out.size
          have hpw := World.rowIs.lt HP.out
          go_wp2
          obtain ⟨wq, rfl⟩ : ∃ x, x = wr := ⟨wr, rfl⟩
          go_loopw [20, 21] (fun u i wr => ∃ (p : Nat), p ≤ names.length ∧ i = .int .i64 p ∧ wr.ownsRow w.heap.size 9 1 u (outTo names keep p).length ((outTo names keep p).map Value.string) ∧ (outTo names keep p = [] → u = .slice none 0 0) ∧ (∀ q, u.ownBlock = some q → wo.heap.size < q) ∧ Bls wr wo.heap.size names.length Pm ∧ Below w.heap.size w wr) (fun _ i _ => names.length - (intOf i).toNat)
          case atStart =>
            exact ⟨0, Nat.zero_le _, rfl, World.ownsRow_nil _ _ _ _, fun _ => rfl, (fun q hq => by cases hq), HP.out, HBEL.out⟩
          case round =>
            obtain ⟨p, hp, rfl, hown, hnil, hab, hP0, hbel⟩ := hrel
            have HNIL : Hid (outTo names keep p = [] → u20 = .slice none 0 0) := hnil
            have HAB : Hid (∀ q, u20.ownBlock = some q → wo.heap.size < q) := hab
            have HP : Hid (Bls wr wo.heap.size names.length Pm) := hP0
            have HBEL : Hid (Below w.heap.size w wr) := hbel
            have HOWN : Hid (wr.ownsRow w.heap.size 9 1 u20 (outTo names keep p).length ((outTo names keep p).map Value.string)) := hown
            have hol := outTo_len names keep p
            clear hnil hab hP0 hbel hown
            by_cases hpv : p < names.length
            · obtain ⟨s, hs'⟩ : ∃ s, names[p]? = some s := ⟨names[p], by simp [hpv]⟩
              obtain ⟨b, o, rfl, hb, hc⟩ := HNM.out.place hs'
              have hcell : wr.cell? ⟨b, o + p, none⟩ = some (.string s) := by rw [HBEL.out.cell (p := ⟨b, o + p, none⟩) hb]; exact hc p s hs'
              have HS : Hid (names.getD p ByteArray.empty = s) := by show _ = _; simp [hs']
              have hkp : Hid (keep p = ((needs.getD p false || Pm p) && !hasB ranged s)) := by have := HKP.out p; rw [HS.out] at this; exact this
              have cp := World.rowIs.cell HP.out hpv
              clear hc hs'
              have hD : (∃ b o, a3 = some ⟨b, o, none⟩ ∧ p < needs.length ∧ wr.cell? ⟨b, o + p, none⟩ = some (.bool true) ∧ Hid (needs.getD p false = true)) ∨
                  (∃ b o, a3 = some ⟨b, o, none⟩ ∧ p < needs.length ∧ wr.cell? ⟨b, o + p, none⟩ = some (.bool false) ∧ Hid (needs.getD p false = false)) ∨ (needs.length ≤ p ∧ Hid (needs.getD p false = false)) := by
                by_cases h : p < needs.length
                · obtain ⟨y, hy⟩ : ∃ s, needs[p]? = some s := ⟨needs[p], by simp [h]⟩
                  obtain ⟨b3, o3, e3, hb3, hc3⟩ := HB.out.place hy
                  have h3 : wr.cell? ⟨b3, o3 + p, none⟩ = some (.bool y) := by rw [HBEL.out.cell (p := ⟨b3, o3 + p, none⟩) hb3]; exact hc3 p y hy
                  cases y with
                  | true => exact .inl ⟨b3, o3, e3, h, h3, by show _ = _; simp [hy]⟩
                  | false => exact .inr (.inl ⟨b3, o3, e3, h, h3, by show _ = _; simp [hy]⟩)
                · exact .inr (.inr ⟨by omega, by show _ = _; simp [List.getElem?_eq_none (by omega : needs.length ≤ p)]⟩)
              cases hPm : Pm p
              all_goals rw [hPm] at cp
              all_goals rcases hD with ⟨b3, o3, rfl, h3, c3', HM⟩ | ⟨b3, o3, rfl, h3, c3', HM⟩ | ⟨h3, HM⟩
              · skip
                have HK1 : Hid (keep p = !hasB ranged s) := by have := hkp.out; rw [HM.out, hPm] at this; simpa [Hid] using this
                go_wp2_with fail
                refine (has27 _ ranged s _ w.heap.size (HR.out.below HBEL.out) m3 (hasB ranged s) (hasB_iff ranged s)).mono ?_
                rintro e w1 ⟨rfl, rfl⟩
                cases hh : hasB ranged s with
                | true =>
                  have HO : Hid (outTo names keep (p + 1) = outTo names keep p) := outTo_no (by rw [HK1.out, hh]; rfl)
                  clear hh
                  go_wp2
                  go_roundw
                  case rel =>
                    refine ⟨p + 1, by omega, by go_num, ?_, ?_, HAB.out, HP.out, HBEL.out⟩
                    · rw [HO.out]; exact HOWN.out
                    · rw [HO.out]; exact HNIL.out
                  case measure => simp [intOf]; omega
                | false =>
                  have HO : Hid (outTo names keep (p + 1) = outTo names keep p ++ [s]) := by
                    have := outTo_yes (names := names) (keep := keep) (k := p) (by rw [HK1.out, hh]; rfl)
                    rw [HS.out] at this
                    exact this
                  clear hh
                  have hwsz := HBEL.out.size
                  go_wp2_with (at_builtin; refine wpList_append_own2 _ rfl _ _ 24 rfl w.heap.size 9 i0 (.string ByteArray.empty) 1 16 Try.underlying24 hi hz0 hz1 hz2 rfl (by decide) _ _ _ rfl (HOWN.out.alloc _) ⟨wr.heap.size, 0, none⟩ 1 1 [.string s] (by decide) rfl rfl ?c1 ?c2 ?c3 ?c4 ?c5 ?_)
                  case c1 => exact cell_one_new _ _ _
                  case c2 => intro u hu; simp at hu; subst hu; rfl
                  case c3 => unfold maxLen; omega
                  case c4 => omega
                  case c5 => simp; omega
                  intro v1 w1 hown1 hgrow1 hor1
                  have hblt := fun q hq => (HOWN.out.lt q hq)
                  have hpl := World.rowIs.lt HP.out
                  have R1 : Hid (w1.ownsRow w.heap.size 9 1 v1 (outTo names keep (p + 1)).length ((outTo names keep (p + 1)).map Value.string)) := by
                    show World.ownsRow _ _ _ _ _ _ _
                    rw [HO.out, List.map_append, List.length_append]
                    exact hown1
                  have R2 : Hid (outTo names keep (p + 1) = [] → v1 = .slice none 0 0) := by
                    intro h; rw [HO.out] at h; simp at h
                  have R3 : Hid (∀ q, v1.ownBlock = some q → wo.heap.size < q) := by
                    intro q hq
                    rcases hor1 with h | h
                    · exact HAB.out q (by rw [← h]; exact hq)
                    · rw [h] at hq; simp at hq; omega
                  have R4 : Hid (Bls w1 wo.heap.size names.length Pm) := by
                    refine World.rowIs.of_block (World.rowIs.alloc HP.out _) (hgrow1.block _ (by simp; omega) ?_)
                    intro h
                    have := HAB.out _ h.symm
                    omega
                  have R5 : Hid (Below w.heap.size w w1) := (HBEL.out.alloc hwsz _).grown hgrow1 (by simp; omega) (fun q hq => (hblt q hq).1)
                  clear hown1 hgrow1 hor1 hblt
                  go_wp2
                  go_roundw
                  case rel => exact ⟨p + 1, by omega, by go_num, R1.out, R2.out, R3.out, R4.out, R5.out⟩
                  case measure => simp [intOf]; omega
              · skip
                have HO : Hid (outTo names keep (p + 1) = outTo names keep p) := outTo_no (by have := hkp.out; rw [HM.out, hPm] at this; simpa using this)
                go_wp2
                go_roundw
                case rel =>
                  refine ⟨p + 1, by omega, by go_num, ?_, ?_, HAB.out, HP.out, HBEL.out⟩
                  · rw [HO.out]; exact HOWN.out
                  · rw [HO.out]; exact HNIL.out
                case measure => simp [intOf]; omega
              · skip
                have HO : Hid (outTo names keep (p + 1) = outTo names keep p) := outTo_no (by have := hkp.out; rw [HM.out, hPm] at this; simpa using this)
                go_wp2
                go_roundw
                case rel =>
                  refine ⟨p + 1, by omega, by go_num, ?_, ?_, HAB.out, HP.out, HBEL.out⟩
                  · rw [HO.out]; exact HOWN.out
                  · rw [HO.out]; exact HNIL.out
                case measure => simp [intOf]; omega
              · skip
                have HK1 : Hid (keep p = !hasB ranged s) := by have := hkp.out; rw [HM.out, hPm] at this; simpa [Hid] using this
                go_wp2_with fail
                refine (has27 _ ranged s _ w.heap.size (HR.out.below HBEL.out) m3 (hasB ranged s) (hasB_iff ranged s)).mono ?_
                rintro e w1 ⟨rfl, rfl⟩
                cases hh : hasB ranged s with
                | true =>
                  have HO : Hid (outTo names keep (p + 1) = outTo names keep p) := outTo_no (by rw [HK1.out, hh]; rfl)
                  clear hh
                  go_wp2
                  go_roundw
                  case rel =>
                    refine ⟨p + 1, by omega, by go_num, ?_, ?_, HAB.out, HP.out, HBEL.out⟩
                    · rw [HO.out]; exact HOWN.out
                    · rw [HO.out]; exact HNIL.out
                  case measure => simp [intOf]; omega
                | false =>
                  have HO : Hid (outTo names keep (p + 1) = outTo names keep p ++ [s]) := by
                    have := outTo_yes (names := names) (keep := keep) (k := p) (by rw [HK1.out, hh]; rfl)
                    rw [HS.out] at this
                    exact this
                  clear hh
                  have hwsz := HBEL.out.size
                  go_wp2_with (at_builtin; refine wpList_append_own2 _ rfl _ _ 24 rfl w.heap.size 9 i0 (.string ByteArray.empty) 1 16 Try.underlying24 hi hz0 hz1 hz2 rfl (by decide) _ _ _ rfl (HOWN.out.alloc _) ⟨wr.heap.size, 0, none⟩ 1 1 [.string s] (by decide) rfl rfl ?c1 ?c2 ?c3 ?c4 ?c5 ?_)
                  case c1 => exact cell_one_new _ _ _
                  case c2 => intro u hu; simp at hu; subst hu; rfl
                  case c3 => unfold maxLen; omega
                  case c4 => omega
                  case c5 => simp; omega
                  intro v1 w1 hown1 hgrow1 hor1
                  have hblt := fun q hq => (HOWN.out.lt q hq)
                  have hpl := World.rowIs.lt HP.out
                  have R1 : Hid (w1.ownsRow w.heap.size 9 1 v1 (outTo names keep (p + 1)).length ((outTo names keep (p + 1)).map Value.string)) := by
                    show World.ownsRow _ _ _ _ _ _ _
                    rw [HO.out, List.map_append, List.length_append]
                    exact hown1
                  have R2 : Hid (outTo names keep (p + 1) = [] → v1 = .slice none 0 0) := by
                    intro h; rw [HO.out] at h; simp at h
                  have R3 : Hid (∀ q, v1.ownBlock = some q → wo.heap.size < q) := by
                    intro q hq
                    rcases hor1 with h | h
                    · exact HAB.out q (by rw [← h]; exact hq)
                    · rw [h] at hq; simp at hq; omega
                  have R4 : Hid (Bls w1 wo.heap.size names.length Pm) := by
                    refine World.rowIs.of_block (World.rowIs.alloc HP.out _) (hgrow1.block _ (by simp; omega) ?_)
                    intro h
                    have := HAB.out _ h.symm
                    omega
                  have R5 : Hid (Below w.heap.size w w1) := (HBEL.out.alloc hwsz _).grown hgrow1 (by simp; omega) (fun q hq => (hblt q hq).1)
                  clear hown1 hgrow1 hor1 hblt
                  go_wp2
                  go_roundw
                  case rel => exact ⟨p + 1, by omega, by go_num, R1.out, R2.out, R3.out, R4.out, R5.out⟩
                  case measure => simp [intOf]; omega
              · skip
                have HK1 : Hid (keep p = !hasB ranged s) := by have := hkp.out; rw [HM.out, hPm] at this; simpa [Hid] using this
                go_wp2_with fail
                refine (has27 _ ranged s _ w.heap.size (HR.out.below HBEL.out) m3 (hasB ranged s) (hasB_iff ranged s)).mono ?_
                rintro e w1 ⟨rfl, rfl⟩
                cases hh : hasB ranged s with
                | true =>
                  have HO : Hid (outTo names keep (p + 1) = outTo names keep p) := outTo_no (by rw [HK1.out, hh]; rfl)
                  clear hh
                  go_wp2
                  go_roundw
                  case rel =>
                    refine ⟨p + 1, by omega, by go_num, ?_, ?_, HAB.out, HP.out, HBEL.out⟩
                    · rw [HO.out]; exact HOWN.out
                    · rw [HO.out]; exact HNIL.out
                  case measure => simp [intOf]; omega
                | false =>
                  have HO : Hid (outTo names keep (p + 1) = outTo names keep p ++ [s]) := by
                    have := outTo_yes (names := names) (keep := keep) (k := p) (by rw [HK1.out, hh]; rfl)
                    rw [HS.out] at this
                    exact this
                  clear hh
                  have hwsz := HBEL.out.size
                  go_wp2_with (at_builtin; refine wpList_append_own2 _ rfl _ _ 24 rfl w.heap.size 9 i0 (.string ByteArray.empty) 1 16 Try.underlying24 hi hz0 hz1 hz2 rfl (by decide) _ _ _ rfl (HOWN.out.alloc _) ⟨wr.heap.size, 0, none⟩ 1 1 [.string s] (by decide) rfl rfl ?c1 ?c2 ?c3 ?c4 ?c5 ?_)
                  case c1 => exact cell_one_new _ _ _
                  case c2 => intro u hu; simp at hu; subst hu; rfl
                  case c3 => unfold maxLen; omega
                  case c4 => omega
                  case c5 => simp; omega
                  intro v1 w1 hown1 hgrow1 hor1
                  have hblt := fun q hq => (HOWN.out.lt q hq)
                  have hpl := World.rowIs.lt HP.out
                  have R1 : Hid (w1.ownsRow w.heap.size 9 1 v1 (outTo names keep (p + 1)).length ((outTo names keep (p + 1)).map Value.string)) := by
                    show World.ownsRow _ _ _ _ _ _ _
                    rw [HO.out, List.map_append, List.length_append]
                    exact hown1
                  have R2 : Hid (outTo names keep (p + 1) = [] → v1 = .slice none 0 0) := by
                    intro h; rw [HO.out] at h; simp at h
                  have R3 : Hid (∀ q, v1.ownBlock = some q → wo.heap.size < q) := by
                    intro q hq
                    rcases hor1 with h | h
                    · exact HAB.out q (by rw [← h]; exact hq)
                    · rw [h] at hq; simp at hq; omega
                  have R4 : Hid (Bls w1 wo.heap.size names.length Pm) := by
                    refine World.rowIs.of_block (World.rowIs.alloc HP.out _) (hgrow1.block _ (by simp; omega) ?_)
                    intro h
                    have := HAB.out _ h.symm
                    omega
                  have R5 : Hid (Below w.heap.size w w1) := (HBEL.out.alloc hwsz _).grown hgrow1 (by simp; omega) (fun q hq => (hblt q hq).1)
                  clear hown1 hgrow1 hor1 hblt
                  go_wp2
                  go_roundw
                  case rel => exact ⟨p + 1, by omega, by go_num, R1.out, R2.out, R3.out, R4.out, R5.out⟩
                  case measure => simp [intOf]; omega
              · skip
                have HK1 : Hid (keep p = !hasB ranged s) := by have := hkp.out; rw [HM.out, hPm] at this; simpa [Hid] using this
                go_wp2_with fail
                refine (has27 _ ranged s _ w.heap.size (HR.out.below HBEL.out) m3 (hasB ranged s) (hasB_iff ranged s)).mono ?_
                rintro e w1 ⟨rfl, rfl⟩
                cases hh : hasB ranged s with
                | true =>
                  have HO : Hid (outTo names keep (p + 1) = outTo names keep p) := outTo_no (by rw [HK1.out, hh]; rfl)
                  clear hh
                  go_wp2
                  go_roundw
                  case rel =>
                    refine ⟨p + 1, by omega, by go_num, ?_, ?_, HAB.out, HP.out, HBEL.out⟩
                    · rw [HO.out]; exact HOWN.out
                    · rw [HO.out]; exact HNIL.out
                  case measure => simp [intOf]; omega
                | false =>
                  have HO : Hid (outTo names keep (p + 1) = outTo names keep p ++ [s]) := by
                    have := outTo_yes (names := names) (keep := keep) (k := p) (by rw [HK1.out, hh]; rfl)
                    rw [HS.out] at this
                    exact this
                  clear hh
                  have hwsz := HBEL.out.size
                  go_wp2_with (at_builtin; refine wpList_append_own2 _ rfl _ _ 24 rfl w.heap.size 9 i0 (.string ByteArray.empty) 1 16 Try.underlying24 hi hz0 hz1 hz2 rfl (by decide) _ _ _ rfl (HOWN.out.alloc _) ⟨wr.heap.size, 0, none⟩ 1 1 [.string s] (by decide) rfl rfl ?c1 ?c2 ?c3 ?c4 ?c5 ?_)
                  case c1 => exact cell_one_new _ _ _
                  case c2 => intro u hu; simp at hu; subst hu; rfl
                  case c3 => unfold maxLen; omega
                  case c4 => omega
                  case c5 => simp; omega
                  intro v1 w1 hown1 hgrow1 hor1
                  have hblt := fun q hq => (HOWN.out.lt q hq)
                  have hpl := World.rowIs.lt HP.out
                  have R1 : Hid (w1.ownsRow w.heap.size 9 1 v1 (outTo names keep (p + 1)).length ((outTo names keep (p + 1)).map Value.string)) := by
                    show World.ownsRow _ _ _ _ _ _ _
                    rw [HO.out, List.map_append, List.length_append]
                    exact hown1
                  have R2 : Hid (outTo names keep (p + 1) = [] → v1 = .slice none 0 0) := by
                    intro h; rw [HO.out] at h; simp at h
                  have R3 : Hid (∀ q, v1.ownBlock = some q → wo.heap.size < q) := by
                    intro q hq
                    rcases hor1 with h | h
                    · exact HAB.out q (by rw [← h]; exact hq)
                    · rw [h] at hq; simp at hq; omega
                  have R4 : Hid (Bls w1 wo.heap.size names.length Pm) := by
                    refine World.rowIs.of_block (World.rowIs.alloc HP.out _) (hgrow1.block _ (by simp; omega) ?_)
                    intro h
                    have := HAB.out _ h.symm
                    omega
                  have R5 : Hid (Below w.heap.size w w1) := (HBEL.out.alloc hwsz _).grown hgrow1 (by simp; omega) (fun q hq => (hblt q hq).1)
                  clear hown1 hgrow1 hor1 hblt
                  go_wp2
                  go_roundw
                  case rel => exact ⟨p + 1, by omega, by go_num, R1.out, R2.out, R3.out, R4.out, R5.out⟩
                  case measure => simp [intOf]; omega
            · have hpe : p = names.length := by omega
              subst hpe
              go_wp2
              go_ret
              exact ⟨_, keep, rfl, HK.out, HOWN.out, HNIL.out, HBEL.out⟩

end Go.Proofs.Qxb6601388a
