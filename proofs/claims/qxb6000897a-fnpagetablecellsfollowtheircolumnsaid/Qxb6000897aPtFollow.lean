import Derived.Test.Qxb6000897aPtReads
import Derived.Test.Qxb6000897aPtBytes24
namespace Go.Proofs.Qxb6000897a
open Go.RowKit
set_option linter.unusedVariables false

def TrueSaid (w : World) (e : Ending) (w' : World) : Prop := e = .returned (.bool true) ∧ Below w.heap.size w w'

set_option maxHeartbeats 4000000 in
set_option maxRecDepth 100000 in
theorem law6 (cap : ByteArray) (nv tv bv rv : Value) (ns ts : List ByteArray) (bs : List Bool) (rss : List (List ByteArray)) (w : World)
    (hn : Sl Value.string w w.heap.size nv ns) (ht : Sl Value.string w w.heap.size tv ts) (hb : Sl Value.bool w w.heap.size bv bs) (hr : Sl2 Value.string w w.heap.size rv rss)
    (m0 : cap.size ≤ maxLen) (m1 : ns.length ≤ maxLen) (m2 : ts.length ≤ maxLen) (m3 : bs.length ≤ maxLen) (m4 : rss.length ≤ maxLen) (m5 : ∀ (i : Nat) ss, rss[i]? = some ss → ss.length ≤ maxLen) :
    Calls Try.prog 6 #[.string cap, nv, tv, bv, rv] w (TrueSaid w) := by
  obtain ⟨a1, c1, rfl⟩ := hn.form
  obtain ⟨a2, c2, rfl⟩ := ht.form
  obtain ⟨a3, c3, rfl⟩ := hb.form
  obtain ⟨a4, c4, rfl⟩ := hr.form
  go_enter Try.func6, Try.ntmps6
  go_wp2_with fail
  refine (bytes24 cap _ _ _ _ ns ts bs rss _ _ hn ht hb hr m0 m1 m2 m3 m4 m5).mono ?_
  rintro e w' ⟨b, rfl, rfl⟩
  cases b with
  | false => go_wp2; go_ret; exact ⟨rfl, Below.refl _ _⟩
  | true =>
  go_wp2_with fail
  refine (page14 cap _ _ _ ts bs rss _ _ ht hb hr m0 m2 m3 m4 m5).mono ?_
  rintro e w' ⟨t, b, rfl, rfl, h14⟩
  cases b with
  | false => go_wp2; go_ret; exact ⟨rfl, Below.refl _ _⟩
  | true =>
  obtain ⟨l0, l1, l2, l3⟩ := h14 rfl
  clear h14
  go_wp2_with fail
  refine (add15 _ _ ns _ _ hn m1).mono ?_
  rintro e w' ⟨t', b, rfl, rfl, h15⟩
  cases b with
  | false => go_wp2; go_ret; exact ⟨rfl, Below.refl _ _⟩
  | true =>
  have l4 := h15 rfl
  clear h15
  go_wp2_with fail
  refine (fit16 _ _ _ _ rss _ _ hr m2 m4 m5).mono ?_
  rintro e w' ⟨b, rfl, rfl, h16⟩
  cases b with
  | false => go_wp2; go_ret; exact ⟨rfl, Below.refl _ _⟩
  | true =>
  have l5 := h16 rfl
  clear h16
  have l6 : ∀ (i : Nat) ss, rss[i]? = some ss → ss.length ≤ 1048576 := fun i ss hs => by have := l5 i ss hs; omega
  have L5 : Hid (∀ (i : Nat) ss, rss[i]? = some ss → ss.length ≤ ts.length) := l5
  have L6 : Hid (∀ (i : Nat) ss, rss[i]? = some ss → ss.length ≤ 1048576) := l6
  clear l5 l6 m5
  go_wp2_with fail
  refine (clone17 _ ns _ hn l4).mono ?_
  rintro e w1 ⟨v1, rfl, o1, b1⟩
  have z1 := b1.size
  go_wp2_with fail
  refine (clone17 _ ts _ ((ht.below b1).mono z1) l1).mono ?_
  rintro e w2 ⟨v2, rfl, o2, b2⟩
  have z2 := b2.size
  go_wp2_with fail
  refine (clone18 _ bs _ ((hb.below (b1.trans (b2.mono z1))).mono (by omega)) l2).mono ?_
  rintro e w3 ⟨v3, rfl, o3, b3⟩
  have z3 := b3.size
  go_wp2_with fail
  refine (clone19 _ rss _ ((hr.below (b1.trans ((b2.mono z1).trans (b3.mono (by omega))))).mono (by omega)) l3 L6.out).mono ?_
  rintro e w4 ⟨v4, rfl, s4, b4⟩
  have z4 := b4.size
  have s3 : Sl Value.bool w4 w4.heap.size v3 bs := ((Sl.of_own o3).below b4).mono z4
  have s2 : Sl Value.string w4 w4.heap.size v2 ts := (((Sl.of_own o2).below (b3.trans (b4.mono z3)))).mono (by omega)
  have s1 : Sl Value.string w4 w4.heap.size v1 ns := (((Sl.of_own o1).below (b2.trans ((b3.mono z2).trans (b4.mono (by omega)))))).mono (by omega)
  have b40 : Below w.heap.size w w4 := b1.trans ((b2.mono z1).trans ((b3.mono (by omega)).trans (b4.mono (by omega))))
  clear o1 o2 o3 b1 b2 b3 b4 hn ht hb hr
  obtain ⟨d1, f1, rfl⟩ := s1.form
  obtain ⟨d2, f2, rfl⟩ := s2.form
  obtain ⟨d3, f3, rfl⟩ := s3.form
  obtain ⟨d4, f4, rfl⟩ := s4.form
  go_wp2_with fail
  refine (cols22 _ _ _ ns ts bs _ s1 s2 s3 l4 l1 l2).mono ?_
  rintro e w5 ⟨v5, rfl, c5, b5⟩
  have z5 := b5.size
  obtain ⟨g5, cc5, hv5, hr5⟩ := c5
  subst hv5
  have c5 : Cols w5 w5.heap.size (.slice (some ⟨g5, 0, none⟩) ts.length cc5) ts bs := ⟨g5, cc5, rfl, hr5⟩
  clear hr5
  go_wp2_with fail
  refine (report21 _ _ _ _ _ _ _).mono ?_
  rintro e w6 ⟨rfl, hw6⟩
  have b6 : Below w5.heap.size w5 w6 := by rw [← hw6]; exact (Below.refl _ _).alloc (Nat.le_refl _) _
  have p0 : w6.cell? ⟨w5.heap.size, 0, none⟩ = some (.slice (some ⟨g5, 0, none⟩) ts.length cc5) := by rw [← hw6]; simp
  have p1 : w6.cell? ⟨w5.heap.size, 1, none⟩ = some (.slice d4 rss.length f4) := by rw [← hw6]; simp
  clear hw6
  have z6 := b6.size
  go_wp2_with fail
  refine (zzpage20 cap w5.heap.size _ _ ts bs rss _ p0 p1 ((c5.below b6).mono z6) ((s4.below (b5.trans (b6.mono z5))).mono (by omega)) l1 l3 L5.out).mono ?_
  rintro e w7 ⟨ao, cp, ao2, cp2, T, rfl, o7, q7, r7, b7⟩
  have z7 := b7.size
  have y2 := (s2.below (b5.trans ((b6.mono z5).trans (b7.mono (by omega))))).mono (show w4.heap.size ≤ w7.heap.size by omega)
  have y3 := (s3.below (b5.trans ((b6.mono z5).trans (b7.mono (by omega))))).mono (show w4.heap.size ≤ w7.heap.size by omega)
  have y4 := (s4.below (b5.trans ((b6.mono z5).trans (b7.mono (by omega))))).mono (show w4.heap.size ≤ w7.heap.size by omega)
  have b70 : Below w.heap.size w w7 := b40.trans ((b5.mono (by omega)).trans ((b6.mono (by omega)).trans (b7.mono (by omega))))
  have z70 : w.heap.size ≤ w7.heap.size := b70.size
  clear s1 s2 s3 s4 c5 p0 p1 b40 b5 b6 b7 z1 z2 z3 z4 z5 z6 z7 L6
  go_wp2
  have X0 : Below w7.heap.size w7 (w7.alloc (.cells #[.string cap, .slice ao ts.length cp, .slice ao2 rss.length cp2] 42)) := (Below.refl _ _).alloc (Nat.le_refl _) _
  have X1 := tab_new w7 cap (.slice ao ts.length cp) (.slice ao2 rss.length cp2)
  have HH : Hid (w7.ownsRow w6.heap.size 49 2 (.slice ao ts.length cp) ts.length (flat (line ts bs ts.length))) := o7
  have HQ : Hid (w7.ownsRow w6.heap.size 39 1 (.slice ao2 rss.length cp2) rss.length ((List.range rss.length).map fun j => sl3 (T j))) := q7
  have HR : Hid (∀ j ss, rss[j]? = some ss → PRow w7 (sl3 (T j)) ss bs) := r7
  clear o7 q7 r7
  have X3 : Hid ((w7.alloc (.cells #[.string cap, .slice ao ts.length cp, .slice ao2 rss.length cp2] 42)).rowIs w7.heap.size 42 3 (tab cap (.slice ao ts.length cp) (.slice ao2 rss.length cp2))) := X1
  clear X1
  go_loopw [14, 15] (fun i _ wz => ∃ k : Nat, k ≤ rss.length ∧ i = .int .i64 k ∧ Below w7.heap.size w7 wz ∧ wz.rowIs w7.heap.size 42 3 (tab cap (.slice ao ts.length cp) (.slice ao2 rss.length cp2))) (fun i _ _ => rss.length - (intOf i).toNat)
  case atStart => exact ⟨0, Nat.zero_le _, rfl, X0, X3.out⟩
  case round =>
    clear X0 X3
    obtain ⟨k2, hk2, rfl, bw, tw⟩ := hrel
    have x3 : wr.cell? ⟨w7.heap.size, 2, none⟩ = some (.slice ao2 rss.length cp2) := tw.cell (i := 2) (by omega)
    have x2 : wr.cell? ⟨w7.heap.size, 1, none⟩ = some (.slice ao ts.length cp) := tw.cell (i := 1) (by omega)
    by_cases hlt : k2 < rss.length
    · obtain ⟨ss, hs⟩ : ∃ z, rss[k2]? = some z := ⟨rss[k2], by simp [hlt]⟩
      obtain ⟨gr, rfl, hgr, hcc⟩ := rows_cells HQ.out hlt
      obtain ⟨q, hq, hqlt, hqc⟩ := (HR.out k2 ss hs).cells
      have hgc := hcc k2 hlt
      rw [hq] at hgc
      have hfit := L5.out k2 ss hs
      have x1 : wr.cell? ⟨gr, k2, none⟩ = some (.slice (some ⟨q, 0, none⟩) ss.length ss.length) := by rw [bw.cell (p := ⟨gr, k2, none⟩) hgr]; exact hgc
      have hlt' : (k2 : Int) < rss.length := by omega
      have HGC : Hid (w7.cell? ⟨gr, k2, none⟩ = some (.slice (some ⟨q, 0, none⟩) ss.length ss.length)) := hgc
      have B2 : Hid (Below w7.heap.size w7 wr) := bw
      have T2 : Hid (wr.rowIs w7.heap.size 42 3 (tab cap (.slice ao ts.length cp) (.slice (some ⟨gr, 0, none⟩) rss.length cp2))) := tw
      have hfit' : ¬ ((ts.length : Int) < ss.length) := by omega
      clear hs hcc hq hgc bw tw
      go_wp2
      go_quiet (fail)
      go_wp2
      clear x1 x3 x2
      go_loopw [15] (fun i wz => ∃ m : Nat, m ≤ ss.length ∧ i = .int .i64 m ∧ Below w7.heap.size w7 wz ∧ wz.rowIs w7.heap.size 42 3 (tab cap (.slice ao ts.length cp) (.slice (some ⟨gr, 0, none⟩) rss.length cp2))) (fun i _ => ss.length - (intOf i).toNat)
      case atStart => exact ⟨0, Nat.zero_le _, rfl, below_drewN B2.out _, T2.out⟩
      case round =>
        clear B2 T2
        obtain ⟨m, hm, rfl, bw, tw⟩ := hrel
        have x1 : wr.cell? ⟨gr, k2, none⟩ = some (.slice (some ⟨q, 0, none⟩) ss.length ss.length) := by rw [bw.cell (p := ⟨gr, k2, none⟩) hgr]; exact HGC.out
        have x3 : wr.cell? ⟨w7.heap.size, 2, none⟩ = some (.slice (some ⟨gr, 0, none⟩) rss.length cp2) := tw.cell (i := 2) (by omega)
        have B3 : Hid (Below w7.heap.size w7 wr) := bw
        have T3 : Hid (wr.rowIs w7.heap.size 42 3 (tab cap (.slice ao ts.length cp) (.slice (some ⟨gr, 0, none⟩) rss.length cp2))) := tw
        by_cases hmlt : m < ss.length
        · have hmt : m < ts.length := by omega
          obtain ⟨gh, rfl, hgh, hch⟩ := head_cells HH.out hmt
          obtain ⟨bk, hbk⟩ : ∃ x, bs.getD m false = x := ⟨_, rfl⟩
          have x2 : wr.cell? ⟨w7.heap.size, 1, none⟩ = some (.slice (some ⟨gh, 0, none⟩) ts.length cp) := tw.cell (i := 1) (by omega)
          have x4 : wr.cell? ⟨gh, m * 2 + 1, none⟩ = some (.bool bk) := by rw [bw.cell (p := ⟨gh, m * 2 + 1, none⟩) hgh, (hch m hmt).2, hbk]
          have x5 : wr.cell? ⟨q, m * 2 + 1, none⟩ = some (.bool bk) := by rw [bw.cell (p := ⟨q, m * 2 + 1, none⟩) hqlt, (hqc m hmlt).2, hbk]
          have hmlt' : (m : Int) < ss.length := by omega
          have hmt' : (m : Int) < ts.length := by omega
          clear hch hbk bw tw hqc
          go_wp2
          go_quiet (fail)
          go_wp2
          go_roundw
          case rel => exact ⟨m + 1, by omega, by go_num, below_drewN B3.out _, T3.out⟩
          case measure => simp [intOf]; omega
        · clear hqc bw tw
          go_wp2
          go_roundw
          case rel => exact ⟨k2 + 1, by omega, by go_num, B3.out, T3.out⟩
          case measure => simp [intOf]; omega
    · go_wp2
      go_ret
      exact ⟨rfl, b70.trans (bw.mono z70)⟩
end Go.Proofs.Qxb6000897a
