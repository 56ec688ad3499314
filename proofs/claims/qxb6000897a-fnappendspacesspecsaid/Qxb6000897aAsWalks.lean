import Derived.Test.Qxb6000897aRows
import Derived.Test.Qxb6000897aBase
namespace Go.Proofs.Qxb6000897a
open Go.RowKit

theorem Try.info5 : (Try.prog.info? 5).map (fun i => (i.zero, i.size, i.bytes)) = some (some (.int .u8 0), 1, 1) := by kernel_rfl

/-- zzBytes_FnAppendSpacesSpec -/
theorem bytes8 (a : Option Addr) (n c : Nat) (k : Int) (w : World) (hn : n ≤ maxLen) :
    Calls Try.prog 8 #[.slice a n c, .int .i64 k] w fun e w' => e = .returned (.bool (decide (n ≤ 1048576))) ∧ w = w' := by
  unfold maxLen at hn
  by_cases h : n ≤ 1048576
  · go_enter Try.func8, Try.ntmps8
    go_wp2
    go_ret
    exact ⟨by simp [h], rfl⟩
  · go_enter Try.func8, Try.ntmps8
    go_wp2
    go_ret
    exact ⟨by simp [h], rfl⟩

/-- cloneBytesCmdB1 -/
theorem clone9 (v : Value) (zs : List Int) (w : World) (h : Sl (Value.int .u8) w w.heap.size v zs) (hn : zs.length ≤ 1048576) :
    Calls Try.prog 9 #[v] w fun e w' => ∃ v', e = .returned v' ∧ w'.ownsRow w.heap.size 5 1 v' zs.length (zs.map (Value.int .u8)) ∧ Below w.heap.size w w' := by
  have q22 : ∀ (w : World) (a : Option Addr) (n c : Nat), (binOp .eql 22 (.slice a n c) (.slice none 0 0)).run Try.prog w = .ok (.bool a.isNone) w := fun w a n c => Lib.run_eql_slice_nil w _ _ a n c 0 0 Try.underlying22
  have hmk := run_make_row' (P := Try.prog) 22 5 (.int .u8 0) 1 Try.underlying22 Try.info5 rfl .i64 .i64 zs.length (by omega) (by omega)
  rcases h with ⟨rfl, rfl⟩ | ⟨b, o, s, c, rfl, hb, hc⟩
  · go_enter Try.func9, Try.ntmps9
    go_wp2
    go_ret
    exact ⟨_, rfl, World.ownsRow_nil _ _ _ _, Below.refl _ _⟩
  · go_enter Try.func9, Try.ntmps9
    go_wp2
    go_loopw [4] (fun i wr => ∃ k : Nat, k ≤ zs.length ∧ i = .int .i64 k ∧ wr.rowIs w.heap.size 5 zs.length (fun j => if j < k then .int .u8 (zs.getD j 0) else .int .u8 0) ∧ Below w.heap.size w wr) (fun i _ => zs.length - (intOf i).toNat)
    case atStart =>
      exact ⟨0, Nat.zero_le _, rfl, (World.rowIs_made w (.int .u8 0) zs.length 5).congr (fun i hi => by simp), (Below.refl _ _).alloc (Nat.le_refl _) _⟩
    case round =>
      obtain ⟨k, hk, rfl, hrow, hbel⟩ := hrel
      by_cases hlt : k < zs.length
      · obtain ⟨rfl, hbw⟩ := hb (by omega)
        obtain ⟨z, hz⟩ : ∃ z, zs[k]? = some z := ⟨zs[k], by simp [hlt]⟩
        have hcell : wr.cell? ⟨b, o + k, none⟩ = some (.int .u8 z) := by rw [hbel.cell (p := ⟨b, o + k, none⟩) hbw]; exact hc k z hz
        have hfz := hrow.frozen k
        have HR : Hid ((wr.setCell ⟨w.heap.size, k, none⟩ (.int .u8 z)).rowIs w.heap.size 5 zs.length (fun j => if j < k + 1 then .int .u8 (zs.getD j 0) else .int .u8 0)) := by
          refine (hrow.set k (.int .u8 z)).congr (fun i hi => ?_)
          by_cases h1 : i = k
          · subst h1; simp [hz]
          · by_cases h2 : i < k
            · simp [h1, h2, show i < k + 1 by omega]
            · simp [h1, h2, show ¬ i < k + 1 by omega]
        have hc0 := hrow.cell hlt
        simp only [Nat.lt_irrefl, if_false] at hc0
        have HB : Hid (Below w.heap.size w (wr.setCell ⟨w.heap.size, k, none⟩ (.int .u8 z))) := hbel.setCell (Nat.le_refl _) _
        clear hrow hbel hc hz
        go_wp2
        go_roundw
        case rel => exact ⟨k + 1, by omega, by go_num, HR.out, HB.out⟩
        case measure => simp [intOf]; omega
      · go_wp2
        go_ret
        refine ⟨_, rfl, own_of_rowIs hrow (fun i z hz => ?_) (Nat.le_refl _) (by unfold maxLen; omega), hbel⟩
        have := lt_of_some hz
        rw [if_pos (by omega)]
        simp [hz]

theorem spaces_len (zs : List Int) (k : Nat) : (zs ++ List.replicate k 32).length = zs.length + k := by simp

/-- appendSpaces -/
theorem spaces27 (v : Value) (n : Int) (zs : List Int) (w : World) (B : Nat) (hB : B ≤ w.heap.size) (h : w.ownsRow B 5 1 v zs.length (zs.map (Value.int .u8))) (hz : zs.length ≤ 1048576) (hn : n ≤ 65536) :
    Calls Try.prog 27 #[v, .int .i64 n] w fun e w' => ∃ v', e = .returned v' ∧ w'.ownsRow B 5 1 v' (zs ++ List.replicate n.toNat 32).length ((zs ++ List.replicate n.toNat 32).map (Value.int .u8)) ∧ w.grownBy w' v.ownBlock := by
  obtain ⟨i0, hi, hz0, hz1, hz2⟩ := info_parts Try.info5
  go_enter Try.func27, Try.ntmps27
  go_wp2
  go_loopw [0, 6] (fun u i wr => ∃ k : Nat, k ≤ n.toNat ∧ i = .int .i64 k ∧ wr.ownsRow B 5 1 u (zs ++ List.replicate k 32).length ((zs ++ List.replicate k 32).map (Value.int .u8)) ∧ w.grownBy wr v.ownBlock ∧ (u.ownBlock = v.ownBlock ∨ ∀ q, u.ownBlock = some q → w.heap.size ≤ q)) (fun _ i _ => n.toNat - (intOf i).toNat)
  case atStart => exact ⟨0, Nat.zero_le _, rfl, by simpa using h, World.grownBy.refl _ _, .inl rfl⟩
  case round =>
    obtain ⟨k, hk, rfl, hown, hgr, hor⟩ := hrel
    by_cases hlt : (k : Int) < n
    · have hL := spaces_len zs k
      have hsz := hgr.size
      go_wp2_with (at_builtin; refine wpList_append_own2 _ rfl _ _ 22 rfl B 5 i0 (.int .u8 0) 1 1 Try.underlying22 hi hz0 hz1 hz2 rfl (by decide) _ _ _ rfl (hown.alloc _) ⟨wr.heap.size, 0, none⟩ 1 1 [.int .u8 32] (by decide) rfl rfl ?c1 ?c2 ?c3 ?c4 ?c5 ?_)
      case c1 =>
        intro j u hj
        match j, hj with
        | 0, hj => simp at hj; subst hj; simp [Addr.add]
      case c2 => intro u hu; simp at hu; subst hu; rfl
      case c3 => unfold maxLen; omega
      case c4 => omega
      case c5 => simp; omega
      · intro v' w1 hown' hgrow hwh
        have R1 : Hid (w1.ownsRow B 5 1 v' (zs ++ List.replicate (k + 1) 32).length ((zs ++ List.replicate (k + 1) 32).map (Value.int .u8))) := by
          rw [spaces_len, List.replicate_succ']
          simpa [Hid, Nat.add_assoc] using hown'
        have R2 : Hid (w.grownBy w1 v.ownBlock) := grownBy_trans (grownBy_trans hgr (World.grownBy_alloc wr (.cells #[.int .u8 32] 5) u0.ownBlock) hor) hgrow hor
        have R3 : Hid (v'.ownBlock = v.ownBlock ∨ ∀ q, v'.ownBlock = some q → w.heap.size ≤ q) := by
          rcases hwh with hw | hw
          · rw [hw]; exact hor
          · right
            intro q hq
            rw [hw] at hq
            simp at hq
            omega
        clear hown' hgrow hown hgr hor
        go_wp2
        go_roundw
        case rel => exact ⟨k + 1, by omega, by go_num, R1.out, R2.out, R3.out⟩
        case measure => simp [intOf]; omega
    · have hkn : k = n.toNat := by omega
      subst hkn
      go_wp2
      go_ret
      exact ⟨_, rfl, by simpa using hown, hgr⟩

theorem zz10 (v : Value) (n : Int) (zs : List Int) (w : World) (B : Nat) (hB : B ≤ w.heap.size) (h : w.ownsRow B 5 1 v zs.length (zs.map (Value.int .u8))) (hz : zs.length ≤ 1048576) (hn : n ≤ 65536) :
    Calls Try.prog 10 #[v, .int .i64 n] w fun e w' => ∃ v', e = .returned v' ∧ w'.ownsRow B 5 1 v' (zs ++ List.replicate n.toNat 32).length ((zs ++ List.replicate n.toNat 32).map (Value.int .u8)) ∧ w.grownBy w' v.ownBlock := by
  go_enter Try.func10, Try.ntmps10
  go_wp2_with fail
  refine (spaces27 v n zs _ B hB h hz hn).mono ?_
  rintro e w' ⟨v', rfl, h1, h2⟩
  go_wp2
  go_ret
  exact ⟨_, rfl, by simpa using h1, h2⟩

theorem law3 (v : Value) (zs : List Int) (n : Int) (w : World) (h : Sl (Value.int .u8) w w.heap.size v zs) (hm : zs.length ≤ maxLen) :
    Calls Try.prog 3 #[v, .int .i64 n] w fun e w' => e = .returned (.bool true) ∧ Below w.heap.size w w' := by
  obtain ⟨a, c, rfl⟩ := h.form
  have hm' := hm
  unfold maxLen at hm'
  by_cases hn : zs.length ≤ 1048576
  · have hd : decide (zs.length ≤ 1048576) = true := by simpa using hn
    by_cases hk : 65536 < n
    · go_enter Try.func3, Try.ntmps3
      go_wp2_with (go_at_call 8; refine (bytes8 _ _ _ _ _ hm).mono ?_; rintro e w' ⟨rfl, rfl⟩)
      go_ret
      exact ⟨rfl, Below.refl _ _⟩
    · go_enter Try.func3, Try.ntmps3
      go_wp2_with (go_at_call 8; refine (bytes8 _ _ _ _ _ hm).mono ?_; rintro e w' ⟨rfl, rfl⟩)
      refine (clone9 _ zs _ h hn).mono ?_
      rintro e w1 ⟨v1, rfl, o1, b1⟩
      go_wp2_with fail
      refine (clone9 _ zs _ (Sl.of_own o1) hn).mono ?_
      rintro e w2 ⟨v2, rfl, o2, b2⟩
      go_wp2_with fail
      have hb1 := b1.size
      have hb2 := b2.size
      refine (zz10 v1 n zs _ w.heap.size (by omega) (own_below o1 b2) hn (by omega)).mono ?_
      rintro e w3 ⟨v3, rfl, o3, g3⟩
      have s2 : Sl (Value.int .u8) w3 w2.heap.size v2 zs := (Sl.of_own o2).grown g3 (Nat.le_refl _) (fun k hk e => by
        have h1 := o1.lt k e.symm
        have h2 := o2.lt k hk
        omega)
      have s3 := Sl.of_own o3
      have hw23 := g3.size
      have bel : Below w.heap.size w w3 := (b1.trans (b2.mono hb1)).grown g3 (by omega) (fun k hk => (o1.lt k hk).1)
      clear o1 o2 o3 g3 b1 b2 h hb1 hb2
      obtain ⟨a2, c2, rfl⟩ := s2.form
      obtain ⟨L, hL⟩ : ∃ L, L = zs ++ List.replicate n.toNat 32 := ⟨_, rfl⟩
      rw [← hL] at s3
      obtain ⟨a3, c3, rfl⟩ := s3.form
      have hLn : L.length = zs.length + n.toNat := by rw [hL]; simp
      have HL : Hid (L = zs ++ List.replicate n.toNat 32) := hL
      have HLn : Hid (L.length = zs.length + n.toNat) := hLn
      have hLi : (zs.length : Int) ≤ L.length := by omega
      have hLj : (L.length : Int) ≤ 1114112 := by omega
      clear hL hLn
      have s2 := s2.mono hw23
      by_cases hneg : n < 0
      · have hbne : ((L.length : Int) != zs.length) = false := by have := HLn.out; simp; omega
        go_wp2
        go_loopw [8] (fun i wr => ∃ k : Nat, k ≤ zs.length ∧ i = .int .i64 k ∧ Below w3.heap.size w3 wr) (fun i _ => zs.length - (intOf i).toNat)
        case atStart => exact ⟨0, Nat.zero_le _, rfl, Below.refl _ _⟩
        case round =>
          obtain ⟨k, hk, rfl, hbel⟩ := hrel
          by_cases hlt : k < zs.length
          · obtain ⟨z, hz⟩ : ∃ z, zs[k]? = some z := ⟨zs[k], by simp [hlt]⟩
            have hz3 : L[k]? = some z := by rw [HL.out, List.getElem?_append_left hlt]; exact hz
            obtain ⟨bb2, o2, rfl, hb2, hc2⟩ := s2.place hz
            obtain ⟨bb3, o3, rfl, hb3, hc3⟩ := s3.place hz3
            have e2 : wr.cell? ⟨bb2, o2 + k, none⟩ = some (.int .u8 z) := by rw [hbel.cell (p := ⟨bb2, o2 + k, none⟩) hb2]; exact hc2 k z hz
            have e3 : wr.cell? ⟨bb3, o3 + k, none⟩ = some (.int .u8 z) := by rw [hbel.cell (p := ⟨bb3, o3 + k, none⟩) hb3]; exact hc3 k z hz3
            have hlt2 : (k : Int) < zs.length := by omega
            have hlt3 : (k : Int) < L.length := by omega
            clear hc2 hc3 hz hz3
            go_wp2
            go_quiet (fail)
            go_wp2
            go_roundw
            case rel => exact ⟨k + 1, by omega, by go_num, below_drewN hbel _⟩
            case measure => simp [intOf]; omega
          · go_wp2
            go_loop [9] (fun i => ∃ j : Nat, zs.length ≤ j ∧ j ≤ L.length ∧ i = .int .i64 j) (fun i => L.length - (intOf i).toNat)
            case atStart => exact ⟨zs.length, Nat.le_refl _, by omega, rfl⟩
            case round =>
              obtain ⟨j, hj, hjL, rfl⟩ := hrel
              by_cases hlt : j < L.length
              · have hz3 : L[j]? = some 32 := by
                  have hLn := HLn.out
                  rw [HL.out, List.getElem?_append_right hj, List.getElem?_replicate, if_pos (by omega)]
                obtain ⟨bb3, o3, rfl, hb3, hc3⟩ := s3.place hz3
                have e3 : wr.cell? ⟨bb3, o3 + j, none⟩ = some (.int .u8 32) := by rw [hbel.cell (p := ⟨bb3, o3 + j, none⟩) hb3]; exact hc3 j 32 hz3
                clear hc3 hz3
                go_wp2
                go_round
                case rel => exact ⟨j + 1, by omega, by omega, by go_num⟩
                case measure => simp [intOf]; omega
              · go_wp2
                go_ret
                exact ⟨rfl, bel.trans (hbel.mono bel.size)⟩
      · have hbne : ((L.length : Int) != zs.length + n) = false := by have := HLn.out; simp; omega
        go_wp2
        go_loopw [8] (fun i wr => ∃ k : Nat, k ≤ zs.length ∧ i = .int .i64 k ∧ Below w3.heap.size w3 wr) (fun i _ => zs.length - (intOf i).toNat)
        case atStart => exact ⟨0, Nat.zero_le _, rfl, Below.refl _ _⟩
        case round =>
          obtain ⟨k, hk, rfl, hbel⟩ := hrel
          by_cases hlt : k < zs.length
          · obtain ⟨z, hz⟩ : ∃ z, zs[k]? = some z := ⟨zs[k], by simp [hlt]⟩
            have hz3 : L[k]? = some z := by rw [HL.out, List.getElem?_append_left hlt]; exact hz
            obtain ⟨bb2, o2, rfl, hb2, hc2⟩ := s2.place hz
            obtain ⟨bb3, o3, rfl, hb3, hc3⟩ := s3.place hz3
            have e2 : wr.cell? ⟨bb2, o2 + k, none⟩ = some (.int .u8 z) := by rw [hbel.cell (p := ⟨bb2, o2 + k, none⟩) hb2]; exact hc2 k z hz
            have e3 : wr.cell? ⟨bb3, o3 + k, none⟩ = some (.int .u8 z) := by rw [hbel.cell (p := ⟨bb3, o3 + k, none⟩) hb3]; exact hc3 k z hz3
            have hlt2 : (k : Int) < zs.length := by omega
            have hlt3 : (k : Int) < L.length := by omega
            clear hc2 hc3 hz hz3
            go_wp2
            go_quiet (fail)
            go_wp2
            go_roundw
            case rel => exact ⟨k + 1, by omega, by go_num, below_drewN hbel _⟩
            case measure => simp [intOf]; omega
          · go_wp2
            go_loop [9] (fun i => ∃ j : Nat, zs.length ≤ j ∧ j ≤ L.length ∧ i = .int .i64 j) (fun i => L.length - (intOf i).toNat)
            case atStart => exact ⟨zs.length, Nat.le_refl _, by omega, rfl⟩
            case round =>
              obtain ⟨j, hj, hjL, rfl⟩ := hrel
              by_cases hlt : j < L.length
              · have hz3 : L[j]? = some 32 := by
                  have hLn := HLn.out
                  rw [HL.out, List.getElem?_append_right hj, List.getElem?_replicate, if_pos (by omega)]
                obtain ⟨bb3, o3, rfl, hb3, hc3⟩ := s3.place hz3
                have e3 : wr.cell? ⟨bb3, o3 + j, none⟩ = some (.int .u8 32) := by rw [hbel.cell (p := ⟨bb3, o3 + j, none⟩) hb3]; exact hc3 j 32 hz3
                clear hc3 hz3
                go_wp2
                go_round
                case rel => exact ⟨j + 1, by omega, by omega, by go_num⟩
                case measure => simp [intOf]; omega
              · go_wp2
                go_ret
                exact ⟨rfl, bel.trans (hbel.mono bel.size)⟩
  · have hd : decide (zs.length ≤ 1048576) = false := by simpa using hn
    go_enter Try.func3, Try.ntmps3
    go_wp2_with (go_at_call 8; refine (bytes8 _ _ _ _ _ hm).mono ?_; rintro e w' ⟨rfl, rfl⟩)
    go_ret
    exact ⟨rfl, Below.refl _ _⟩
end Go.Proofs.Qxb6000897a
