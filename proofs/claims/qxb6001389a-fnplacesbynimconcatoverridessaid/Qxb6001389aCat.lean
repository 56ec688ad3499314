import Derived.Test.Qxb6001389aPlaces
namespace Go.Proofs.Qxb6001389a
open Go.RowKit Go.Maps
set_option linter.unusedVariables false

def TrueSaid (w : World) (e : Ending) (w' : World) : Prop := e = .returned (.bool true) ∧ Below w.heap.size w w'

set_option maxHeartbeats 400000 in
/-- zzBytes: it answers; what it says is not asked. -/
theorem bytes15 (nv pv qv : Value) (ns : List ByteArray) (zs ys : List Int) (w : World) (B : Nat) (hn : Sl Value.string w B nv ns) (hp : Sl (Value.int .i64) w B pv zs) (hq : Sl (Value.int .i64) w B qv ys) (m1 : ns.length ≤ maxLen) (m2 : zs.length ≤ maxLen) (m3 : ys.length ≤ maxLen) :
    Calls Try.prog 15 #[nv, pv, qv] w (SaidB w) := by
  obtain ⟨a0, c0, rfl⟩ := hn.form
  obtain ⟨a1, c1, rfl⟩ := hp.form
  obtain ⟨a2, c2, rfl⟩ := hq.form
  unfold maxLen at m1 m2 m3
  go_enter Try.func15, Try.ntmps15
  go_wp2
  all_goals try (go_ret; exact ⟨_, rfl, rfl⟩)
  go_loop [7, 8] (fun z i => ∃ (y : Int) (k : Nat), k ≤ ns.length ∧ z = .int .i64 y ∧ i = .int .i64 k) (fun _ i => ns.length - (intOf i).toNat)
  case atStart => exact ⟨_, 0, Nat.zero_le _, rfl, rfl⟩
  case round =>
    obtain ⟨y, k, hk, rfl, rfl⟩ := hrel
    by_cases hlt : k < ns.length
    · obtain ⟨s, hs⟩ : ∃ s, ns[k]? = some s := ⟨ns[k], by simp [hlt]⟩
      obtain ⟨b, o, rfl, hb, hc⟩ := hn.place hs
      have hcell := hc k s hs
      clear hc hs hn hp hq
      go_wp2
      all_goals try (go_ret; exact ⟨_, rfl, rfl⟩)
      go_round
      case rel => exact ⟨_, k + 1, by omega, rfl, by go_num⟩
      case measure => simp [intOf]; omega
    · go_wp2
      all_goals (go_ret; exact ⟨_, rfl, rfl⟩)


theorem plainElem_bool_inv {v : Value} {x : Bool} {ps : List MemPlace} (h : plainElem (H := Unit) Try.prog 4 v = some (.lit (.bool x), ps)) : v = .bool x := by
  unfold plainElem at h
  rw [Try.underlying4] at h
  cases v <;> simp at h
  rw [h.1]

def boolE : Elem Try.prog 4 Bool where
  f := Value.bool
  g := Lit.bool
  z := false
  ok := fun _ => True
  h1 := fun x _ => plainElem_bool Try.underlying4 x
  h2 := fun v x ps h => plainElem_bool_inv h
  hz := trivial
  h0 := zero4

/-- The keys of q's first j entries that p does not name. -/
def fresh (lp lq : List (ByteArray × Int)) : ByteArray → Option Bool := fun s => if (fwd lp s).isSome then none else if (fwd lq s).isSome then some true else none

theorem fresh_start (lp : List (ByteArray × Int)) : fresh lp [] = fun _ => none := by
  funext s; simp [fresh, fwd]

theorem fresh_in {lp l : List (ByteArray × Int)} {s : ByteArray} {v : Int} (h : (fwd lp s).isSome = true) : fresh lp (l ++ [(s, v)]) = fresh lp l := by
  funext t
  simp only [fresh, fwd_snoc, upd]
  by_cases e : t = s
  · subst e; simp [h]
  · simp [e]

theorem fresh_seen {lp l : List (ByteArray × Int)} {s : ByteArray} {v : Int} (h : fresh lp l s = some true) : fresh lp (l ++ [(s, v)]) = fresh lp l := by
  funext t
  by_cases e : t = s
  · subst e
    rw [h]
    simp only [fresh] at h ⊢
    split at h
    · simp at h
    · rename_i h1; simp [h1, fwd_snoc, upd]
  · simp [fresh, fwd_snoc, upd, e]

theorem fresh_new {lp l : List (ByteArray × Int)} {s : ByteArray} {v : Int} (h : fwd lp s = none) : fresh lp (l ++ [(s, v)]) = upd (fresh lp l) s true := by
  funext t
  by_cases e : t = s
  · subst e; simp [fresh, fwd_snoc, upd, h]
  · simp [fresh, fwd_snoc, upd, e]

theorem fresh_none {lp l : List (ByteArray × Int)} {s : ByteArray} : fresh lp l s = none ∨ fresh lp l s = some true := by
  unfold fresh; split
  · exact .inl rfl
  · split
    · exact .inr rfl
    · exact .inl rfl

theorem Card.union {α β γ : Type} {M : ByteArray → Option α} {N : ByteArray → Option β} {U : ByteArray → Option γ} {c d : Nat} (h1 : Card M c) (h2 : Card N d) (hd : ∀ s, (M s).isSome = true → (N s).isSome = false) (hu : ∀ s, (U s).isSome = ((M s).isSome || (N s).isSome)) : Card U (c + d) := by
  obtain ⟨k1, n1, m1, l1⟩ := h1
  obtain ⟨k2, n2, m2, l2⟩ := h2
  refine ⟨k1 ++ k2, List.nodup_append.2 ⟨n1, n2, fun a ha b hb e => ?_⟩, fun s => ?_, by simp [l1, l2]⟩
  · subst e
    have := hd a ((m1 a).1 ha)
    rw [(m2 a).1 hb] at this
    simp at this
  · rw [List.mem_append, m1, m2, hu]
    simp

theorem card_cat {lp lq : List (ByteArray × Int)} {c d : Nat} (h1 : Card (fwd lp) c) (h2 : Card (fresh lp lq) d) : Card (fwd (lp ++ lq)) (c + d) := by
  refine h1.union h2 (fun s hs => by simp [fresh, hs]) (fun s => ?_)
  rw [fwd_append]
  cases hq : fwd lq s with
  | some v => cases hp : fwd lp s <;> simp [fresh, hp, hq]
  | none => cases hp : fwd lp s <;> simp [fresh, hp, hq]

theorem pairs_append (ns : List ByteArray) (a b : List Nat) : pairs ns (a ++ b) = pairs ns a ++ pairs ns b := by simp [pairs]

theorem own_form {w : World} {base : Nat} {e : TypeId} {size : Nat} {v : Value} {n : Nat} {xs : List Value} (h : w.ownsRow base e size v n xs) : ∃ ao cp, v = .slice ao n cp := by
  rcases h.2 with ⟨rfl, rfl⟩ | ⟨g, cap, cur, rfl, _⟩
  · exact ⟨none, 0, rfl⟩
  · exact ⟨_, _, rfl⟩

theorem toNat_lt {zs : List Int} {n : Nat} (h : ∀ (i : Nat) z, zs[i]? = some z → 0 ≤ z ∧ z < n) : ∀ (i m : Nat), (zs.map Int.toNat)[i]? = some m → m < n := by
  intro i m hm
  rw [List.getElem?_map] at hm
  cases hzi : zs[i]? with
  | none => rw [hzi] at hm; simp at hm
  | some z =>
    rw [hzi] at hm
    simp at hm
    have := h i z hzi
    omega

set_option maxRecDepth 100000 in
set_option maxHeartbeats 8000000 in
theorem law5 (nv pv qv : Value) (ns : List ByteArray) (zs ys : List Int) (w : World) (hn : Sl Value.string w w.heap.size nv ns) (hp : Sl (Value.int .i64) w w.heap.size pv zs) (hq : Sl (Value.int .i64) w w.heap.size qv ys)
    (m1 : ns.length ≤ maxLen) (m2 : zs.length ≤ maxLen) (m3 : ys.length ≤ maxLen) (hsz : ∀ (i : Nat) s, ns[i]? = some s → s.size ≤ maxLen) :
    Calls Try.prog 5 #[nv, pv, qv] w (TrueSaid w) := by
  obtain ⟨a0, c0, rfl⟩ := hn.form
  obtain ⟨a1, c1, rfl⟩ := hp.form
  obtain ⟨a2, c2, rfl⟩ := hq.form
  have m1' := m1
  have m2' := m2
  have m3' := m3
  unfold maxLen at m1' m2' m3'
  have HSZ : Hid (∀ (i : Nat) s, ns[i]? = some s → s.size ≤ maxLen) := hsz
  clear hsz
  go_enter Try.func5, Try.ntmps5
  go_wp2_with fail
  refine (bytes15 _ _ _ ns zs ys _ _ hn hp hq m1 m2 m3).mono ?_
  rintro e w' ⟨b, rfl, rfl⟩
  cases b with
  | false => go_wp2; go_ret; exact ⟨rfl, Below.refl _ _⟩
  | true =>
  by_cases l1 : ns.length ≤ 65536
  case neg => go_wp2; go_ret; exact ⟨rfl, Below.refl _ _⟩
  by_cases l2 : zs.length ≤ 65536
  case neg => go_wp2; go_ret; exact ⟨rfl, Below.refl _ _⟩
  by_cases l3 : ys.length ≤ 65536
  case neg => go_wp2; go_ret; exact ⟨rfl, Below.refl _ _⟩
  go_wp2_with fail
  refine (size7 _ ns _ _ _ hn m1).mono ?_
  rintro e w' ⟨b, rfl, rfl⟩
  cases b with
  | false => go_wp2; go_ret; exact ⟨rfl, Below.refl _ _⟩
  | true =>
  go_wp2_with fail
  refine (idx8 _ zs ns.length _ _ hp m2).mono ?_
  rintro e w' ⟨b, rfl, rfl, h8⟩
  cases b with
  | false => go_wp2; go_ret; exact ⟨rfl, Below.refl _ _⟩
  | true =>
  have h8' := h8 rfl
  have HP : Hid (∀ (i : Nat) z, zs[i]? = some z → 0 ≤ z) := fun i z hz => (h8' i z hz).1
  have HL : Hid (∀ (i m : Nat), (zs.map Int.toNat)[i]? = some m → m < ns.length) := toNat_lt h8'
  clear h8 h8'
  go_wp2_with fail
  refine (idx8 _ ys ns.length _ _ hq m3).mono ?_
  rintro e w' ⟨b, rfl, rfl, h8⟩
  cases b with
  | false => go_wp2; go_ret; exact ⟨rfl, Below.refl _ _⟩
  | true =>
  have h8' := h8 rfl
  have HP2 : Hid (∀ (i : Nat) z, ys[i]? = some z → 0 ≤ z) := fun i z hz => (h8' i z hz).1
  have HL2 : Hid (∀ (i m : Nat), (ys.map Int.toNat)[i]? = some m → m < ns.length) := toNat_lt h8'
  clear h8 h8'
  go_wp2_with fail
  refine (unf9 _ _ ns (zs.map Int.toNat) _ _ _ hn (sl_nat hp HP.out) m1 (by rw [List.length_map]; exact m2) HL.out).mono ?_
  rintro e w' ⟨z, rfl, rfl⟩
  go_wp2_with fail
  refine (unf9 _ _ ns (ys.map Int.toNat) _ _ _ hn (sl_nat hq HP2.out) m1 (by rw [List.length_map]; exact m3) HL2.out).mono ?_
  rintro e w' ⟨z2, rfl, rfl⟩
  by_cases hz : 1048576 < wrap64 (z + z2)
  · go_wp2; go_ret; exact ⟨rfl, Below.refl _ _⟩
  go_wp2_with fail
  refine (clone10 _ ns _ hn (by omega)).mono ?_
  rintro e w1 ⟨v1, rfl, o1, b1⟩
  have z1 := b1.size
  go_wp2_with fail
  refine (clone11 _ zs _ ((hp.below b1).mono z1) (by omega)).mono ?_
  rintro e w2 ⟨v2, rfl, o2, b2⟩
  have zz2 := b2.size
  go_wp2_with fail
  refine (clone11 _ ys _ ((hq.below (b1.trans (b2.mono z1))).mono (by omega)) (by omega)).mono ?_
  rintro e w3 ⟨v3, rfl, o3, b3⟩
  have z3 := b3.size
  have s1 : Sl Value.string w3 w3.heap.size v1 ns := ((Sl.of_own o1).below (b2.trans (b3.mono zz2))).mono (by omega)
  have s2 : Sl nat64 w3 w3.heap.size v2 (zs.map Int.toNat) := ((sl_nat (Sl.of_own o2) HP.out).below b3).mono z3
  have s3 : Sl nat64 w3 w3.heap.size v3 (ys.map Int.toNat) := sl_nat (Sl.of_own o3) HP2.out
  have b30 : Below w.heap.size w w3 := b1.trans ((b2.mono z1).trans (b3.mono (by omega)))
  have l2' : (zs.map Int.toNat).length ≤ 65536 := by simpa using l2
  have l3' : (ys.map Int.toNat).length ≤ 65536 := by simpa using l3
  obtain ⟨ps, hps⟩ : ∃ ms, zs.map Int.toNat = ms := ⟨_, rfl⟩
  obtain ⟨qs, hqs⟩ : ∃ ms, ys.map Int.toNat = ms := ⟨_, rfl⟩
  rw [hps] at s2 HL l2'
  rw [hqs] at s3 HL2 l3'
  clear o1 o2 o3 b1 b2 b3 hn hp hq hps hqs HP HP2 z1 zz2 z3
  go_wp2_with fail
  refine (roll12 _ ns _ s1 (by omega)).mono ?_
  rintro e w4 ⟨v4, rfl, r4, b4⟩
  have z4 := b4.size
  have t1 := (s1.below b4).mono z4
  have t2 := (s2.below b4).mono z4
  have t3 := (s3.below b4).mono z4
  have b40 : Below w.heap.size w w4 := b30.trans (b4.mono b30.size)
  clear s1 s2 s3 b30 b4 z4
  obtain ⟨d1, f1, rfl⟩ := t1.form
  obtain ⟨d2, f2, rfl⟩ := t2.form
  obtain ⟨d3, f3, rfl⟩ := t3.form
  obtain ⟨i0, hi, hz0, hz1, hz2⟩ := info_parts Try.info3
  have hmk : ∀ w : World, (Instr.makeSlice 23 (.int .i64 0) (.int .i64 ((ps.length : Int) + (qs.length : Int)))).run Try.prog w = .ok (.slice (some ⟨w.heap.size, 0, none⟩) 0 (ps.length + qs.length)) (w.alloc (.cells (madeCells #[.int .i64 0] (ps.length + qs.length)) 3)) := by
    intro w
    have := run_make (P := Try.prog) w 23 3 i0 _ Try.underlying23 hi hz0 .i64 .i64 0 ((ps.length + qs.length : Nat) : Int) (by omega) (by omega) (by rw [hz2]; omega) (by omega)
    rw [hz1] at this
    simp only [Int.toNat_natCast, Int.toNat_zero, Nat.mul_one] at this
    rw [show ((ps.length : Int) + (qs.length : Int)) = ((ps.length + qs.length : Nat) : Int) by omega]
    exact this
  go_wp2
  clear hmk
  go_loopw [8, 9] (fun u i wr => ∃ k : Nat, k ≤ ps.length ∧ i = .int .i64 k ∧ wr.ownsRow w4.heap.size 3 1 u k ((ps.take k).map nat64) ∧ Below w4.heap.size w4 wr) (fun _ i _ => ps.length - (intOf i).toNat)
  case atStart => exact ⟨0, Nat.zero_le _, rfl, World.ownsRow_made w4 _ _ (Nat.le_refl _) (by unfold maxLen; omega) (by rw [size_madeCells]; omega), (Below.refl _ _).alloc (Nat.le_refl _) _⟩
  case round =>
    obtain ⟨k, hk, rfl, hown, hbel⟩ := hrel
    by_cases hkl : k < ps.length
    · obtain ⟨m, hm⟩ : ∃ s, ps[k]? = some s := ⟨ps[k], by simp [hkl]⟩
      obtain ⟨bb2, oo2, rfl, hb2, hc2⟩ := t2.place hm
      have x2 : wr.cell? ⟨bb2, oo2 + k, none⟩ = some (.int .i64 (m : Int)) := by rw [hbel.cell (p := ⟨bb2, oo2 + k, none⟩) hb2]; exact hc2 k m hm
      have hkli : (k : Int) < ps.length := by omega
      have HT : Hid (ps.take (k + 1) = ps.take k ++ [m]) := take_step hm
      have hbs := hbel.size
      obtain ⟨X, hX⟩ : ∃ X, (ps.take k).map nat64 = X := ⟨_, rfl⟩
      have HX : Hid ((ps.take k).map nat64 = X) := hX
      rw [hX] at hown
      clear hm hc2 hX
      go_wp2_with (at_builtin; refine wpList_append_own _ rfl _ _ 23 rfl w4.heap.size 3 i0 (.int .i64 0) 1 8 Try.underlying23 hi hz0 hz1 hz2 rfl (by decide) _ _ _ rfl (hown.alloc _) ⟨wr.heap.size, 0, none⟩ 1 1 [.int .i64 (m : Int)] rfl rfl ?c1 ?c2 ?c3 ?c4 ?c5 ?_)
      case c1 =>
        intro j u hj
        match j, hj with
        | 0, hj => simp at hj; subst hj; simp [Addr.add]
      case c2 => intro u hu; simp at hu; subst hu; rfl
      case c3 => unfold maxLen; omega
      case c4 => omega
      case c5 => simp; omega
      · intro v' w5 hown' hgrow _
        have R1 : Hid (w5.ownsRow w4.heap.size 3 1 v' (k + 1) ((ps.take (k + 1)).map nat64)) := by
          rw [HT.out, List.map_append, HX.out]; exact hown'
        have R2 : Hid (Below w4.heap.size w4 w5) := (hbel.alloc hbs _).grown hgrow (by rw [Deep.nblk_alloc]; omega) (fun q hq => (hown.lt q hq).1)
        clear hown' hgrow hown HT HX hbel
        go_wp2
        go_roundw
        case rel => exact ⟨k + 1, by omega, by go_num, R1.out, R2.out⟩
        case measure => simp [intOf]; omega
    · obtain rfl : k = ps.length := by omega
      rw [List.take_length] at hown
      obtain ⟨w5, rfl⟩ : ∃ x, x = wr := ⟨wr, rfl⟩
      have HO5 : Hid (w5.ownsRow w4.heap.size 3 1 u8 ps.length (ps.map nat64)) := hown
      have HB5 : Hid (Below w4.heap.size w4 w5) := hbel
      clear hown hbel
      go_wp2
      go_loopw [8, 10] (fun u i wr => ∃ k : Nat, k ≤ qs.length ∧ i = .int .i64 k ∧ wr.ownsRow w4.heap.size 3 1 u (ps.length + k) ((ps ++ qs.take k).map nat64) ∧ Below w4.heap.size w4 wr) (fun _ i _ => qs.length - (intOf i).toNat)
      case atStart => exact ⟨0, Nat.zero_le _, rfl, by simpa using HO5.out, HB5.out⟩
      case round =>
        clear HO5 HB5
        obtain ⟨k, hk, rfl, hown, hbel⟩ := hrel
        by_cases hkl : k < qs.length
        · obtain ⟨m, hm⟩ : ∃ s, qs[k]? = some s := ⟨qs[k], by simp [hkl]⟩
          obtain ⟨bb2, oo2, rfl, hb2, hc2⟩ := t3.place hm
          have x2 : wr.cell? ⟨bb2, oo2 + k, none⟩ = some (.int .i64 (m : Int)) := by rw [hbel.cell (p := ⟨bb2, oo2 + k, none⟩) hb2]; exact hc2 k m hm
          have hkli : (k : Int) < qs.length := by omega
          have HT : Hid (qs.take (k + 1) = qs.take k ++ [m]) := take_step hm
          have hbs := hbel.size
          obtain ⟨X, hX⟩ : ∃ X, (ps ++ qs.take k).map nat64 = X := ⟨_, rfl⟩
          have HX : Hid ((ps ++ qs.take k).map nat64 = X) := hX
          rw [hX] at hown
          clear hm hc2 hX
          go_wp2_with (at_builtin; refine wpList_append_own _ rfl _ _ 23 rfl w4.heap.size 3 i0 (.int .i64 0) 1 8 Try.underlying23 hi hz0 hz1 hz2 rfl (by decide) _ _ _ rfl (hown.alloc _) ⟨wr.heap.size, 0, none⟩ 1 1 [.int .i64 (m : Int)] rfl rfl ?e1 ?e2 ?e3 ?e4 ?e5 ?_)
          case e1 =>
            intro j u hj
            match j, hj with
            | 0, hj => simp at hj; subst hj; simp [Addr.add]
          case e2 => intro u hu; simp at hu; subst hu; rfl
          case e3 => unfold maxLen; omega
          case e4 => omega
          case e5 => simp; omega
          · intro v' w6 hown' hgrow _
            have R1 : Hid (w6.ownsRow w4.heap.size 3 1 v' (ps.length + (k + 1)) ((ps ++ qs.take (k + 1)).map nat64)) := by
              rw [HT.out, ← List.append_assoc, List.map_append, HX.out, ← Nat.add_assoc]; exact hown'
            have R2 : Hid (Below w4.heap.size w4 w6) := (hbel.alloc hbs _).grown hgrow (by rw [Deep.nblk_alloc]; omega) (fun q hq => (hown.lt q hq).1)
            clear hown' hgrow hown HT HX hbel
            go_wp2
            go_roundw
            case rel => exact ⟨k + 1, by omega, by go_num, R1.out, R2.out⟩
            case measure => simp [intOf]; omega
        · obtain rfl : k = qs.length := by omega
          rw [List.take_length] at hown
          obtain ⟨w6, rfl⟩ : ∃ x, x = wr := ⟨wr, rfl⟩
          have hpl : (ps ++ qs).length = ps.length + qs.length := List.length_append
          rw [← hpl] at hown
          have y4 := Sl.of_own hown
          obtain ⟨pqs, hpqs⟩ : ∃ x, ps ++ qs = x := ⟨_, rfl⟩
          rw [hpqs] at y4 hown hpl
          have HPQ : Hid (ps ++ qs = pqs) := hpqs
          have hpl1 : pqs.length ≤ 131072 := by omega
          clear hpqs hpl
          obtain ⟨d4, f4, hv⟩ := y4.form
          subst hv
          have z6 := hbel.size
          have y1 := (t1.below hbel).mono z6
          have y2 := (t2.below hbel).mono z6
          have y3 := (t3.below hbel).mono z6
          have r6 := (r4.below hbel).mono z6
          have b60 : Below w.heap.size w w6 := b40.trans (hbel.mono b40.size)
          clear t1 t2 t3 r4 b40 hbel hown z6
          have HL3 : Hid (∀ (i m : Nat), pqs[i]? = some m → m < ns.length) := by
            intro i m hm
            rcases List.mem_append.1 (HPQ.out ▸ List.mem_of_getElem? hm) with h | h
            · obtain ⟨j, hj⟩ := List.getElem?_of_mem h
              exact HL.out j m hj
            · obtain ⟨j, hj⟩ := List.getElem?_of_mem h
              exact HL2.out j m hj
          go_wp2_with fail
          refine (zz13 _ _ ns ps _ r6 y2 (by omega) (by omega) HL.out HSZ.out).mono ?_
          rintro e w7 ⟨bp, cp, rfl, hP, hbp, b7⟩
          have z7 := b7.size
          go_wp2_with fail
          refine (zz13 _ _ ns qs _ ((r6.below b7).mono z7) ((y3.below b7).mono z7) (by omega) (by omega) HL2.out HSZ.out).mono ?_
          rintro e w8 ⟨bq, cq, rfl, hQ, hbq, b8⟩
          have z8 := b8.size
          have b68 : Below w6.heap.size w6 w8 := b7.trans (b8.mono z7)
          go_wp2_with fail
          refine (zz13 _ _ ns pqs _ ((r6.below b68).mono (by omega)) ((y4.below b68).mono (by omega)) (by omega) (by omega) HL3.out HSZ.out).mono ?_
          rintro e w9 ⟨bt, ct, rfl, hT, hbt, b9⟩
          have z9 := b9.size
          rw [← HPQ.out, pairs_append, HPQ.out] at hT
          have b69 : Below w6.heap.size w6 w9 := b68.trans (b9.mono (by omega))
          have x1 := (y1.below b69).mono (show w6.heap.size ≤ w9.heap.size by omega)
          have x2 := (y2.below b69).mono (show w6.heap.size ≤ w9.heap.size by omega)
          have x3 := (y3.below b69).mono (show w6.heap.size ≤ w9.heap.size by omega)
          have HQ : Hid (MapIs intE 9 w9 bq qs.length (fwd (pairs ns qs)) cq) := hQ.below b9 hQ.lt
          have HPm : Hid (MapIs intE 9 w9 bp ps.length (fwd (pairs ns ps)) cp) := (hP.below b8 hP.lt).below b9 (by have := hP.lt; omega)
          have HTm : Hid (MapIs intE 9 w9 bt pqs.length (fwd (pairs ns ps ++ pairs ns qs)) ct) := hT
          have b90 : Below w.heap.size w w9 := b60.trans (b69.mono b60.size)
          clear y1 y2 y3 y4 r6 b60 hP hQ hT b7 b8 b9 b68 b69 HL3 z7 z8 z9
          go_wp2
          go_loop [14] (fun i => ∃ j : Nat, j ≤ qs.length ∧ i = .int .i64 j) (fun i => qs.length - (intOf i).toNat)
          case atStart => exact ⟨0, Nat.zero_le _, rfl⟩
          case round =>
            obtain ⟨j, hj, rfl⟩ := hrel
            by_cases hjl : j < qs.length
            · obtain ⟨m, hm⟩ : ∃ s, qs[j]? = some s := ⟨qs[j], by simp [hjl]⟩
              have hml := HL2.out j m hm
              obtain ⟨s, hs⟩ : ∃ s, ns[m]? = some s := ⟨ns[m], by simp [hml]⟩
              obtain ⟨bb1, oo1, rfl, hb1, hc1⟩ := x1.place hs
              obtain ⟨bb2, oo2, rfl, hb2, hc2⟩ := x3.place hm
              have e1 := hc1 m s hs
              have e2 : w9.cell? ⟨bb2, oo2 + j, none⟩ = some (.int .i64 (m : Int)) := hc2 j m hm
              have hss := HSZ.out m s hs
              have hmli : (m : Int) < ns.length := by omega
              have hjli : (j : Int) < qs.length := by omega
              obtain ⟨y, hy⟩ := fwd_some (pairs_mem hm hs)
              have HY : Hid (fwd (pairs ns qs) s = some y) := hy
              have HY2 : Hid (fwd (pairs ns ps ++ pairs ns qs) s = some y) := by rw [fwd_append, hy]; rfl
              clear hc1 hc2 hm hs hy
              go_wp2_with (first | (at_lookup; refine wpList_map_look_ok _ rfl (.tmp 143) (.tmp 144) 32 rfl HTm.out law9 Try.underlying9 Try.underlying32 s hss rfl rfl (some y) HY2.out (.int .i64 y) rfl ?_) | (at_lookup; refine wpList_map_look_ok _ rfl (.tmp 149) (.tmp 150) 32 rfl HQ.out law9 Try.underlying9 Try.underlying32 s hss rfl rfl (some y) HY.out (.int .i64 y) rfl ?_))
              go_round
              case rel => exact ⟨j + 1, by omega, by go_num⟩
              case measure => simp [intOf]; omega
            · have hmm := run_makeMap_some (P := Try.prog) Try.underlying36 (qs.length : Int)
              go_wp2
              clear hmm hjl hj
              go_loopw [20, 22] (fun f i wr => ∃ (k c : Nat), k ≤ qs.length ∧ i = .int .i64 k ∧ c ≤ k ∧ f = .int .i64 c ∧ w9.heap.size < wr.heap.size ∧ MapIs boolE 9 wr w9.heap.size k (fresh (pairs ns ps) ((pairs ns qs).take k)) c ∧ Below w9.heap.size w9 wr) (fun _ i _ => qs.length - (intOf i).toNat)
              case atStart => exact ⟨0, 0, Nat.zero_le _, rfl, Nat.le_refl _, rfl, by simp, (MapIs.made w9).congr (fresh_start _).symm, (Below.refl _ _).alloc (Nat.le_refl _) _⟩
              case round =>
                obtain ⟨k, c, hk, rfl, hck, rfl, hsw, hmap, hbel⟩ := hrel
                have hP' : MapIs intE 9 wr bp ps.length (fwd (pairs ns ps)) cp := HPm.out.below hbel HPm.out.lt
                by_cases hkl : k < qs.length
                · obtain ⟨m, hm⟩ : ∃ s, qs[k]? = some s := ⟨qs[k], by simp [hkl]⟩
                  have hml := HL2.out k m hm
                  obtain ⟨s, hs⟩ : ∃ s, ns[m]? = some s := ⟨ns[m], by simp [hml]⟩
                  obtain ⟨bb1, oo1, rfl, hb1, hc1⟩ := x1.place hs
                  obtain ⟨bb2, oo2, rfl, hb2, hc2⟩ := x3.place hm
                  have e1 : wr.cell? ⟨bb1, oo1 + m, none⟩ = some (.string s) := by rw [hbel.cell (p := ⟨bb1, oo1 + m, none⟩) hb1]; exact hc1 m s hs
                  have e2 : wr.cell? ⟨bb2, oo2 + k, none⟩ = some (.int .i64 (m : Int)) := by rw [hbel.cell (p := ⟨bb2, oo2 + k, none⟩) hb2]; exact hc2 k m hm
                  have hss := HSZ.out m s hs
                  have hmli : (m : Int) < ns.length := by omega
                  have hkli : (k : Int) < qs.length := by omega
                  have HT : Hid ((pairs ns qs).take (k + 1) = (pairs ns qs).take k ++ [(s, (m : Int))]) := take_step (pairs_get hm hs)
                  have HM : Hid (MapIs boolE 9 wr w9.heap.size k (fresh (pairs ns ps) ((pairs ns qs).take k)) c) := hmap
                  have HP2 : Hid (MapIs intE 9 wr bp ps.length (fwd (pairs ns ps)) cp) := hP'
                  clear hc1 hc2 hm hs hmap hP'
                  cases hy : fwd (pairs ns ps) s with
                  | some y =>
                    have HY : Hid (fwd (pairs ns ps) s = some y) := hy
                    have R1 : Hid (MapIs boolE 9 wr w9.heap.size (k + 1) (fresh (pairs ns ps) ((pairs ns qs).take (k + 1))) c) := by
                      rw [HT.out, fresh_in (by rw [hy]; rfl)]
                      exact HM.out.more
                    clear hy
                    go_wp2_with (at_lookup; refine wpList_map_look_ok _ rfl _ _ 32 rfl HP2.out law9 Try.underlying9 Try.underlying32 s hss rfl rfl (some y) HY.out (.int .i64 y) rfl ?_)
                    go_roundw
                    case rel => exact ⟨k + 1, c, by omega, by go_num, by omega, rfl, hsw, R1.out, hbel⟩
                    case measure => simp [intOf]; omega
                  | none =>
                    have HY : Hid (fwd (pairs ns ps) s = none) := hy
                    rcases fresh_none (lp := pairs ns ps) (l := (pairs ns qs).take k) (s := s) with hf | hf
                    · have hlook : (Instr.lookup 36 (.map (some w9.heap.size)) (.string s) false).run Try.prog wr = .ok (.bool false) wr := by
                        have := (HM.out.look law9 Try.underlying9 Try.underlying36 hss).2
                        rw [hf] at this
                        exact this
                      have HF : Hid (fresh (pairs ns ps) ((pairs ns qs).take (k + 1)) = upd (fresh (pairs ns ps) ((pairs ns qs).take k)) s true) := by rw [HT.out]; exact fresh_new hy
                      have HFN : Hid (fresh (pairs ns ps) ((pairs ns qs).take k) s = none) := hf
                      clear hy hf
                      go_wp2_with (first | (at_lookup; refine wpList_map_look_ok _ rfl (.tmp 182) (.tmp 183) 32 rfl HP2.out law9 Try.underlying9 Try.underlying32 s hss rfl rfl none HY.out (.int .i64 0) rfl ?_) | (at_mapUpdate; refine wpList_map_put _ rfl _ _ _ 36 rfl HM.out law9 Try.underlying9 Try.underlying36 ?n1 s hss true ?n2 rfl rfl rfl ?_))
                      case n1 => unfold maxLen; omega
                      case n2 => exact trivial
                      · intro wx c' hmap1 hcc hgrow
                        have hcc' := hcc.out
                        unfold cnt at hcc'
                        rw [HFN.out] at hcc'
                        simp only [Option.isSome_none, Bool.false_eq_true, if_false] at hcc'
                        subst hcc'
                        have R1 : Hid (MapIs boolE 9 wx w9.heap.size (k + 1) (fresh (pairs ns ps) ((pairs ns qs).take (k + 1))) (c + 1)) := by rw [HF.out]; exact hmap1
                        have R2 : Hid (Below w9.heap.size w9 wx) := hbel.grown hgrow (by omega) (fun q hq => by cases hq; exact Nat.le_refl _)
                        have R3 : Hid (w9.heap.size < wx.heap.size) := Nat.lt_of_lt_of_le hsw hgrow.size
                        clear hmap1 hgrow HM HF hcc hbel hlook
                        go_wp2
                        go_roundw
                        case rel => exact ⟨k + 1, c + 1, by omega, by go_num, by omega, by go_num, R3.out, R1.out, R2.out⟩
                        case measure => simp [intOf]; omega
                    · have hlook : (Instr.lookup 36 (.map (some w9.heap.size)) (.string s) false).run Try.prog wr = .ok (.bool true) wr := by
                        have := (HM.out.look law9 Try.underlying9 Try.underlying36 hss).2
                        rw [hf] at this
                        exact this
                      have R1 : Hid (MapIs boolE 9 wr w9.heap.size (k + 1) (fresh (pairs ns ps) ((pairs ns qs).take (k + 1))) c) := by
                        rw [HT.out, fresh_seen hf]
                        exact HM.out.more
                      clear hy hf
                      go_wp2_with (at_lookup; refine wpList_map_look_ok _ rfl (.tmp 182) (.tmp 183) 32 rfl HP2.out law9 Try.underlying9 Try.underlying32 s hss rfl rfl none HY.out (.int .i64 0) rfl ?_)
                      go_roundw
                      case rel => exact ⟨k + 1, c, by omega, by go_num, by omega, rfl, hsw, R1.out, hbel⟩
                      case measure => simp [intOf]; omega
                · obtain rfl : k = qs.length := by omega
                  have e0 : (pairs ns qs).take qs.length = pairs ns qs := by rw [← pairs_len ns qs]; exact List.take_length
                  rw [e0] at hmap
                  clear e0
                  obtain ⟨wa, rfl⟩ : ∃ x, x = wr := ⟨wr, rfl⟩
                  have hQ' : MapIs intE 9 wa bq qs.length (fwd (pairs ns qs)) cq := HQ.out.below hbel HQ.out.lt
                  have hT' : MapIs intE 9 wa bt pqs.length (fwd (pairs ns ps ++ pairs ns qs)) ct := HTm.out.below hbel HTm.out.lt
                  have hct : ct = cp + c := hT'.card.unique (card_cat hP'.card hmap.card) (fun _ => rfl)
                  have HP2 : Hid (MapIs intE 9 wa bp ps.length (fwd (pairs ns ps)) cp) := hP'
                  have HQ2 : Hid (MapIs intE 9 wa bq qs.length (fwd (pairs ns qs)) cq) := hQ'
                  have HT2 : Hid (MapIs intE 9 wa bt pqs.length (fwd (pairs ns ps ++ pairs ns qs)) ct) := hT'
                  have HCT : Hid (ct = cp + c) := hct
                  have hcpl : cp ≤ ps.length := hP'.card_le
                  clear hP' hQ' hT' hct hmap HQ HTm HPm
                  go_wp2
                  go_loop [26] (fun i => ∃ j : Nat, j ≤ ps.length ∧ i = .int .i64 j) (fun i => ps.length - (intOf i).toNat)
                  case atStart => exact ⟨0, Nat.zero_le _, rfl⟩
                  case round =>
                    obtain ⟨j, hj, rfl⟩ := hrel
                    by_cases hjl : j < ps.length
                    · obtain ⟨m, hm⟩ : ∃ s, ps[j]? = some s := ⟨ps[j], by simp [hjl]⟩
                      have hml := HL.out j m hm
                      obtain ⟨s, hs⟩ : ∃ s, ns[m]? = some s := ⟨ns[m], by simp [hml]⟩
                      obtain ⟨bb1, oo1, rfl, hb1, hc1⟩ := x1.place hs
                      obtain ⟨bb2, oo2, rfl, hb2, hc2⟩ := x2.place hm
                      have e1 : wa.cell? ⟨bb1, oo1 + m, none⟩ = some (.string s) := by rw [hbel.cell (p := ⟨bb1, oo1 + m, none⟩) hb1]; exact hc1 m s hs
                      have e2 : wa.cell? ⟨bb2, oo2 + j, none⟩ = some (.int .i64 (m : Int)) := by rw [hbel.cell (p := ⟨bb2, oo2 + j, none⟩) hb2]; exact hc2 j m hm
                      have hss := HSZ.out m s hs
                      have hmli : (m : Int) < ns.length := by omega
                      have hjli : (j : Int) < ps.length := by omega
                      obtain ⟨y, hy⟩ := fwd_some (pairs_mem hm hs)
                      have HY : Hid (fwd (pairs ns ps) s = some y) := hy
                      clear hc1 hc2 hm hs
                      cases hyq : fwd (pairs ns qs) s with
                      | some yq =>
                        have HYQ : Hid (fwd (pairs ns qs) s = some yq) := hyq
                        clear hyq hy
                        go_wp2_with (at_lookup; refine wpList_map_look_ok _ rfl (.tmp 213) (.tmp 214) 32 rfl HQ2.out law9 Try.underlying9 Try.underlying32 s hss rfl rfl (some yq) HYQ.out (.int .i64 yq) rfl ?_)
                        go_round
                        case rel => exact ⟨j + 1, by omega, by go_num⟩
                        case measure => simp [intOf]; omega
                      | none =>
                        have HYQ : Hid (fwd (pairs ns qs) s = none) := hyq
                        have HYT : Hid (fwd (pairs ns ps ++ pairs ns qs) s = some y) := by rw [fwd_append, hyq]; exact hy
                        clear hyq hy
                        go_wp2_with (first | (at_lookup; refine wpList_map_look_ok _ rfl (.tmp 213) (.tmp 214) 32 rfl HQ2.out law9 Try.underlying9 Try.underlying32 s hss rfl rfl none HYQ.out (.int .i64 0) rfl ?_) | (at_lookup; refine wpList_map_look_ok _ rfl (.tmp 220) (.tmp 221) 32 rfl HT2.out law9 Try.underlying9 Try.underlying32 s hss rfl rfl (some y) HYT.out (.int .i64 y) rfl ?_) | (at_lookup; refine wpList_map_look_ok _ rfl (.tmp 226) (.tmp 227) 32 rfl HP2.out law9 Try.underlying9 Try.underlying32 s hss rfl rfl (some y) HY.out (.int .i64 y) rfl ?_))
                        go_round
                        case rel => exact ⟨j + 1, by omega, by go_num⟩
                        case measure => simp [intOf]; omega
                    · have g1 := fun ty => HT2.out.len Try.underlying32 ty
                      have g2 := fun ty => HP2.out.len Try.underlying32 ty
                      have hbeq : ((ct : Int) == (cp : Int) + (c : Int)) = true := by have := HCT.out; simp; omega
                      go_wp2
                      go_ret
                      exact ⟨rfl, b90.trans (hbel.mono b90.size)⟩
end Go.Proofs.Qxb6001389a
