import Derived.Test.Qxb6601388aFl8
namespace Go.Proofs.Qxb6601388a
open Go.RowKit
set_option linter.unusedVariables false

theorem own_mono {w : World} {base base' : Nat} {e : TypeId} {size : Nat} {v : Value} {n : Nat} {xs : List Value} (h : w.ownsRow base e size v n xs) (hb : base' ≤ base) : w.ownsRow base' e size v n xs := by
  refine ⟨h.1, ?_⟩
  rcases h.2 with h0 | ⟨g, cap, cur, hv, hbg, r⟩
  · exact .inl h0
  · exact .inr ⟨g, cap, cur, hv, Nat.le_trans hb hbg, r⟩

theorem FlowSaid.back {names : List ByteArray} {next : List (List Nat)} {ranged : List ByteArray} {needs : List Bool} {w w1 : World} {e : Ending} {w' : World} (h : FlowSaid names next ranged needs w1 e w') (hb : Below w.heap.size w w1) : FlowSaid names next ranged needs w e w' := by
  obtain ⟨v', keep, he, hk, ho, hn, hbel⟩ := h
  exact ⟨v', keep, he, hk, own_mono ho hb.size, hn, hb.trans (hbel.mono hb.size)⟩

theorem LookR.later {w w1 : World} {mp : Option Nat} {ranged : List ByteArray} (h : LookR w mp ranged) (hb : Below w.heap.size w w1) : LookR w1 mp ranged := fun wx hx s hs => h wx (hb.trans (hx.mono hb.size)) s hs

set_option maxRecDepth 100000 in
set_option maxHeartbeats 1000000 in
/-- ZZFlowGraphUnranged -/
theorem flow18 (mp : Option Nat) (nv xv bv : Value) (names : List ByteArray) (next : List (List Nat)) (ranged : List ByteArray) (needs : List Bool) (w : World) (hn : Sl Value.string w w.heap.size nv names) (hx : Sl2 nat64 w w.heap.size xv next) (hb : Sl Value.bool w w.heap.size bv needs)
    (hall : Hid (LookR w mp ranged))
    (hsz : Hid (∀ (i : Nat) s, names[i]? = some s → s.size ≤ maxLen))
    (hs : Hid (Shaped names.length next)) (m1 : names.length ≤ 256) (m2 : next.length ≤ 512) (m4 : needs.length ≤ 4096) (m5 : Hid (∀ (i : Nat) l, next[i]? = some l → l.length ≤ 65536)) :
    Calls Try.prog 18 #[nv, xv, .map mp, bv] w (FlowSaid names next ranged needs w) := by
  obtain ⟨a0, c0, rfl⟩ := hn.form
  obtain ⟨a1, c1, rfl⟩ := hx.form
  obtain ⟨a3, c3, rfl⟩ := hb.form
  have HX : Hid (Sl2 nat64 w w.heap.size (.slice a1 next.length c1) next) := hx
  have HNM : Hid (Sl Value.string w w.heap.size (.slice a0 names.length c0) names) := hn
  have HB : Hid (Sl Value.bool w w.heap.size (.slice a3 needs.length c3) needs) := hb
  clear hn hx hb
  go_enter Try.func18, Try.ntmps18
  go_wp2_with fail
  have hbel : ∀ o, Below w.heap.size w (w.alloc o) := fun o => (Below.refl _ _).alloc (Nat.le_refl _) o
  have hmono : ∀ o, w.heap.size ≤ (w.alloc o).heap.size := fun o => by simp
  refine (unranged26 w.heap.size mp _ _ _ names next ranged needs _ (by simp) (by simp) (by simp) ((HNM.out.below (hbel _)).mono (hmono _)) ((HX.out.below (hbel _)).mono (hmono _)) ((HB.out.below (hbel _)).mono (hmono _)) (hall.out.later (hbel _)) hsz hs m1 m2 m4 m5).mono ?_
  rintro e w1 hF
  have hF2 := hF.back (hbel _)
  obtain ⟨v', keep, rfl, hk, ho, hn, hbel2⟩ := hF2
  have HF : Hid (FlowSaid names next ranged needs w (.returned v') w1) := ⟨v', keep, rfl, hk, ho, hn, hbel2⟩
  clear hF hk ho hn hbel2
  go_wp2
  go_ret
  exact HF.out

theorem nil_own {w : World} {base : Nat} {v : Value} {n : Nat} {xs : List Value} (h : w.ownsRow base 9 1 v n xs) (hn : 0 < n) : nilS v = false := by
  rcases h.2 with ⟨_, h0⟩ | ⟨g, cap, cur, rfl, _⟩
  · omega
  · rfl

def TrueBelow (w : World) (e : Ending) (w' : World) : Prop := e = .returned (.bool true) ∧ Below w.heap.size w w'

set_option maxRecDepth 100000 in
set_option maxHeartbeats 2000000 in
/-- FnUnrangedListsFlowParties -/
theorem law6 (nv xv rv bv : Value) (ns : List ByteArray) (zss : List (List Int)) (rs : List ByteArray) (bs : List Bool) (w : World) (hn : Sl Value.string w w.heap.size nv ns) (hx : Sl2 (Value.int .i64) w w.heap.size xv zss) (hr : Sl Value.string w w.heap.size rv rs) (hb : Sl Value.bool w w.heap.size bv bs)
    (m1 : ns.length ≤ maxLen) (m2 : zss.length ≤ maxLen) (m3 : rs.length ≤ maxLen) (m4 : bs.length ≤ maxLen) (m5 : ∀ (i : Nat) zs, zss[i]? = some zs → zs.length ≤ maxLen)
    (z1 : ∀ (i : Nat) s, ns[i]? = some s → s.size ≤ maxLen) (z3 : ∀ (i : Nat) s, rs[i]? = some s → s.size ≤ maxLen) :
    Calls Try.prog 6 #[nv, xv, rv, bv] w (TrueBelow w) := by
  have C13 := bytes13 nv xv rv bv ns zss rs bs w w.heap.size hn hx hr hb m1 m2 m3 m4 m5
  have C14 := fbytes14 nv xv rv bv ns zss rs bs w w.heap.size hn hx hr hb m1 m2 m3 m4 m5
  obtain ⟨a0, c0, rfl⟩ := hn.form
  obtain ⟨a1, c1, rfl⟩ := hx.form
  obtain ⟨a2, c2, rfl⟩ := hr.form
  obtain ⟨a3, c3, rfl⟩ := hb.form
  have HN : Hid (Sl Value.string w w.heap.size (.slice a0 ns.length c0) ns) := hn
  have HX : Hid (Sl2 (Value.int .i64) w w.heap.size (.slice a1 zss.length c1) zss) := hx
  have HR : Hid (Sl Value.string w w.heap.size (.slice a2 rs.length c2) rs) := hr
  have HB : Hid (Sl Value.bool w w.heap.size (.slice a3 bs.length c3) bs) := hb
  have Z1 : Hid (∀ (i : Nat) s, ns[i]? = some s → s.size ≤ maxLen) := z1
  have Z3 : Hid (∀ (i : Nat) s, rs[i]? = some s → s.size ≤ maxLen) := z3
  unfold maxLen at m1 m2 m3 m4
  clear hn hx hr hb z1 z3 m5
  have H13 : Hid (Calls Try.prog 13 #[.slice a0 ns.length c0, .slice a1 zss.length c1, .slice a2 rs.length c2, .slice a3 bs.length c3] w (SaidB w)) := C13
  have H14 : Hid (Calls Try.prog 14 #[.slice a0 ns.length c0, .slice a1 zss.length c1, .slice a2 rs.length c2, .slice a3 bs.length c3] w (FbSaid zss w)) := C14
  clear C13 C14
  go_enter Try.func6, Try.ntmps6
  go_wp2_with fail
  refine H13.out.mono ?_
  rintro e w1 ⟨b, rfl, rfl⟩
  cases b with
  | false =>
    go_wp2
    go_ret
    exact ⟨rfl, Below.refl _ _⟩
  | true =>
  by_cases q1 : ns.length ≤ 256
  case neg =>
    go_wp2
    go_ret
    exact ⟨rfl, Below.refl _ _⟩
  by_cases q2 : zss.length ≤ 512
  case neg =>
    go_wp2
    go_ret
    exact ⟨rfl, Below.refl _ _⟩
  by_cases q3 : rs.length ≤ 4096
  case neg =>
    go_wp2
    go_ret
    exact ⟨rfl, Below.refl _ _⟩
  by_cases q4 : bs.length ≤ 4096
  case neg =>
    go_wp2
    go_ret
    exact ⟨rfl, Below.refl _ _⟩
  go_wp2_with fail
  refine H14.out.mono ?_
  rintro e w1 ⟨z, rfl, rfl, hz⟩
  have HZ : Hid (z ≤ 1048576 → ∀ (i : Nat) zs, zss[i]? = some zs → zs.length ≤ 65536) := hz
  clear hz
  by_cases q5 : z ≤ 1048576
  case neg =>
    go_wp2
    go_ret
    exact ⟨rfl, Below.refl _ _⟩
  have Q5 : Hid (∀ (i : Nat) zs, zss[i]? = some zs → zs.length ≤ 65536) := HZ.out q5
  clear HZ
  go_wp2_with fail
  refine (clone9 _ ns _ HN.out (by omega)).mono ?_
  rintro e w1 ⟨v0, rfl, o1, b1, _⟩
  have N1 : Hid (Sl Value.string w1 w1.heap.size v0 ns) := Sl.of_own o1
  have X1 : Hid (Sl2 (Value.int .i64) w1 w1.heap.size (.slice a1 zss.length c1) zss) := (HX.out.below b1).mono b1.size
  have R1 : Hid (Sl Value.string w1 w1.heap.size (.slice a2 rs.length c2) rs) := (HR.out.below b1).mono b1.size
  have B1 : Hid (Sl Value.bool w1 w1.heap.size (.slice a3 bs.length c3) bs) := (HB.out.below b1).mono b1.size
  have W1 : Hid (Below w.heap.size w w1) := b1
  clear o1 b1 HN HX HR HB
  go_wp2_with fail
  refine (clone15 _ zss _ X1.out (by omega) (fun i zs hz => by have := Q5.out i zs hz; omega)).mono ?_
  rintro e w2 ⟨v1, rfl, s2, b2⟩
  have W2 : Hid (Below w.heap.size w w2) := W1.out.trans (b2.mono W1.out.size)
  have X2 : Hid (Sl2 (Value.int .i64) w2 w2.heap.size v1 zss) := s2
  have N2 : Hid (Sl Value.string w2 w2.heap.size v0 ns) := (N1.out.below b2).mono b2.size
  have R2 : Hid (Sl Value.string w2 w2.heap.size (.slice a2 rs.length c2) rs) := (R1.out.below b2).mono b2.size
  have B2 : Hid (Sl Value.bool w2 w2.heap.size (.slice a3 bs.length c3) bs) := (B1.out.below b2).mono b2.size
  clear s2 b2 N1 X1 R1 B1 W1
  go_wp2_with fail
  refine (clone9 _ rs _ R2.out (by omega)).mono ?_
  rintro e w3 ⟨v2, rfl, o3, b3, _⟩
  have W3 : Hid (Below w.heap.size w w3) := W2.out.trans (b3.mono W2.out.size)
  have R3 : Hid (Sl Value.string w3 w3.heap.size v2 rs) := Sl.of_own o3
  have X3 : Hid (Sl2 (Value.int .i64) w3 w3.heap.size v1 zss) := (X2.out.below b3).mono b3.size
  have N3 : Hid (Sl Value.string w3 w3.heap.size v0 ns) := (N2.out.below b3).mono b3.size
  have B3 : Hid (Sl Value.bool w3 w3.heap.size (.slice a3 bs.length c3) bs) := (B2.out.below b3).mono b3.size
  clear o3 b3 N2 X2 R2 B2 W2
  go_wp2_with fail
  refine (clone16 _ bs _ B3.out (by omega)).mono ?_
  rintro e w4 ⟨v3, rfl, o4, b4⟩
  have W4 : Hid (Below w.heap.size w w4) := W3.out.trans (b4.mono W3.out.size)
  have B4 : Hid (Sl Value.bool w4 w4.heap.size v3 bs) := Sl.of_own o4
  have R4 : Hid (Sl Value.string w4 w4.heap.size v2 rs) := (R3.out.below b4).mono b4.size
  have X4 : Hid (Sl2 (Value.int .i64) w4 w4.heap.size v1 zss) := (X3.out.below b4).mono b4.size
  have N4 : Hid (Sl Value.string w4 w4.heap.size v0 ns) := (N3.out.below b4).mono b4.size
  clear o4 b4 N3 X3 R3 B3 W3
  obtain ⟨p0, d0, rfl⟩ := N4.out.form
  obtain ⟨p1, d1, rfl⟩ := X4.out.form
  obtain ⟨p2, d2, rfl⟩ := R4.out.form
  obtain ⟨p3, d3, rfl⟩ := B4.out.form
  go_wp2_with fail
  refine (shaped17 ns.length _ zss _ _ X4.out (by omega) (by omega) Q5.out).mono ?_
  rintro e w5 ⟨b, rfl, rfl, hsh⟩
  cases b with
  | false =>
    go_wp2
    go_ret
    exact ⟨rfl, W4.out⟩
  | true =>
  have HSH : Hid (ShapedZ ns.length zss) := hsh rfl
  clear hsh
  have X5 : Hid (Sl2 nat64 w4 w4.heap.size (.slice p1 zss.length d1) (zss.map fun l => l.map Int.toNat)) := sl2_nat X4.out (fun u l x h1 h2 => (HSH.out.2 u l x h1 h2).1)
  have S5 : Hid (Shaped ns.length (zss.map fun l => l.map Int.toNat)) := shaped_nat HSH.out
  have L5 : Hid (∀ (i : Nat) l, (zss.map fun l => l.map Int.toNat)[i]? = some l → l.length ≤ 65536) := len_nat Q5.out
  obtain ⟨next, hnext⟩ : ∃ next, (zss.map fun l => l.map Int.toNat) = next := ⟨_, rfl⟩
  have hlen : zss.length = next.length := by rw [← hnext]; simp
  rw [hnext] at X5 S5 L5
  rw [hlen] at X5
  clear X4 HSH Q5 hnext
  rw [hlen]
  go_wp2_with fail
  refine (ranges19 _ rs _ R4.out (by omega) Z3).mono ?_
  rintro e w5 ⟨mp, rfl, lk, b5⟩
  have W5 : Hid (Below w.heap.size w w5) := W4.out.trans (b5.mono W4.out.size)
  have LK : Hid (LookR w5 mp rs) := lk
  have B5 : Hid (Sl Value.bool w5 w5.heap.size (.slice p3 bs.length d3) bs) := (B4.out.below b5).mono b5.size
  have R5 : Hid (Sl Value.string w5 w5.heap.size (.slice p2 rs.length d2) rs) := (R4.out.below b5).mono b5.size
  have X6 : Hid (Sl2 nat64 w5 w5.heap.size (.slice p1 next.length d1) next) := (X5.out.below b5).mono b5.size
  have N5 : Hid (Sl Value.string w5 w5.heap.size (.slice p0 ns.length d0) ns) := (N4.out.below b5).mono b5.size
  clear lk b5 N4 X5 R4 B4 W4
  go_wp2_with fail
  refine (flow18 mp _ _ _ ns next rs bs _ N5.out X6.out B5.out LK Z1 S5 q1 (by omega) q4 L5).mono ?_
  rintro e w6 ⟨u1, k1, rfl, kk1, o6, n6, b6⟩
  have W6 : Hid (Below w.heap.size w w6) := W5.out.trans (b6.mono W5.out.size)
  have B6 : Hid (Sl Value.bool w6 w6.heap.size (.slice p3 bs.length d3) bs) := (B5.out.below b6).mono b6.size
  have R6 : Hid (Sl Value.string w6 w6.heap.size (.slice p2 rs.length d2) rs) := (R5.out.below b6).mono b6.size
  have X7 : Hid (Sl2 nat64 w6 w6.heap.size (.slice p1 next.length d1) next) := (X6.out.below b6).mono b6.size
  have N6 : Hid (Sl Value.string w6 w6.heap.size (.slice p0 ns.length d0) ns) := (N5.out.below b6).mono b6.size
  have U1 : Hid (Sl Value.string w6 w6.heap.size u1 (outTo ns k1 ns.length)) := Sl.of_own o6
  have NU1 : Hid (nilS u1 = decide (outTo ns k1 ns.length = [])) := by
    show _ = _
    by_cases e : outTo ns k1 ns.length = []
    · rw [n6 e]; simp [nilS, e]
    · rw [nil_own o6 (List.length_pos_iff.2 e)]; simp [e]
  have K1 : Hid (KeepOK ns next rs bs k1) := kk1
  clear kk1 o6 n6 b6 N5 X6 R5 B5 W5 LK
  go_wp2_with fail
  refine (model20 _ _ _ _ ns next rs bs _ N6.out X7.out R6.out B6.out S5 q1 (by omega) q3 q4 L5).mono ?_
  rintro e w7 ⟨u2, k2, rfl, kk2, o7, n7, b7⟩
  have W7 : Hid (Below w.heap.size w w7) := W6.out.trans (b7.mono W6.out.size)
  have heq : outTo ns k1 ns.length = outTo ns k2 ns.length := keep_unique K1.out kk2
  have U1' : Hid (Sl Value.string w7 w7.heap.size u1 (outTo ns k2 ns.length)) := by
    have := (U1.out.below b7).mono b7.size
    rw [heq] at this
    exact this
  have U2 : Hid (Sl Value.string w7 w7.heap.size u2 (outTo ns k2 ns.length)) := Sl.of_own o7
  have NU : Hid (nilS u1 = nilS u2) := by
    show _ = _
    rw [NU1.out, heq]
    by_cases e : outTo ns k2 ns.length = []
    · rw [n7 e]; simp [nilS, e]
    · rw [nil_own o7 (List.length_pos_iff.2 e)]; simp [e]
  have hol := outTo_len ns k2 ns.length
  clear kk2 o7 n7 b7 N6 X7 R6 B6 W6 heq U1 NU1 K1
  go_wp2_with fail
  refine (same21 _ _ _ _ _ U1'.out U2.out NU.out (by omega)).mono ?_
  rintro e w8 ⟨rfl, b8⟩
  have W8 : Hid (Below w.heap.size w w8) := W7.out.trans (b8.mono W7.out.size)
  clear b8
  go_wp2
  go_ret
  exact ⟨rfl, W8.out⟩

end Go.Proofs.Qxb6601388a
