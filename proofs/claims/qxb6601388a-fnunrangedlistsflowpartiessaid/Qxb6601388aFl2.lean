import Derived.Test.Qxb6601388aFl1
namespace Go.Proofs.Qxb6601388a
open Go.RowKit
set_option linter.unusedVariables false

/-- What zzflowShaped has seen of the numbers. -/
def ShapedZ (v : Nat) (zss : List (List Int)) : Prop := v ≤ zss.length ∧ ∀ (u : Nat) l x, zss[u]? = some l → x ∈ l → 0 ≤ x ∧ x < zss.length ∧ (v ≤ u → x < v)

def ShSaid (v : Nat) (zss : List (List Int)) (w : World) (e : Ending) (w' : World) : Prop := ∃ b : Bool, e = .returned (.bool b) ∧ w = w' ∧ (b = true → ShapedZ v zss)

set_option maxRecDepth 100000 in
set_option maxHeartbeats 1000000 in
/-- zzflowShaped -/
theorem shaped17 (v : Nat) (xv : Value) (zss : List (List Int)) (w : World) (B : Nat) (hx : Sl2 (Value.int .i64) w B xv zss) (m0 : v ≤ 256) (m2 : zss.length ≤ 512) (m5 : ∀ (i : Nat) zs, zss[i]? = some zs → zs.length ≤ 65536) :
    Calls Try.prog 17 #[.int .i64 (v : Int), xv] w (ShSaid v zss w) := by
  obtain ⟨a1, c1, rfl⟩ := hx.form
  by_cases hv : v ≤ zss.length
  case neg =>
    go_enter Try.func17, Try.ntmps17
    go_wp2
    go_ret
    exact ⟨_, rfl, rfl, fun h => by cases h⟩
  go_enter Try.func17, Try.ntmps17
  go_wp2
  go_loop [5] (fun i => ∃ k : Nat, k ≤ zss.length ∧ i = .int .i64 k ∧ Hid (∀ (u : Nat) l x, u < k → zss[u]? = some l → x ∈ l → 0 ≤ x ∧ x < zss.length ∧ (v ≤ u → x < v))) (fun i => zss.length - (intOf i).toNat)
  case atStart => exact ⟨0, Nat.zero_le _, rfl, fun u l x h => by omega⟩
  case round =>
    obtain ⟨k, hk, rfl, HK⟩ := hrel
    by_cases hlt : k < zss.length
    · obtain ⟨zs, hs⟩ : ∃ s, zss[k]? = some s := ⟨zss[k], by simp [hlt]⟩
      obtain ⟨b, o, rfl, hb, hc⟩ := hx.place hs
      obtain ⟨a', c', hcell, hsl⟩ := hc k zs hs
      have hss := m5 k zs hs
      have HS : Hid (zss[k]? = some zs) := hs
      clear hc hs m5
      go_wp2
      clear hcell
      go_loop [23] (fun i => ∃ j : Nat, j ≤ zs.length ∧ i = .int .i64 j ∧ Hid (∀ (t : Nat) x, t < j → zs[t]? = some x → 0 ≤ x ∧ x < zss.length ∧ (v ≤ k → x < v))) (fun i => zs.length - (intOf i).toNat)
      case atStart => exact ⟨0, Nat.zero_le _, rfl, fun u l h => by omega⟩
      case round =>
        obtain ⟨j, hj, rfl, HJ⟩ := hrel
        by_cases hjl : j < zs.length
        · obtain ⟨x, hxx⟩ : ∃ s, zs[j]? = some s := ⟨zs[j], by simp [hjl]⟩
          obtain ⟨b2, o2, rfl, hb2, hc2⟩ := hsl.place hxx
          have x2 := hc2 j x hxx
          have HX : Hid (zs[j]? = some x) := hxx
          have hjli : (j : Int) < zs.length := by omega
          clear hc2 hxx hsl
          by_cases h0 : x < 0
          · go_wp2
            go_ret
            exact ⟨_, rfl, rfl, fun h => by cases h⟩
          · by_cases h1 : x < zss.length
            · by_cases h2 : v ≤ k
              · by_cases h3 : x < v
                · go_wp2
                  go_round
                  case rel =>
                    refine ⟨j + 1, by omega, by go_num, fun t y ht hy => ?_⟩
                    by_cases e : t = j
                    · subst e; rw [HX.out] at hy; simp at hy; subst hy; exact ⟨by omega, h1, fun _ => h3⟩
                    · exact HJ.out t y (by omega) hy
                  case measure => simp [intOf]; omega
                · go_wp2
                  go_ret
                  exact ⟨_, rfl, rfl, fun h => by cases h⟩
              · go_wp2
                go_round
                case rel =>
                  refine ⟨j + 1, by omega, by go_num, fun t y ht hy => ?_⟩
                  by_cases e : t = j
                  · subst e; rw [HX.out] at hy; simp at hy; subst hy; exact ⟨by omega, h1, fun h => absurd h (by omega)⟩
                  · exact HJ.out t y (by omega) hy
                case measure => simp [intOf]; omega
            · go_wp2
              go_ret
              exact ⟨_, rfl, rfl, fun h => by cases h⟩
        · clear hsl
          go_wp2
          go_round
          case rel =>
            refine ⟨k + 1, by omega, by go_num, fun u l x hu hl hxl => ?_⟩
            by_cases e : u = k
            · subst e
              rw [HS.out] at hl
              simp at hl
              subst hl
              obtain ⟨t, ht⟩ := List.getElem?_of_mem hxl
              exact HJ.out t x (by have := lt_of_some ht; omega) ht
            · exact HK.out u l x (by omega) hl hxl
          case measure => simp [intOf]; omega
    · go_wp2
      go_ret
      exact ⟨_, rfl, rfl, fun _ => ⟨hv, fun u l x hl hxl => HK.out u l x (by have := lt_of_some hl; omega) hl hxl⟩⟩

/-! ### The edges as natural numbers -/

def nat64 (m : Nat) : Value := .int .i64 (m : Int)

theorem sl_nat {w : World} {B : Nat} {v : Value} {zs : List Int} (h : Sl (Value.int .i64) w B v zs) (hz : ∀ x ∈ zs, 0 ≤ x) : Sl nat64 w B v (zs.map Int.toNat) := by
  rcases h with ⟨rfl, hv⟩ | ⟨b, o, s, c, hv, hlt, hc⟩
  · exact .inl ⟨rfl, hv⟩
  · refine .inr ⟨b, o, s, c, by rw [hv]; simp, by simpa using hlt, fun i m hm => ?_⟩
    rw [List.getElem?_map] at hm
    cases hzi : zs[i]? with
    | none => rw [hzi] at hm; simp at hm
    | some z =>
      rw [hzi] at hm
      simp at hm
      subst hm
      rw [hc i z hzi, nat64, Int.toNat_of_nonneg (hz z (List.mem_of_getElem? hzi))]

theorem sl2_nat {w : World} {B : Nat} {v : Value} {zss : List (List Int)} (h : Sl2 (Value.int .i64) w B v zss) (hz : ∀ (u : Nat) l x, zss[u]? = some l → x ∈ l → 0 ≤ x) : Sl2 nat64 w B v (zss.map fun l => l.map Int.toNat) := by
  obtain ⟨ts, hl, h1, h2⟩ := h
  refine ⟨ts, by simp [hl], h1, fun i t zs ht hzs => ?_⟩
  rw [List.getElem?_map] at hzs
  cases hzi : zss[i]? with
  | none => rw [hzi] at hzs; simp at hzs
  | some l =>
    rw [hzi] at hzs
    simp at hzs
    subst hzs
    exact sl_nat (h2 i t l ht hzi) (fun x hx => hz i l x hzi hx)

theorem shaped_nat {v : Nat} {zss : List (List Int)} (h : ShapedZ v zss) : Shaped v (zss.map fun l => l.map Int.toNat) := by
  refine ⟨by simpa using h.1, fun u l x hl hx => ?_⟩
  rw [List.getElem?_map] at hl
  cases hzi : zss[u]? with
  | none => rw [hzi] at hl; simp at hl
  | some l' =>
    rw [hzi] at hl
    simp at hl
    subst hl
    simp only [List.mem_map] at hx
    obtain ⟨z, hz, rfl⟩ := hx
    have := h.2 u l' z hzi hz
    simp only [List.length_map]
    refine ⟨by omega, fun hv => ?_⟩
    have := this.2.2 hv
    omega

theorem len_nat {zss : List (List Int)} {m : Nat} (h : ∀ (i : Nat) zs, zss[i]? = some zs → zs.length ≤ m) : ∀ (i : Nat) l, (zss.map fun l => l.map Int.toNat)[i]? = some l → l.length ≤ m := by
  intro i l hl
  rw [List.getElem?_map] at hl
  cases hzi : zss[i]? with
  | none => rw [hzi] at hl; simp at hl
  | some l' =>
    rw [hzi] at hl
    simp at hl
    subst hl
    simpa using h i l' hzi

/-! ### zzhas, zzsameStrs -/

theorem beq_str {a b : ByteArray} : (a.toList == b.toList) = decide (a = b) := by
  rw [ByteArray.toList_eq, ByteArray.toList_eq, Bool.eq_iff_iff]
  simp only [beq_iff_eq, decide_eq_true_eq]
  constructor
  · intro h
    have := Array.toList_inj.1 h
    cases a; cases b; simp_all
  · rintro rfl; rfl

def HasSaid (b : Bool) (w : World) (e : Ending) (w' : World) : Prop := e = .returned (.bool b) ∧ w = w'

set_option maxHeartbeats 400000 in
theorem has27 (rv : Value) (rs : List ByteArray) (s : ByteArray) (w : World) (B : Nat) (hr : Sl Value.string w B rv rs) (m : rs.length ≤ 4096) (b : Bool) (hb : Hid (s ∈ rs ↔ b = true)) :
    Calls Try.prog 27 #[rv, .string s] w (HasSaid b w) := by
  obtain ⟨a1, c1, rfl⟩ := hr.form
  go_enter Try.func27, Try.ntmps27
  go_wp2
  go_loop [5] (fun i => ∃ k : Nat, k ≤ rs.length ∧ i = .int .i64 k ∧ Hid (∀ (t : Nat) y, t < k → rs[t]? = some y → y ≠ s)) (fun i => rs.length - (intOf i).toNat)
  case atStart => exact ⟨0, Nat.zero_le _, rfl, fun t y h => by omega⟩
  case round =>
    obtain ⟨k, hk, rfl, HK⟩ := hrel
    by_cases hlt : k < rs.length
    · obtain ⟨y, hy⟩ : ∃ y, rs[k]? = some y := ⟨rs[k], by simp [hlt]⟩
      obtain ⟨bb, o, rfl, hbb, hc⟩ := hr.place hy
      have hcell := hc k y hy
      have HY : Hid (rs[k]? = some y) := hy
      clear hc hy hr
      by_cases e : y = s
      · have hB : Hid (b = true) := by
          exact hb.out.1 (e ▸ List.mem_of_getElem? HY.out)
        have hE : (y.toList == s.toList) = true := by rw [beq_str]; simpa using e
        clear e
        go_wp2
        go_ret
        exact ⟨by rw [hB.out]; rfl, rfl⟩
      · have hE : (y.toList == s.toList) = false := by rw [beq_str]; simpa using e
        have HE : Hid (y ≠ s) := e
        clear e
        go_wp2
        go_round
        case rel =>
          refine ⟨k + 1, by omega, by go_num, fun t x ht hx => ?_⟩
          by_cases e : t = k
          · subst e; rw [HY.out] at hx; simp at hx; subst hx; exact HE.out
          · exact HK.out t x (by omega) hx
        case measure => simp [intOf]; omega
    · have hB : Hid (b = false) := by
        refine Bool.eq_false_iff.2 (fun hbt => ?_)
        have hm := hb.out.2 hbt
        obtain ⟨t, ht⟩ := List.getElem?_of_mem hm
        exact HK.out t s (by have := lt_of_some ht; omega) ht rfl
      go_wp2
      go_ret
      exact ⟨by rw [hB.out]; rfl, rfl⟩

set_option maxHeartbeats 400000 in
/-- zzsameStrs, at two slices that read as one list, both nil or neither. -/
theorem same21 (av bv : Value) (l : List ByteArray) (w : World) (B : Nat) (ha : Sl Value.string w B av l) (hb : Sl Value.string w B bv l) (hn : nilS av = nilS bv) (m : l.length ≤ 256) :
    Calls Try.prog 21 #[av, bv] w fun e w' => e = .returned (.bool true) ∧ Below w.heap.size w w' := by
  have qnil : ∀ (w : World) (a : Option Addr) (n c : Nat), (binOp .eql 24 (.slice a n c) (.slice none 0 0)).run Try.prog w = .ok (.bool a.isNone) w := fun w a n c => Lib.run_eql_slice_nil w _ _ a n c 0 0 Try.underlying24
  obtain ⟨a1, c1, rfl⟩ := ha.form
  obtain ⟨a2, c2, rfl⟩ := hb.form
  cases a1 with
  | none =>
    have hl : l = [] := by
      cases l with
      | nil => rfl
      | cons x r => obtain ⟨b, o, e, _⟩ := ha.place (i := 0) (z := x) rfl; cases e
    subst hl
    cases a2 with
    | some ad => simp [nilS] at hn
    | none =>
      go_enter Try.func21, Try.ntmps21
      go_wp2
      go_loop [5] (fun i => i = .int .i64 0) (fun i => 0)
      case atStart => rfl
      case round =>
        subst hrel
        go_wp2
        go_ret
        exact ⟨rfl, Below.refl _ _⟩
  | some ad1 =>
    cases a2 with
    | none => simp [nilS] at hn
    | some ad2 =>
        go_enter Try.func21, Try.ntmps21
        go_wp2
        go_loopw [5] (fun i wr => ∃ k : Nat, k ≤ l.length ∧ i = .int .i64 k ∧ Below w.heap.size w wr ∧ Below B w wr) (fun i _ => l.length - (intOf i).toNat)
        case atStart => exact ⟨0, Nat.zero_le _, rfl, Below.refl _ _, Below.refl _ _⟩
        case round =>
          obtain ⟨k, hk, rfl, hbel, hbB⟩ := hrel
          by_cases hlt : k < l.length
          · obtain ⟨y, hy⟩ : ∃ y, l[k]? = some y := ⟨l[k], by simp [hlt]⟩
            obtain ⟨b1, o1, e1, hb1, hc1⟩ := ha.place hy
            simp only [Option.some.injEq] at e1
            subst e1
            obtain ⟨b2, o2, e2, hb2, hc2⟩ := hb.place hy
            simp only [Option.some.injEq] at e2
            subst e2
            have x1 : wr.cell? ⟨b1, o1 + k, none⟩ = some (.string y) := by rw [hbB.cell (p := ⟨b1, o1 + k, none⟩) hb1]; exact hc1 k y hy
            have x2 : wr.cell? ⟨b2, o2 + k, none⟩ = some (.string y) := by rw [hbB.cell (p := ⟨b2, o2 + k, none⟩) hb2]; exact hc2 k y hy
            have hlti : (k : Int) < l.length := by omega
            clear hc1 hc2 hy ha hb
            go_wp2
            go_quiet (fail)
            go_wp2
            go_roundw
            case rel => exact ⟨k + 1, by omega, by go_num, below_drewN hbel _, below_drewN hbB _⟩
            case measure => simp [intOf]; omega
          · go_wp2
            go_ret
            exact ⟨rfl, hbel⟩

end Go.Proofs.Qxb6601388a
