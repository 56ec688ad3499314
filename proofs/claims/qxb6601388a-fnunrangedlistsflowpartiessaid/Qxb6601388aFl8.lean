import Derived.Test.Qxb6601388aFl7
import Derived.Test.Qxb6601388aMaps
import Derived.Maps.StringElems
namespace Go.Proofs.Qxb6601388a
open Go.RowKit Go.Maps
open Go.ChangeMaps Go.MapKept
set_option linter.unusedVariables false

/-! ### zzranges -/

/-- How a Range reads: three strings, whichever. -/
noncomputable def rangeElem (v : Value) : Option (DataW Unit × List MemPlace) :=
  open Classical in if ∃ x y z, v = .agg #[.string x, .string y, .string z] then some (.lit (.bool true), []) else none

theorem rangeElem_inv {v : Value} {d : DataW Unit × List MemPlace} (h : rangeElem v = some d) : ∃ x y z, v = .agg #[.string x, .string y, .string z] := by
  unfold rangeElem at h
  by_cases e : ∃ x y z, v = .agg #[.string x, .string y, .string z]
  · exact e
  · rw [if_neg e] at h; cases h

theorem rangeElem_mk (x y z : ByteArray) : rangeElem (.agg #[.string x, .string y, .string z]) = some (.lit (.bool true), []) := by
  unfold rangeElem
  exact if_pos ⟨x, y, z, rfl⟩

theorem keyed9 : Keyed Try.prog 9 := string_keyed Try.underlying9
theorem zero57 (w : World) : (zeroValue 57).run Try.prog w = .ok (.agg #[.string ByteArray.empty, .string ByteArray.empty, .string ByteArray.empty]) w := by kernel_rfl

theorem hasB_nil (s : ByteArray) : hasB [] s = false := rfl
theorem hasB_snoc (l : List ByteArray) (y s : ByteArray) : hasB (l ++ [y]) s = (hasB l s || (y.toList == s.toList)) := by simp [hasB]

def RMap (w : World) (b n : Nat) (l : List ByteArray) : Prop := ∃ D : DataW Unit, w.ownsMap Try.prog 9 rangeElem b n D ∧ ∀ s, Maps.has D (klit s) = hasB l s

theorem RMap.same {w w' : World} {b n : Nat} {l : List ByteArray} (h : RMap w b n l) (hb : w'.heap[b]? = w.heap[b]?) : RMap w' b n l := by
  obtain ⟨D, ⟨es, clock, h1, h2⟩, r⟩ := h
  exact ⟨D, ⟨es, clock, hb.trans h1, h2⟩, r⟩

theorem RMap.lt {w : World} {b n : Nat} {l : List ByteArray} (h : RMap w b n l) : b < w.heap.size := by
  obtain ⟨D, ho, _⟩ := h
  exact ho.lt

theorem RMap.put {w : World} {b n : Nat} {l : List ByteArray} (h : RMap w b n l) (hn : n < maxLen) {s : ByteArray} (hs : s.size ≤ maxLen) (x y z : ByteArray) :
    ∃ w', (Instr.mapUpdate 39 (.map (some b)) (.string s) (.agg #[.string x, .string y, .string z])).run Try.prog w = .ok () w' ∧ RMap w' b (n + 1) (l ++ [s]) ∧ w.grownBy w' (some b) := by
  obtain ⟨D, ho, hh⟩ := h
  obtain ⟨w', hrun, ho', hg⟩ := ho.update keyed9 Try.underlying39 hn (keyk Try.underlying9 hs) (val := .agg #[.string x, .string y, .string z]) (rangeElem_mk x y z)
  have hm := ho.isMap
  have hk : WideAt.IsKeyLit (klit s) := trivial
  refine ⟨w', hrun, ⟨_, ho', fun u => ?_⟩, hg⟩
  rw [hasB_snoc]
  by_cases e : u = s
  · subst e
    rw [has_put_same hm hk]
    simp
  · rw [has_put_other (klit_ne e), hh, beq_str]
    have e2 : decide (s = u) = false := by rw [decide_eq_false_iff_not]; exact fun e' => e e'.symm
    rw [e2, Bool.or_false]

def LookR (w : World) (mp : Option Nat) (ranged : List ByteArray) : Prop :=
  ∀ wx, Below w.heap.size w wx → ∀ s, s.size ≤ maxLen → ∃ x y z, (Instr.lookup 39 (.map mp) (.string s) true).run Try.prog wx = .ok (.tuple #[.agg #[.string x, .string y, .string z], .bool (hasB ranged s)]) wx

theorem RMap.look {w : World} {b n : Nat} {l : List ByteArray} (h : RMap w b n l) : LookR w (some b) l := by
  intro wx hb s hs
  obtain ⟨D, ho, hh⟩ := h.same (hb.block b h.lt)
  obtain ⟨v, ps, hrun, hv⟩ := ho.look_ok keyed9 Try.underlying39 (zero57 wx) (rangeElem_mk _ _ _) (keyk Try.underlying9 hs)
  obtain ⟨x, y, z, rfl⟩ := rangeElem_inv hv
  exact ⟨x, y, z, by rw [hrun, hh]⟩

theorem look_none (w : World) : LookR w none [] := by
  intro wx hb s hs
  exact ⟨_, _, _, Maps.look_nil (w := wx) true keyed9 Try.underlying39 (zero57 wx) (keyk Try.underlying9 hs)⟩

def RanSaid (ranged : List ByteArray) (w : World) (e : Ending) (w' : World) : Prop := ∃ mp, e = .returned (.map mp) ∧ LookR w' mp ranged ∧ Below w.heap.size w w'

set_option maxRecDepth 100000 in
set_option maxHeartbeats 1000000 in
theorem ranges19 (rv : Value) (ranged : List ByteArray) (w : World) (hr : Sl Value.string w w.heap.size rv ranged) (m : ranged.length ≤ 4096) (hsz : Hid (∀ (i : Nat) s, ranged[i]? = some s → s.size ≤ maxLen)) :
    Calls Try.prog 19 #[rv] w (RanSaid ranged w) := by
  have qnil : ∀ (w : World) (a : Option Addr) (n c : Nat), (binOp .eql 24 (.slice a n c) (.slice none 0 0)).run Try.prog w = .ok (.bool a.isNone) w := fun w a n c => Lib.run_eql_slice_nil w _ _ a n c 0 0 Try.underlying24
  have hmk := fun n w => run_makeMap_some (P := Try.prog) (t := 39) Try.underlying39 n w
  obtain ⟨a1, c1, rfl⟩ := hr.form
  cases a1 with
  | none =>
    have hl : ranged = [] := by
      cases ranged with
      | nil => rfl
      | cons x r => obtain ⟨b, o, e, _⟩ := hr.place (i := 0) (z := x) rfl; cases e
    subst hl
    go_enter Try.func19, Try.ntmps19
    go_wp2
    go_ret
    exact ⟨none, rfl, look_none _, Below.refl _ _⟩
  | some ad =>
    have HR : Hid (Sl Value.string w w.heap.size (.slice (some ad) ranged.length c1) ranged) := hr
    clear hr
    go_enter Try.func19, Try.ntmps19
    go_wp2
    go_loopw [4] (fun i wr => ∃ k : Nat, k ≤ ranged.length ∧ i = .int .i64 k ∧ Hid (RMap wr w.heap.size k (ranged.take k)) ∧ Hid (Below w.heap.size w wr)) (fun i _ => ranged.length - (intOf i).toNat)
    case atStart =>
      exact ⟨0, Nat.zero_le _, rfl, ⟨_, World.ownsMap_made w Try.prog 9 rangeElem, fun s => rfl⟩, (Below.refl _ _).alloc (Nat.le_refl _) _⟩
    case round =>
      obtain ⟨k, hk, rfl, HM, HB⟩ := hrel
      by_cases hlt : k < ranged.length
      · obtain ⟨s, hs⟩ : ∃ s, ranged[k]? = some s := ⟨ranged[k], by simp [hlt]⟩
        obtain ⟨b, o, e, hb, hc⟩ := HR.out.place hs
        simp only [Option.some.injEq] at e
        subst e
        have hcell : wr.cell? ⟨b, o + k, none⟩ = some (.string s) := by rw [HB.out.cell (p := ⟨b, o + k, none⟩) hb]; exact hc k s hs
        have hlti : (k : Int) < ranged.length := by omega
        have hRd : RMap wr.drew w.heap.size k (ranged.take k) := HM.out.same rfl
        obtain ⟨w', hrun, hR', hg⟩ := hRd.put (by unfold maxLen; omega) (hsz.out k s hs) s ⟨#[]⟩ ⟨#[]⟩
        have R1 : Hid (RMap w' w.heap.size (k + 1) (ranged.take (k + 1))) := by
          rw [List.take_add_one, hs]
          exact hR'
        have hbs := HB.out.size
        have R2 : Hid (Below w.heap.size w w') := (below_drewN HB.out 1).grown hg hbs (fun q hq => by simp at hq; omega)
        clear hc hs hRd hR' hg
        go_wp2
        go_region
        all_goals go_wp2
        all_goals go_roundw
        all_goals first
          | exact ⟨k + 1, by omega, by go_num, R1, R2⟩
          | (simp [intOf]; omega)
      · have hke : k = ranged.length := by omega
        subst hke
        go_wp2
        go_ret
        refine ⟨_, rfl, ?_, HB.out⟩
        have := HM.out.look
        rw [List.take_length] at this
        exact this

end Go.Proofs.Qxb6601388a
