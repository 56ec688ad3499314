import Derived.Test.Qxb6601388aStk5
import Derived.Test.Qxb6601388aOpen
import Derived.Maps.StringElems
namespace Go.Proofs.Qxb6601388a
open Go.RowKit Go.Maps
open Go.ChangeMaps Go.MapKept
open Go.WideElems (Fit rd rg pl elemAt)
set_option linter.unusedVariables false

theorem law9 : Keyed Try.prog 9 := string_keyed Try.underlying9
theorem zero4 (w : World) : (zeroValue 4).run Try.prog w = .ok (.bool false) w := by kernel_rfl
theorem zero9 (w : World) : (zeroValue 9).run Try.prog w = .ok (.string ByteArray.empty) w := by kernel_rfl

section
variable {H : Type}

theorem own_map_below {P : Program} {k : TypeId} {R : Value → Option (DataW H × List MemPlace)} {W wx : World} {b n : Nat} {D : DataW H} (h : W.ownsMap P k R b n D) (hb : Below W.heap.size W wx) : wx.ownsMap P k R b n D := by
  have hl := h.lt
  obtain ⟨es, clock, h1, r⟩ := h
  exact ⟨es, clock, (hb.block b hl).trans h1, r⟩

theorem look_dom {W : World} {b n : Nat} {D : DataW H} (h : W.ownsMap Try.prog 9 (plainElem Try.prog 4) b n D) : ∃ dom, ∀ wx, Below W.heap.size W wx → LookD wx (some b) dom := by
  refine ⟨fun s => match D.atKey (klit s) (.lit (.bool false)) with | .lit (.bool x) => x | _ => false, fun wx hx s hs => ?_⟩
  obtain ⟨v, ps, hrun, hv⟩ := (own_map_below h hx).lookup law9 Try.underlying22 (zero4 wx) (plainElem_bool Try.underlying4 false) (keyk Try.underlying9 hs)
  rw [hrun]
  unfold plainElem at hv
  rw [Try.underlying4] at hv
  cases v <;> simp at hv
  simp only [← hv.1]

theorem look_hold {W : World} {b n : Nat} {D : DataW H} (h : W.ownsMap Try.prog 9 (plainElem Try.prog 9) b n D) : ∃ hold, ∀ wx, Below W.heap.size W wx → LookH wx (some b) hold := by
  refine ⟨fun s => match D.atKey (klit s) (.lit (.string [])) with | .lit (.string x) => ⟨x.toArray⟩ | _ => ByteArray.empty, fun wx hx s hs => ?_⟩
  obtain ⟨v, ps, hrun, hv⟩ := (own_map_below h hx).lookup law9 Try.underlying23 (zero9 wx) (plainElem_string (H := H) Try.underlying9 (by decide)) (keyk Try.underlying9 hs)
  rw [hrun]
  obtain ⟨t, rfl, h2, _⟩ := plainElem_string_inv Try.underlying9 hv
  simp only [Prod.mk.injEq] at h2
  have h3 : D.atKey (klit s) (.lit (.string [])) = .lit (.string t.data.toList) := h2.1
  simp only [h3]

theorem elem_bool {enc : TypeId × Value → H} {W : World} {base : Nat} {sp : Nat → Bool} {held : Bool} {m : Nat} {v : Value} {z : DataW H × List MemPlace} (h : elemAt enc Try.prog W base sp held m 4 v = some z) : plainElem Try.prog 4 v = some z := by
  obtain ⟨b, rfl, rfl⟩ := WideElems.elemAt_bool Try.underlying4 h
  exact plainElem_bool Try.underlying4 b

/-- The first argument: what its look-ups and its length come to. -/
theorem open_domains {enc : TypeId × Value → H} {W : World} {a : Option Nat} {d : DataW H} {p : List MemPlace} (h : DataW.Trod enc Try.prog W 0 (fun _ => true) true 22 (.map a) d p) :
    ∃ dom c, (∀ wx, Below W.heap.size W wx → LookD wx a dom) ∧ ∀ ty, (Builtin.len_ #[22] ty #[.map a]).run Try.prog W = .ok (.int .i64 ((c : Nat) : Int)) W := by
  obtain ⟨fuel, hf⟩ := h
  rcases WideElems.open_map Try.underlying22 hf with ⟨hcs, _⟩ | ⟨bm, es, clock, m, rfl, hcs, hb, _, F, _⟩
  · simp [Value.cells] at hcs
    subst hcs
    refine ⟨fun _ => false, 0, fun wx _ s hs => ?_, fun ty => ?_⟩
    · have := Maps.look_nil (w := wx) false law9 Try.underlying22 (zero4 wx) (keyk Try.underlying9 hs)
      simpa using this
    · simp [Builtin.len_, run_underlying Try.underlying22, goInt]
  · simp [Value.cells] at hcs
    subst hcs
    have hown := World.ownsMap_of_fit (R := plainElem Try.prog 4) hb F (fun x _ z hz => elem_bool hz)
    obtain ⟨dom, hd⟩ := look_dom hown
    exact ⟨dom, _, hd, fun ty => hown.len Try.underlying22 ty⟩

/-- The second argument. -/
theorem open_holders {enc : TypeId × Value → H} {W : World} {a : Option Nat} {d : DataW H} {p : List MemPlace} (h : DataW.Trod enc Try.prog W 0 (fun _ => true) true 23 (.map a) d p) :
    ∃ hold c, (∀ wx, Below W.heap.size W wx → LookH wx a hold) ∧ ∀ ty, (Builtin.len_ #[23] ty #[.map a]).run Try.prog W = .ok (.int .i64 ((c : Nat) : Int)) W := by
  obtain ⟨fuel, hf⟩ := h
  rcases WideElems.open_map Try.underlying23 hf with ⟨hcs, _⟩ | ⟨bm, es, clock, m, rfl, hcs, hb, _, F, _⟩
  · simp [Value.cells] at hcs
    subst hcs
    refine ⟨fun _ => ByteArray.empty, 0, fun wx _ s hs => ?_, fun ty => ?_⟩
    · have := Maps.look_nil (w := wx) false law9 Try.underlying23 (zero9 wx) (keyk Try.underlying9 hs)
      simpa using this
    · simp [Builtin.len_, run_underlying Try.underlying23, goInt]
  · simp [Value.cells] at hcs
    subst hcs
    have hown := World.ownsMap_of_fit (R := plainElem Try.prog 9) hb F (fun x _ z hz => elemAt_plainElem_string Try.underlying9 hz)
    obtain ⟨hold, hd⟩ := look_hold hown
    exact ⟨hold, _, hd, fun ty => hown.len Try.underlying23 ty⟩
end
end Go.Proofs.Qxb6601388a
