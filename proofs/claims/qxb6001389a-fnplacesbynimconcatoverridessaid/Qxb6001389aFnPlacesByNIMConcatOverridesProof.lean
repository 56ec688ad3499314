/-
  A PROOF OF 'Rows.FnPlacesByNIMConcatOverridesSaid': the frame after the guide's shell; the walk lies in Qxb6001389aCat.
-/
import Derived.Test.Qxb6001389aCat
import Derived.Test.Qxb6001389aOpen
import Derived.WalkKit
import Derived.ProofKit
import Derived.OpenShut
import Derived.ShutString
import Derived.ChangeOld
import Derived.Below
namespace Go.Proofs.Qxb6001389a.fnPlacesByNIMConcatOverrides
open Go.ChangeShapes Go.WideShapes Go.ChangeAt Go.RowKit
open Go.ChangeMaps (open_string shut_string)
set_option linter.unusedVariables false

theorem own : ownKnob Try.prog.godebug = none := by kernel_rfl
theorem laidOut : laidOutB Try.prog = true := by kernel_rfl
theorem cells9 : Try.prog.cellsOf 9 = 1 := by kernel_rfl
theorem cells3 : Try.prog.cellsOf 3 = 1 := by kernel_rfl

set_option maxRecDepth 100000 in
theorem lifted (os : Os) (started : os.Started) (H : Type) (enc : TypeId × Value → H) :
    ReturnsInHanded {} Try.checked os 5 .any (Rows.fnPlacesByNIMConcatOverridesSpec.pre6 enc Try.prog Try.f5 Rows.fnPlacesByNIMConcatOverridesRow.domain false) (Rows.fnPlacesByNIMConcatOverridesSpec.post enc Try.prog Try.f5 false true false false) := by
  refine returnsInHanded_of_change (C := Try.checked) own started (by kernel_rfl) Try.func5
    (ChangeSpec.witness6 (enc := enc) (C := Try.checked) false ⟨#[], #[.slice none 0 0, .slice none 0 0, .slice none 0 0], []⟩ 8 (by kernel_rfl) (by kernel_rfl) (by kernel_rfl) (by kernel_rfl)) ?_
  intro W base args ds gs before hval0 hW hcnd _
  have hval : ∀ (j : Nat) t v, Try.f5.params[j]? = some t → args[j]? = some v → Value.okWide Try.prog W .any base t v := hval0
  have hW' := hW
  obtain ⟨p, q, hA0, hV, rfl, hfz, hnd⟩ := hW
  have hA : DataW.TrodAll enc Try.prog W 0 (fun _ => true) true Try.f5.params.toList args.toList ds p := hA0
  rw [Try.params5] at hA hval
  obtain ⟨v0, vs0, d0, ds0, p0, q0, hargs, rfl, rfl, h0, r0⟩ := trodAll_cons hA
  obtain ⟨v1, vs1, d1, ds1, p1, q1, rfl, rfl, rfl, h1, r1⟩ := trodAll_cons r0
  obtain ⟨v2, vs2, d2, ds2, p2, q2, rfl, rfl, rfl, h2, r2⟩ := trodAll_cons r1
  obtain ⟨rfl, rfl, rfl⟩ := trodAll_nil r2
  obtain rfl : args = #[v0, v1, v2] := by cases args; simp_all
  obtain ⟨rfl, rfl⟩ := trodVars_none hV
  obtain ⟨a0, n0, c0, rfl⟩ := okWide_slice Try.underlying22 (hval 0 22 v0 rfl rfl)
  have lt0 : ∀ x ∈ p0, x.block < W.heap.size := by obtain ⟨m, hm⟩ := h0; exact DataW.trod_lt m _ _ _ hm
  obtain ⟨x0, s0, l0, k0⟩ : ∃ zs : List ByteArray, Sl Value.string W W.heap.size (.slice a0 n0 c0) zs ∧ zs.length ≤ maxLen ∧ ∀ (i : Nat) z, zs[i]? = some z → z.size ≤ maxLen := by
    obtain ⟨fuel, hf⟩ := h0
    exact sl_strings Try.underlying22 cells9 Try.underlying9 (by simpa [Value.cells] using hf)
  obtain ⟨a1, n1, c1, rfl⟩ := okWide_slice Try.underlying23 (hval 1 23 v1 rfl rfl)
  have lt1 : ∀ x ∈ p1, x.block < W.heap.size := by obtain ⟨m, hm⟩ := h1; exact DataW.trod_lt m _ _ _ hm
  obtain ⟨x1, s1, l1, k1⟩ : ∃ zs : List Int, Sl (Value.int .i64) W W.heap.size (.slice a1 n1 c1) zs ∧ zs.length ≤ maxLen ∧ ∀ (i : Nat) z, zs[i]? = some z → (Lit.int .i64 z).wf = true := by
    obtain ⟨fuel, hf⟩ := h1
    exact sl_ints Try.underlying23 cells3 Try.underlying3 (by simpa [Value.cells] using hf)
  obtain ⟨a2, n2, c2, rfl⟩ := okWide_slice Try.underlying23 (hval 2 23 v2 rfl rfl)
  have lt2 : ∀ x ∈ p2, x.block < W.heap.size := by obtain ⟨m, hm⟩ := h2; exact DataW.trod_lt m _ _ _ hm
  obtain ⟨x2, s2, l2, k2⟩ : ∃ zs : List Int, Sl (Value.int .i64) W W.heap.size (.slice a2 n2 c2) zs ∧ zs.length ≤ maxLen ∧ ∀ (i : Nat) z, zs[i]? = some z → (Lit.int .i64 z).wf = true := by
    obtain ⟨fuel, hf⟩ := h2
    exact sl_ints Try.underlying23 cells3 Try.underlying3 (by simpa [Value.cells] using hf)
  clear hA0 hval0
  refine (law5 _ _ _ x0 x1 x2 W s0 s1 s2 l0 l1 l2 k0).mono fun e W' ⟨he, bel⟩ => ?_
  subst he
  exact ⟨_, rfl, _, _, _, [], _, [], hW', trodAll_mk1 (shut_bool Try.underlying4 _), (trodAll_cons_mk (Below.trod laidOut (by kernel_rfl) (of_decide_eq_true (by kernel_rfl)) h0 bel lt0) (trodAll_cons_mk (Below.trod laidOut (by kernel_rfl) (of_decide_eq_true (by kernel_rfl)) h1 bel lt1) (trodAll_cons_mk (Below.trod laidOut (by kernel_rfl) (of_decide_eq_true (by kernel_rfl)) h2 bel lt2) trodAll_mk0))), rfl, bel.frame _, fun h => by cases h⟩

theorem over : Rows.fnPlacesByNIMConcatOverridesRow.holds Try.pinned (OpenSpec.ofChange Rows.fnPlacesByNIMConcatOverridesSpec) :=
  OpenClaim.holds_of_wide 5 Try.f5 rfl rfl rfl rfl rfl rfl rfl ⟨rfl, rfl, rfl, rfl, rfl⟩ rfl rfl rfl rfl rfl (by kernel_rfl) Try.func5 (by kernel_rfl)
    (of_decide_eq_true (by kernel_rfl)) (by unfold Func.isWrapper; first | (rw [if_pos (by decide +kernel)]; kernel_rfl) | (rw [if_neg (by decide +kernel)]; exact ⟨rfl, rfl⟩))
    (fun os started H enc _ => lifted os started H enc)

/-- ████ THE STATEMENT ████ -/
theorem proved : Rows.FnPlacesByNIMConcatOverridesSaid := over
#print axioms proved
end Go.Proofs.Qxb6001389a.fnPlacesByNIMConcatOverrides
