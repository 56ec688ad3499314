/-
  A PROOF OF 'Rows.FnUnrangedListsFlowPartiesSaid': the frame after the guide's shell; the walk lies in Qxb6601388aFl9.
-/
import Derived.Test.Qxb6601388aFl9
import Derived.Test.Qxb6601388aOpen
import Derived.WalkKit
import Derived.ProofKit
import Derived.OpenShut
import Derived.ShutString
import Derived.ChangeOld
import Derived.Below
namespace Go.Proofs.Qxb6601388a.fnUnrangedListsFlowParties
open Go.ChangeShapes Go.WideShapes Go.ChangeAt Go.RowKit
open Go.ChangeMaps (open_string shut_string)
set_option linter.unusedVariables false

theorem own : ownKnob Try.prog.godebug = none := by kernel_rfl
theorem laidOut : laidOutB Try.prog = true := by kernel_rfl
theorem cells9 : Try.prog.cellsOf 9 = 1 := by kernel_rfl
theorem cells43 : Try.prog.cellsOf 43 = 1 := by kernel_rfl
theorem cells3 : Try.prog.cellsOf 3 = 1 := by kernel_rfl
theorem cells4 : Try.prog.cellsOf 4 = 1 := by kernel_rfl

set_option maxRecDepth 100000 in
theorem lifted (os : Os) (started : os.Started) (H : Type) (enc : TypeId × Value → H) :
    ReturnsInHanded {} Try.checked os 6 .any (Rows.fnUnrangedListsFlowPartiesSpec.pre6 enc Try.prog Try.f6 Rows.fnUnrangedListsFlowPartiesRow.domain false) (Rows.fnUnrangedListsFlowPartiesSpec.post enc Try.prog Try.f6 false true false false) := by
  refine returnsInHanded_of_change (C := Try.checked) own started (by kernel_rfl) Try.func6
    (ChangeSpec.witness6 (enc := enc) (C := Try.checked) false ⟨#[], #[.slice none 0 0, .slice none 0 0, .slice none 0 0, .slice none 0 0], []⟩ 8 (by kernel_rfl) (by kernel_rfl) (by kernel_rfl) (by kernel_rfl)) ?_
  intro W base args ds gs before hval0 hW hcnd _
  have hval : ∀ (j : Nat) t v, Try.f6.params[j]? = some t → args[j]? = some v → Value.okWide Try.prog W .any base t v := hval0
  have hW' := hW
  obtain ⟨p, q, hA0, hV, rfl, hfz, hnd⟩ := hW
  have hA : DataW.TrodAll enc Try.prog W 0 (fun _ => true) true Try.f6.params.toList args.toList ds p := hA0
  rw [Try.params6] at hA hval
  obtain ⟨v0, vs0, d0, ds0, p0, q0, hargs, rfl, rfl, h0, r0⟩ := trodAll_cons hA
  obtain ⟨v1, vs1, d1, ds1, p1, q1, rfl, rfl, rfl, h1, r1⟩ := trodAll_cons r0
  obtain ⟨v2, vs2, d2, ds2, p2, q2, rfl, rfl, rfl, h2, r2⟩ := trodAll_cons r1
  obtain ⟨v3, vs3, d3, ds3, p3, q3, rfl, rfl, rfl, h3, r3⟩ := trodAll_cons r2
  obtain ⟨rfl, rfl, rfl⟩ := trodAll_nil r3
  obtain rfl : args = #[v0, v1, v2, v3] := by cases args; simp_all
  obtain ⟨rfl, rfl⟩ := trodVars_none hV
  obtain ⟨a0, n0, c0, rfl⟩ := okWide_slice Try.underlying24 (hval 0 24 v0 rfl rfl)
  have lt0 : ∀ x ∈ p0, x.block < W.heap.size := by obtain ⟨m, hm⟩ := h0; exact DataW.trod_lt m _ _ _ hm
  obtain ⟨x0, s0, l0, k0⟩ : ∃ zs : List ByteArray, Sl Value.string W W.heap.size (.slice a0 n0 c0) zs ∧ zs.length ≤ maxLen ∧ ∀ (i : Nat) z, zs[i]? = some z → z.size ≤ maxLen := by
    obtain ⟨fuel, hf⟩ := h0
    exact sl_strings Try.underlying24 cells9 Try.underlying9 (by simpa [Value.cells] using hf)
  obtain ⟨a1, n1, c1, rfl⟩ := okWide_slice Try.underlying31 (hval 1 31 v1 rfl rfl)
  have lt1 : ∀ x ∈ p1, x.block < W.heap.size := by obtain ⟨m, hm⟩ := h1; exact DataW.trod_lt m _ _ _ hm
  obtain ⟨x1, s1, l1, k1⟩ : ∃ zss : List (List Int), Sl2 (Value.int .i64) W W.heap.size (.slice a1 n1 c1) zss ∧ zss.length ≤ maxLen ∧ ∀ (i : Nat) zs, zss[i]? = some zs → zs.length ≤ maxLen := by
    obtain ⟨fuel, hf⟩ := h1
    exact sl2_ints Try.underlying31 cells43 Try.underlying43 cells3 Try.underlying3 (by simpa [Value.cells] using hf)
  obtain ⟨a2, n2, c2, rfl⟩ := okWide_slice Try.underlying24 (hval 2 24 v2 rfl rfl)
  have lt2 : ∀ x ∈ p2, x.block < W.heap.size := by obtain ⟨m, hm⟩ := h2; exact DataW.trod_lt m _ _ _ hm
  obtain ⟨x2, s2, l2, k2⟩ : ∃ zs : List ByteArray, Sl Value.string W W.heap.size (.slice a2 n2 c2) zs ∧ zs.length ≤ maxLen ∧ ∀ (i : Nat) z, zs[i]? = some z → z.size ≤ maxLen := by
    obtain ⟨fuel, hf⟩ := h2
    exact sl_strings Try.underlying24 cells9 Try.underlying9 (by simpa [Value.cells] using hf)
  obtain ⟨a3, n3, c3, rfl⟩ := okWide_slice Try.underlying32 (hval 3 32 v3 rfl rfl)
  have lt3 : ∀ x ∈ p3, x.block < W.heap.size := by obtain ⟨m, hm⟩ := h3; exact DataW.trod_lt m _ _ _ hm
  obtain ⟨x3, s3, l3⟩ : ∃ zs : List Bool, Sl Value.bool W W.heap.size (.slice a3 n3 c3) zs ∧ zs.length ≤ maxLen := by
    obtain ⟨fuel, hf⟩ := h3
    exact sl_bools Try.underlying32 cells4 Try.underlying4 (by simpa [Value.cells] using hf)
  clear hA0 hval0
  refine (law6 _ _ _ _ x0 x1 x2 x3 W s0 s1 s2 s3 l0 l1 l2 l3 k1 k0 k2).mono fun e W' ⟨he, bel⟩ => ?_
  subst he
  exact ⟨_, rfl, _, _, _, [], _, [], hW', trodAll_mk1 (shut_bool Try.underlying4 _), (trodAll_cons_mk (Below.trod laidOut (by kernel_rfl) (of_decide_eq_true (by kernel_rfl)) h0 bel lt0) (trodAll_cons_mk (Below.trod laidOut (by kernel_rfl) (of_decide_eq_true (by kernel_rfl)) h1 bel lt1) (trodAll_cons_mk (Below.trod laidOut (by kernel_rfl) (of_decide_eq_true (by kernel_rfl)) h2 bel lt2) (trodAll_cons_mk (Below.trod laidOut (by kernel_rfl) (of_decide_eq_true (by kernel_rfl)) h3 bel lt3) trodAll_mk0)))), rfl, bel.frame _, fun h => by cases h⟩

theorem over : Rows.fnUnrangedListsFlowPartiesRow.holds Try.pinned (OpenSpec.ofChange Rows.fnUnrangedListsFlowPartiesSpec) :=
  OpenClaim.holds_of_wide 6 Try.f6 rfl rfl rfl rfl rfl rfl rfl ⟨rfl, rfl, rfl, rfl, rfl⟩ rfl rfl rfl rfl rfl (by kernel_rfl) Try.func6 (by kernel_rfl)
    (of_decide_eq_true (by kernel_rfl)) (by unfold Func.isWrapper; first | (rw [if_pos (by decide +kernel)]; kernel_rfl) | (rw [if_neg (by decide +kernel)]; exact ⟨rfl, rfl⟩))
    (fun os started H enc _ => lifted os started H enc)

/-- ████ THE STATEMENT ████ -/
theorem proved : Rows.FnUnrangedListsFlowPartiesSaid := over
#print axioms proved
end Go.Proofs.Qxb6601388a.fnUnrangedListsFlowParties
