/-
  A PROOF OF 'Rows.FnPageTableCellsFollowTheirColumnSaid': the frame after the guide's shell, at five parameters; the walk lies in Qxb6000897aPtFollow.
-/
import Derived.Test.Qxb6000897aPtFollow
import Derived.Test.Qxb6000897aOpen
import Derived.WalkKit
import Derived.ProofKit
import Derived.OpenShut
import Derived.ShutString
import Derived.ChangeOld
import Derived.Below
namespace Go.Proofs.Qxb6000897a.fnPageTableCellsFollowTheirColumn
open Go.ChangeShapes Go.WideShapes Go.ChangeAt Go.RowKit
open Go.ChangeMaps (open_string shut_string)
set_option linter.unusedVariables false

theorem own : ownKnob Try.prog.godebug = none := by kernel_rfl
theorem laidOut : laidOutB Try.prog = true := by kernel_rfl
theorem cells9 : Try.prog.cellsOf 9 = 1 := by kernel_rfl
theorem cells4 : Try.prog.cellsOf 4 = 1 := by kernel_rfl
theorem cells28 : Try.prog.cellsOf 28 = 1 := by kernel_rfl

set_option maxRecDepth 100000 in
theorem lifted (os : Os) (started : os.Started) (H : Type) (enc : TypeId × Value → H) :
    ReturnsInHanded {} Try.checked os 6 .any (Rows.fnPageTableCellsFollowTheirColumnSpec.pre6 enc Try.prog Try.f6 Rows.fnPageTableCellsFollowTheirColumnRow.domain false) (Rows.fnPageTableCellsFollowTheirColumnSpec.post enc Try.prog Try.f6 false true false false) := by
  refine returnsInHanded_of_change (C := Try.checked) own started (by kernel_rfl) Try.func6
    (ChangeSpec.witness6 (enc := enc) (C := Try.checked) false ⟨#[], #[.string ByteArray.empty, .slice none 0 0, .slice none 0 0, .slice none 0 0, .slice none 0 0], []⟩ 8 (by kernel_rfl) (by kernel_rfl) (by kernel_rfl) (by kernel_rfl)) ?_
  intro W base args ds gs before hval0 hW hcnd _
  have hval : ∀ (j : Nat) t v, Try.f6.params[j]? = some t → args[j]? = some v → Value.okWide Try.prog W .any base t v := hval0
  have hW' := hW
  obtain ⟨p, q, hA0, hV, rfl, hfz, hnd⟩ := hW
  have hA : DataW.TrodAll enc Try.prog W 0 (fun _ => true) true Try.f6.params.toList args.toList ds p := hA0
  rw [Try.params6] at hA hval
  obtain ⟨v0, vs0, d0, ds0, p0, q0, hargs, rfl, rfl, h0, r0⟩ := trodAll_cons hA
  obtain ⟨v1, vs1, d1, ds1, p1, q1, rfl, rfl, rfl, h1, r1⟩ := trodAll_cons r0
  obtain ⟨v2, vs2, d2, ds2, p2, q2, rfl, rfl, rfl, h2, r2⟩ := trodAll_cons r1
  obtain ⟨v3, vs3, d3, ds3, p3, q3, rfl, rfl, rfl, h3, r3⟩ := trodAll_cons r2
  obtain ⟨v4, vs4, d4, ds4, p4, q4, rfl, rfl, rfl, h4, r4⟩ := trodAll_cons r3
  obtain ⟨rfl, rfl, rfl⟩ := trodAll_nil r4
  obtain rfl : args = #[v0, v1, v2, v3, v4] := by cases args; simp_all
  obtain ⟨rfl, rfl⟩ := trodVars_none hV
  obtain ⟨s0, rfl, rfl, rfl, w0⟩ := open_string Try.underlying9 (hval 0 9 v0 rfl rfl) h0
  obtain ⟨a1, n1, c1, rfl⟩ := okWide_slice Try.underlying28 (hval 1 28 v1 rfl rfl)
  obtain ⟨a2, n2, c2, rfl⟩ := okWide_slice Try.underlying28 (hval 2 28 v2 rfl rfl)
  obtain ⟨a3, n3, c3, rfl⟩ := okWide_slice Try.underlying29 (hval 3 29 v3 rfl rfl)
  obtain ⟨a4, n4, c4, rfl⟩ := okWide_slice Try.underlying30 (hval 4 30 v4 rfl rfl)
  have lt1 : ∀ x ∈ p1, x.block < W.heap.size := by obtain ⟨m, hm⟩ := h1; exact DataW.trod_lt m _ _ _ hm
  have lt2 : ∀ x ∈ p2, x.block < W.heap.size := by obtain ⟨m, hm⟩ := h2; exact DataW.trod_lt m _ _ _ hm
  have lt3 : ∀ x ∈ p3, x.block < W.heap.size := by obtain ⟨m, hm⟩ := h3; exact DataW.trod_lt m _ _ _ hm
  have lt4 : ∀ x ∈ p4, x.block < W.heap.size := by obtain ⟨m, hm⟩ := h4; exact DataW.trod_lt m _ _ _ hm
  obtain ⟨ns, s1, l1, _⟩ : ∃ zs : List ByteArray, Sl Value.string W W.heap.size (.slice a1 n1 c1) zs ∧ zs.length ≤ maxLen ∧ ∀ (i : Nat) z, zs[i]? = some z → z.size ≤ maxLen := by
    obtain ⟨fuel, hf⟩ := h1
    exact sl_strings Try.underlying28 cells9 Try.underlying9 (by simpa [Value.cells] using hf)
  obtain ⟨ts, s2, l2, _⟩ : ∃ zs : List ByteArray, Sl Value.string W W.heap.size (.slice a2 n2 c2) zs ∧ zs.length ≤ maxLen ∧ ∀ (i : Nat) z, zs[i]? = some z → z.size ≤ maxLen := by
    obtain ⟨fuel, hf⟩ := h2
    exact sl_strings Try.underlying28 cells9 Try.underlying9 (by simpa [Value.cells] using hf)
  obtain ⟨bs, s3, l3⟩ : ∃ zs : List Bool, Sl Value.bool W W.heap.size (.slice a3 n3 c3) zs ∧ zs.length ≤ maxLen := by
    obtain ⟨fuel, hf⟩ := h3
    exact sl_bools Try.underlying29 cells4 Try.underlying4 (by simpa [Value.cells] using hf)
  obtain ⟨rss, s4, l4, l5⟩ : ∃ zss : List (List ByteArray), Sl2 Value.string W W.heap.size (.slice a4 n4 c4) zss ∧ zss.length ≤ maxLen ∧ ∀ (i : Nat) zs, zss[i]? = some zs → zs.length ≤ maxLen := by
    obtain ⟨fuel, hf⟩ := h4
    exact sl2_strings Try.underlying30 cells28 Try.underlying28 cells9 Try.underlying9 (by simpa [Value.cells] using hf)
  clear hA0 hval0
  refine (law6 s0 _ _ _ _ ns ts bs rss W s1 s2 s3 s4 w0 l1 l2 l3 l4 l5).mono fun e W' ⟨he, bel⟩ => ?_
  subst he
  exact ⟨_, rfl, _, _, _, [], _, [], hW', trodAll_mk1 (shut_bool Try.underlying4 _), (trodAll_cons_mk (shut_string Try.underlying9 w0) (trodAll_cons_mk (Below.trod laidOut (by kernel_rfl) (of_decide_eq_true (by kernel_rfl)) h1 bel lt1) (trodAll_cons_mk (Below.trod laidOut (by kernel_rfl) (of_decide_eq_true (by kernel_rfl)) h2 bel lt2) (trodAll_cons_mk (Below.trod laidOut (by kernel_rfl) (of_decide_eq_true (by kernel_rfl)) h3 bel lt3) (trodAll_cons_mk (Below.trod laidOut (by kernel_rfl) (of_decide_eq_true (by kernel_rfl)) h4 bel lt4) trodAll_mk0))))), rfl, bel.frame _, fun h => by cases h⟩

theorem over : Rows.fnPageTableCellsFollowTheirColumnRow.holds Try.pinned (OpenSpec.ofChange Rows.fnPageTableCellsFollowTheirColumnSpec) :=
  OpenClaim.holds_of_wide 6 Try.f6 rfl rfl rfl rfl rfl rfl rfl ⟨rfl, rfl, rfl, rfl, rfl⟩ rfl rfl rfl rfl rfl (by kernel_rfl) Try.func6 (by kernel_rfl)
    (of_decide_eq_true (by kernel_rfl)) (by unfold Func.isWrapper; first | (rw [if_pos (by decide +kernel)]; kernel_rfl) | (rw [if_neg (by decide +kernel)]; exact ⟨rfl, rfl⟩))
    (fun os started H enc _ => lifted os started H enc)

/-- ████ THE STATEMENT ████ -/
theorem proved : Rows.FnPageTableCellsFollowTheirColumnSaid := over
#print axioms proved
end Go.Proofs.Qxb6000897a.fnPageTableCellsFollowTheirColumn
