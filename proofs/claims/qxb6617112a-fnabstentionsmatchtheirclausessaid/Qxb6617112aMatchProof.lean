/-
  'Rows.FnAbstentionsMatchTheirClausesSaid', PROVED, after the guide's shells.
-/
import Derived.Test.Qxb6617112aRows
import Derived.Test.Qxb6617112aMatch
import Derived.Test.Qxb6617112aOpen2
namespace Go.Proofs.Qxb6617112a.fnAbstentionsMatchTheirClauses
open Go.ChangeShapes Go.WideShapes Go.ChangeAt Go.RowKit
open Go.ChangeMaps (open_string shut_string)
open Go.Proofs.Qxb6617112a.Base
set_option linter.unusedVariables false

set_option maxRecDepth 100000 in
theorem lifted (os : Os) (started : os.Started) (H : Type) (enc : TypeId × Value → H) :
    ReturnsInHanded {} Try.checked os 5 .any (Rows.fnAbstentionsMatchTheirClausesSpec.pre6 enc Try.prog Try.f5 Rows.fnAbstentionsMatchTheirClausesRow.domain false) (Rows.fnAbstentionsMatchTheirClausesSpec.post enc Try.prog Try.f5 false true false false) := by
  refine returnsInHanded_of_change (C := Try.checked) own started (by kernel_rfl) Try.func5
    (ChangeSpec.witness6 (enc := enc) (C := Try.checked) false ⟨#[], #[.slice none 0 0, .slice none 0 0, .slice none 0 0, .slice none 0 0], []⟩ 8 (by kernel_rfl) (by kernel_rfl) (by kernel_rfl) (by kernel_rfl)) ?_
  intro W base args ds gs before hval0 hW hcnd _
  have hval : ∀ (j : Nat) t v, Try.f5.params[j]? = some t → args[j]? = some v → Value.okWide Try.prog W .any base t v := hval0
  have hW' := hW
  obtain ⟨p, q, hA0, hV, rfl, hfz, hnd⟩ := hW
  have hA : DataW.TrodAll enc Try.prog W 0 (fun _ => true) true Try.f5.params.toList args.toList ds p := hA0
  rw [Try.params5] at hA hval
  obtain ⟨v0, vs0, d0, ds0, p0, q0, hargs, rfl, rfl, h0, r0⟩ := trodAll_cons hA
  obtain ⟨v1, vs1, d1, ds1, p1, q1, rfl, rfl, rfl, h1, r1⟩ := trodAll_cons r0
  obtain ⟨v2, vs2, d2, ds2, p2, q2, rfl, rfl, rfl, h2, r2⟩ := trodAll_cons r1
  obtain ⟨v3, vs3, d3, ds3, p3, q3, rfl, rfl, rfl, h3, r3⟩ := trodAll_cons r2
  obtain ⟨rfl, rfl, rfl⟩ := trodAll_nil r3
  obtain rfl : args = #[v0, v1, v2, v3] := by cases args; simp_all
  obtain ⟨rfl, rfl⟩ := trodVars_none hV
  have k0 := h0
  have lt0 : ∀ x ∈ p0, x.block < W.heap.size := by obtain ⟨m, hm⟩ := k0; exact DataW.trod_lt m _ _ _ hm
  obtain ⟨a0, len0, cap0, rfl⟩ := okWide_slice Try.underlying23 (hval 0 23 v0 rfl rfl)
  obtain ⟨S0, rfl, m0, w0⟩ : ∃ S : List ByteArray, S.length = len0 ∧ S.length ≤ maxLen ∧ Strs W a0 S := by
    obtain ⟨fuel, hf⟩ := h0
    exact strs_of_trod Try.underlying23 Try.underlying9 (by kernel_rfl) (by simpa [Value.cells] using hf)
  have k1 := h1
  have lt1 : ∀ x ∈ p1, x.block < W.heap.size := by obtain ⟨m, hm⟩ := k1; exact DataW.trod_lt m _ _ _ hm
  obtain ⟨a1, len1, cap1, rfl⟩ := okWide_slice Try.underlying31 (hval 1 31 v1 rfl rfl)
  obtain ⟨S1, rfl, m1, w1⟩ : ∃ Ps : List (List ByteArray), Ps.length = len1 ∧ Ps.length ≤ maxLen ∧ Rws W a1 Ps := by
    obtain ⟨fuel, hf⟩ := h1
    exact rws_of_trod Try.underlying31 Try.underlying23 Try.underlying9 (by kernel_rfl) (by kernel_rfl) (by simpa [Value.cells] using hf)
  have k2 := h2
  have lt2 : ∀ x ∈ p2, x.block < W.heap.size := by obtain ⟨m, hm⟩ := k2; exact DataW.trod_lt m _ _ _ hm
  obtain ⟨a2, len2, cap2, rfl⟩ := okWide_slice Try.underlying23 (hval 2 23 v2 rfl rfl)
  obtain ⟨S2, rfl, m2, w2⟩ : ∃ S : List ByteArray, S.length = len2 ∧ S.length ≤ maxLen ∧ Strs W a2 S := by
    obtain ⟨fuel, hf⟩ := h2
    exact strs_of_trod Try.underlying23 Try.underlying9 (by kernel_rfl) (by simpa [Value.cells] using hf)
  have k3 := h3
  have lt3 : ∀ x ∈ p3, x.block < W.heap.size := by obtain ⟨m, hm⟩ := k3; exact DataW.trod_lt m _ _ _ hm
  obtain ⟨a3, len3, cap3, rfl⟩ := okWide_slice Try.underlying23 (hval 3 23 v3 rfl rfl)
  obtain ⟨S3, rfl, m3, w3⟩ : ∃ S : List ByteArray, S.length = len3 ∧ S.length ≤ maxLen ∧ Strs W a3 S := by
    obtain ⟨fuel, hf⟩ := h3
    exact strs_of_trod Try.underlying23 Try.underlying9 (by kernel_rfl) (by simpa [Value.cells] using hf)
  clear hA0 hval0
  refine (walk5 a0 a1 a2 a3 cap0 cap1 cap2 cap3 S0 S1 S2 S3 W w0 w1 w2 w3 m0 m2 m3).mono fun e W' ⟨he, bel⟩ => ?_
  subst he
  exact ⟨_, rfl, _, _, _, [], _, [], hW', trodAll_mk1 (shut_bool Try.underlying4 _), (trodAll_cons_mk (Below.trod laidOut (by kernel_rfl) (of_decide_eq_true (by kernel_rfl)) k0 bel lt0) (trodAll_cons_mk (Below.trod laidOut (by kernel_rfl) (of_decide_eq_true (by kernel_rfl)) k1 bel lt1) (trodAll_cons_mk (Below.trod laidOut (by kernel_rfl) (of_decide_eq_true (by kernel_rfl)) k2 bel lt2) (trodAll_cons_mk (Below.trod laidOut (by kernel_rfl) (of_decide_eq_true (by kernel_rfl)) k3 bel lt3) trodAll_mk0)))), rfl, bel.frame _, fun h => by cases h⟩

theorem over : Rows.fnAbstentionsMatchTheirClausesRow.holds Try.pinned (OpenSpec.ofChange Rows.fnAbstentionsMatchTheirClausesSpec) :=
  OpenClaim.holds_of_wide 5 Try.f5 rfl rfl rfl rfl rfl rfl rfl ⟨rfl, rfl, rfl, rfl, rfl⟩ rfl rfl rfl rfl rfl (by kernel_rfl) Try.func5 (by kernel_rfl)
    (of_decide_eq_true (by kernel_rfl)) (by unfold Func.isWrapper; first | (rw [if_pos (by decide +kernel)]; kernel_rfl) | (rw [if_neg (by decide +kernel)]; exact ⟨rfl, rfl⟩))
    (fun os started H enc _ => lifted os started H enc)

/-- THE STATEMENT -/
theorem proved : Rows.FnAbstentionsMatchTheirClausesSaid := over
#print axioms proved
end Go.Proofs.Qxb6617112a.fnAbstentionsMatchTheirClauses
