/-
  PLAIN LAWS on the articles of a party with every interest: each article of the clauses once, in the order of its first appearance.
-/
import Derived.Test.Qxb6617112aLaw
namespace Go.Proofs.Qxb6617112a.Base

/-- Each entry once, in the order of its first appearance. -/
def dd (A : List ByteArray) : List ByteArray := A.foldl once []

theorem dd_append (A : List ByteArray) (t : ByteArray) : dd (A ++ [t]) = once (dd A) t := by simp [dd]

theorem dd_snoc {A : List ByteArray} {j : Nat} {t : ByteArray} (h : A[j]? = some t) : dd (A.take (j + 1)) = once (dd (A.take j)) t := by
  rw [take_snoc h, dd_append]

theorem hasB_dd (A : List ByteArray) (u : ByteArray) : hasB (dd A) u = hasB A u := by
  have key : ∀ D : List ByteArray, hasB (dd D.reverse) u = hasB D.reverse u := by
    intro D
    induction D with
    | nil => rfl
    | cons t D ih =>
      rw [List.reverse_cons, dd_append, hasB_append, ← ih]
      generalize dd D.reverse = L
      unfold once
      by_cases h : hasB L t = true
      · rw [if_pos h]
        by_cases e : (t.toList == u.toList) = true
        · rw [← hasB_congr L e, h]; rfl
        · simp at e; simp [e]
      · rw [if_neg h, hasB_append]
  have := key A.reverse
  rwa [List.reverse_reverse] at this

theorem once_prefix (L : List ByteArray) (t : ByteArray) : L <+: once L t := by
  unfold once
  split
  · exact List.prefix_refl _
  · exact List.prefix_append _ _

theorem foldl_once_prefix (R L : List ByteArray) : L <+: R.foldl once L := by
  induction R generalizing L with
  | nil => exact List.prefix_refl _
  | cons t R ih => exact (once_prefix L t).trans (ih _)

theorem dd_prefix (A : List ByteArray) (j : Nat) : dd (A.take j) <+: dd A := by
  have e : dd A = (A.drop j).foldl once (dd (A.take j)) := by
    unfold dd
    rw [← List.foldl_append, List.take_append_drop]
  rw [e]
  exact foldl_once_prefix _ _

theorem dd_new {A : List ByteArray} {j : Nat} {t : ByteArray} (h : A[j]? = some t) (hno : hasB (A.take j) t = false) :
    dd (A.take (j + 1)) = dd (A.take j) ++ [t] ∧ (dd A)[(dd (A.take j)).length]? = some t ∧ (dd (A.take j)).length < (dd A).length := by
  have e : dd (A.take (j + 1)) = dd (A.take j) ++ [t] := by
    rw [dd_snoc h]; unfold once
    rw [hasB_dd, hno]; rfl
  have hp := dd_prefix A (j + 1)
  rw [e] at hp
  have hl := hp.length_le
  simp at hl
  obtain ⟨r, hr⟩ := hp
  refine ⟨e, ?_, by omega⟩
  rw [← hr, List.append_assoc, List.getElem?_append_right (Nat.le_refl _)]
  simp

theorem dd_old {A : List ByteArray} {j : Nat} {t : ByteArray} (h : A[j]? = some t) (hyes : hasB (A.take j) t = true) : dd (A.take (j + 1)) = dd (A.take j) := by
  rw [dd_snoc h]; unfold once
  rw [hasB_dd, hyes]; rfl

theorem dd_le (A : List ByteArray) : (dd A).length ≤ A.length := by
  have key : ∀ (R L : List ByteArray), (R.foldl once L).length ≤ L.length + R.length := by
    intro R
    induction R with
    | nil => intro L; simp
    | cons t R ih => intro L; have := ih (once L t); have := once_le L t; simp only [List.foldl_cons, List.length_cons]; omega
  simpa [dd] using key A []

theorem dd_nil (A : List ByteArray) (h : dd A = []) : A = [] := by
  cases A with
  | nil => rfl
  | cons t R =>
    exfalso
    have hp : once [] t <+: dd (t :: R) := by
      show once [] t <+: R.foldl once (once [] t)
      exact foldl_once_prefix _ _
    rw [h] at hp
    have := hp.length_le
    simp [once, hasB] at this

/-- Where every clause's interest is among the party's, the interests say nothing. -/
theorem arts_all (P : List ByteArray) (C : List (ByteArray × ByteArray)) (h : ∀ p ∈ C, hasB P p.1 = true) : arts P C = dd (C.map (·.2)) := by
  have key : ∀ (C : List (ByteArray × ByteArray)) (L : List ByteArray), (∀ p ∈ C, hasB P p.1 = true) → C.foldl (artStep P) L = (C.map (·.2)).foldl once L := by
    intro C
    induction C with
    | nil => intro L _; rfl
    | cons p C ih =>
      intro L h
      simp only [List.foldl_cons, List.map_cons]
      rw [show artStep P L p = once L p.2 by simp [artStep, h p (by simp)]]
      exact ih _ (fun q hq => h q (by simp [hq]))
  exact key C [] h

theorem arts_every (I A : List ByteArray) (hl : I.length = A.length) : arts I (I.zip A) = dd A := by
  rw [arts_all I (I.zip A) (fun p hp => ?_)]
  · rw [List.map_snd_zip (by omega)]
  · have : p.1 ∈ I := (List.of_mem_zip hp).1
    exact List.any_eq_true.2 ⟨p.1, this, by simp⟩

end Go.Proofs.Qxb6617112a.Base
