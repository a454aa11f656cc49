/-
  PLAIN LAWS on 'arts' (no Go in sight): its entries' first clauses strictly increase; every article of a clause whose interest the party has is listed.
-/
import Derived.Test.Qxb6617112aOnce
namespace Go.Proofs.Qxb6617112a.Base

/-- The clause has article a, and its interest is among 'has'. -/
def matchB (a : ByteArray) (has : List ByteArray) (p : ByteArray × ByteArray) : Bool := (p.2.toList == a.toList) && hasB has p.1

/-- The least index of such a clause. -/
def fst? (a : ByteArray) (has : List ByteArray) (C : List (ByteArray × ByteArray)) : Option Nat := C.findIdx? (matchB a has)

/-- What zzFirstMatch answers. -/
def fmI (a : ByteArray) (has : List ByteArray) (C : List (ByteArray × ByteArray)) : Int := match fst? a has C with | some j => (j : Int) | none => -1

theorem arts_append (P : List ByteArray) (C : List (ByteArray × ByteArray)) (p : ByteArray × ByteArray) : arts P (C ++ [p]) = artStep P (arts P C) p := by simp [arts]

theorem hasB_append (L : List ByteArray) (t u : ByteArray) : hasB (L ++ [t]) u = (hasB L u || (t.toList == u.toList)) := by simp [hasB]

/-- Membership goes by the bytes. -/
theorem hasB_congr (L : List ByteArray) {t u : ByteArray} (h : (t.toList == u.toList) = true) : hasB L t = hasB L u := by
  have e : t.toList = u.toList := by simpa using h
  simp [hasB, e]

theorem hasB_once_self (L : List ByteArray) (t : ByteArray) : hasB (once L t) t = true := by
  unfold once
  by_cases h : hasB L t = true
  · rw [if_pos h]; exact h
  · rw [if_neg h, hasB_append]; simp

theorem hasB_once_mono (L : List ByteArray) (t u : ByteArray) (h : hasB L u = true) : hasB (once L t) u = true := by
  unfold once
  split
  · exact h
  · rw [hasB_append, h]; rfl

theorem hasB_step_mono (P L : List ByteArray) (p : ByteArray × ByteArray) (u : ByteArray) (h : hasB L u = true) : hasB (artStep P L p) u = true := by
  unfold artStep
  split
  · exact hasB_once_mono L p.2 u h
  · exact h

structure FitS (P : List ByteArray) (C : List (ByteArray × ByteArray)) (L : List ByteArray) : Prop where
  found : ∀ (k : Nat) (t : ByteArray), L[k]? = some t → ∃ j : Nat, fst? t P C = some j
  mono : ∀ (k k' : Nat) (t t' : ByteArray) (j j' : Nat), k < k' → L[k]? = some t → L[k']? = some t' → fst? t P C = some j → fst? t' P C = some j' → j < j'
  all : ∀ p ∈ C, hasB P p.1 = true → hasB L p.2 = true

theorem fst_append_old {a : ByteArray} {P : List ByteArray} {C : List (ByteArray × ByteArray)} {j : Nat} (p : ByteArray × ByteArray) (h : fst? a P C = some j) : fst? a P (C ++ [p]) = some j := by
  unfold fst? at *
  rw [List.findIdx?_append, h]; rfl

theorem fst_lt {a : ByteArray} {P : List ByteArray} {C : List (ByteArray × ByteArray)} {j : Nat} (h : fst? a P C = some j) : j < C.length := by
  unfold fst? at h
  exact (List.findIdx?_eq_some_iff_getElem.1 h).1

theorem fst_append_new {P : List ByteArray} {C : List (ByteArray × ByteArray)} {L : List ByteArray} (h : FitS P C L) (p : ByteArray × ByteArray) (hp : hasB P p.1 = true) (hno : hasB L p.2 = false) : fst? p.2 P (C ++ [p]) = some C.length := by
  have hn : fst? p.2 P C = none := by
    unfold fst?
    rw [List.findIdx?_eq_none_iff]
    intro q hq
    by_cases hm : matchB p.2 P q = true
    · exfalso
      unfold matchB at hm
      rw [Bool.and_eq_true] at hm
      have h1 := h.all q hq hm.2
      rw [hasB_congr L hm.1, hno] at h1
      cases h1
    · simpa using hm
  unfold fst? at *
  rw [List.findIdx?_append, hn]
  simp [matchB, hp]

theorem fit_arts (P : List ByteArray) (C : List (ByteArray × ByteArray)) : FitS P C (arts P C) := by
  have key : ∀ D : List (ByteArray × ByteArray), FitS P D.reverse (arts P D.reverse) := by
    intro D
    induction D with
    | nil => exact ⟨fun k t h => by simp [arts] at h, fun k k' t t' j j' _ h => by simp [arts] at h, fun p hp => by simp at hp⟩
    | cons p D ih =>
      rw [List.reverse_cons, arts_append]
      generalize D.reverse = C at *
      generalize arts P C = L at *
      by_cases hp : hasB P p.1 = true
      · by_cases hL : hasB L p.2 = true
        · have e : artStep P L p = L := by simp [artStep, once, hp, hL]
          rw [e]
          refine ⟨fun k t hk => ?_, fun k k' t t' j j' hkk hk hk' hj hj' => ?_, fun q hq hq' => ?_⟩
          · obtain ⟨j, hj⟩ := ih.found k t hk
            exact ⟨j, fst_append_old p hj⟩
          · obtain ⟨i, hi⟩ := ih.found k t hk
            obtain ⟨i', hi'⟩ := ih.found k' t' hk'
            rw [fst_append_old p hi] at hj; rw [fst_append_old p hi'] at hj'
            cases hj; cases hj'
            exact ih.mono k k' t t' _ _ hkk hk hk' hi hi'
          · rcases List.mem_append.1 hq with hq | hq
            · exact ih.all q hq hq'
            · simp at hq; subst hq; exact hL
        · have hLf : hasB L p.2 = false := by simpa using hL
          have e : artStep P L p = L ++ [p.2] := by simp [artStep, once, hp, hLf]
          rw [e]
          have hnew := fst_append_new ih p hp hLf
          have split : ∀ k t, (L ++ [p.2])[k]? = some t → (k < L.length ∧ L[k]? = some t) ∨ (k = L.length ∧ t = p.2) := by
            intro k t hk
            by_cases hlt : k < L.length
            · rw [List.getElem?_append_left hlt] at hk; exact .inl ⟨hlt, hk⟩
            · rw [List.getElem?_append_right (by omega)] at hk
              have h0 : k - L.length = 0 := by
                by_cases h0 : k - L.length = 0
                · exact h0
                · rw [List.getElem?_eq_none (by simp; omega)] at hk; cases hk
              rw [h0] at hk
              simp at hk
              exact .inr ⟨by omega, hk.symm⟩
          refine ⟨fun k t hk => ?_, fun k k' t t' j j' hkk hk hk' hj hj' => ?_, fun q hq hq' => ?_⟩
          · rcases split k t hk with ⟨_, h1⟩ | ⟨_, rfl⟩
            · obtain ⟨j, hj⟩ := ih.found k t h1
              exact ⟨j, fst_append_old p hj⟩
            · exact ⟨_, hnew⟩
          · rcases split k t hk with ⟨hlt, h1⟩ | ⟨he, _⟩
            · obtain ⟨i, hi⟩ := ih.found k t h1
              rw [fst_append_old p hi] at hj
              cases hj
              rcases split k' t' hk' with ⟨_, h1'⟩ | ⟨_, rfl⟩
              · obtain ⟨i', hi'⟩ := ih.found k' t' h1'
                rw [fst_append_old p hi'] at hj'
                cases hj'
                exact ih.mono k k' t t' _ _ hkk h1 h1' hi hi'
              · rw [hnew] at hj'
                cases hj'
                exact fst_lt hi
            · rcases split k' t' hk' with ⟨hlt, _⟩ | ⟨he', _⟩
              · omega
              · omega
          · rcases List.mem_append.1 hq with hq | hq
            · rw [hasB_append, ih.all q hq hq']; rfl
            · simp at hq; subst hq; rw [hasB_append]; simp
      · have e : artStep P L p = L := by simp [artStep, hp]
        rw [e]
        refine ⟨fun k t hk => ?_, fun k k' t t' j j' hkk hk hk' hj hj' => ?_, fun q hq hq' => ?_⟩
        · obtain ⟨j, hj⟩ := ih.found k t hk
          exact ⟨j, fst_append_old p hj⟩
        · obtain ⟨i, hi⟩ := ih.found k t hk
          obtain ⟨i', hi'⟩ := ih.found k' t' hk'
          rw [fst_append_old p hi] at hj; rw [fst_append_old p hi'] at hj'
          cases hj; cases hj'
          exact ih.mono k k' t t' _ _ hkk hk hk' hi hi'
        · rcases List.mem_append.1 hq with hq | hq
          · exact ih.all q hq hq'
          · simp at hq; subst hq; exact absurd hq' hp
  have := key C.reverse
  rwa [List.reverse_reverse] at this

end Go.Proofs.Qxb6617112a.Base
