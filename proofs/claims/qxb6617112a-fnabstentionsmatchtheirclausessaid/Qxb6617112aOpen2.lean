/-
  FROM AN ARGUMENT AS THE ROW READS IT TO WHAT THE WALKS ARE TOLD: '[][]string'.
-/
import Derived.Test.Qxb6617112aOpen
import Derived.Test.Qxb6617112aInted
namespace Go.Proofs.Qxb6617112a.Base
open Go.ChangeShapes Go.WideShapes Go.ChangeAt Go.RowKit

section
variable {H : Type} {enc : TypeId × Value → H} {w : World} {base : Nat} {held : Bool}

/-- A '[][]string' that is read: its rows' strings. -/
theorem rws_of_trod {t e q : TypeId} {fuel : Nat} {a : Option Addr} {len cap : Nat} {x : DataW H × List MemPlace} (ht : Try.prog.underlying t = some (.slice e)) (he : Try.prog.underlying e = some (.slice q)) (hq : Try.prog.underlying q = some .string)
    (ce : Try.prog.cellsOf e = 1) (cq : Try.prog.cellsOf q = 1)
    (h : DataW.trod enc Try.prog w base (fun _ => true) held fuel t [.slice a len cap] = some x) : ∃ Ps : List (List ByteArray), Ps.length = len ∧ Ps.length ≤ maxLen ∧ Rws w a Ps := by
  rcases Deep.open_slice1 ht ce h with ⟨hcs, _⟩ | ⟨ad, l, c, m, n, V, D, Pl, hcs, _, hl, hm, hmm, _, hx⟩
  · simp at hcs
    obtain ⟨rfl, rfl, rfl⟩ := hcs
    exact ⟨[], rfl, Nat.zero_le _, fun k P hP => by simp at hP⟩
  · simp at hcs
    obtain ⟨rfl, rfl, rfl⟩ := hcs
    simp only [if_true] at hmm
    have each : ∀ i, i < len → ∃ P : List ByteArray, ∃ pv pc, V i = .slice pv P.length pc ∧ Strs w pv P ∧ P.length ≤ maxLen := fun i hi => by
      have h2 := (hx i (by omega)).2
      have shape : ∃ pv pl pc, V i = .slice pv pl pc := by
        rcases open_strings he hq cq h2 with ⟨hcs, _⟩ | ⟨x, l, c, ss, hcs, _⟩
        · simp at hcs; exact ⟨_, _, _, hcs⟩
        · simp at hcs; exact ⟨_, _, _, hcs⟩
      obtain ⟨pv, pl, pc, hV⟩ := shape
      rw [hV] at h2
      obtain ⟨P, hP, hPm, hS⟩ := strs_of_trod he hq cq h2
      exact ⟨P, pv, pc, by rw [hP]; exact hV, hS, hPm⟩
    obtain ⟨F, hF⟩ := Deep.choose_lt each
    refine ⟨(List.range len).map F, by simp, by simp; omega, fun k P hP => ?_⟩
    rw [List.getElem?_map] at hP
    have hk : k < len := by
      by_cases hk : k < len
      · exact hk
      · rw [List.getElem?_eq_none (by simp; omega)] at hP; cases hP
    rw [List.getElem?_range hk] at hP
    cases hP
    obtain ⟨pv, pc, hV, hS, hPm⟩ := hF k hk
    have hc := (hx k (by omega)).1
    rw [hV] at hc
    obtain ⟨b, off, spot⟩ := ad
    have hspot : spot = none := by simpa [Addr.add] using World.cell?_spot (hx 0 (by omega)).1
    subst hspot
    exact ⟨b, off, pv, pc, rfl, by rw [← add_plain]; exact hc, hS, hPm⟩

end
end Go.Proofs.Qxb6617112a.Base
