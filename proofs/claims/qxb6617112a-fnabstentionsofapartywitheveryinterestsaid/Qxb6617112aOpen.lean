/-
  FROM AN ARGUMENT AS THE ROW READS IT TO WHAT THE WALKS ARE TOLD: '[]string'.
-/
import Derived.Test.Qxb6617112aBase
import Derived.OpenShut
import Derived.ShutString
import Derived.ChangeOld
import Derived.Below
import Derived.Deep.Slices
namespace Go.Proofs.Qxb6617112a.Base
open Go.ChangeShapes Go.WideShapes Go.ChangeAt Go.RowKit

theorem own : ownKnob Try.prog.godebug = none := by kernel_rfl
theorem laidOut : laidOutB Try.prog = true := by kernel_rfl

section
variable {H : Type} {enc : TypeId × Value → H} {w : World} {base : Nat} {spare : Nat → Bool} {held : Bool}

/-- A '[]string' that is read: its strings. -/
theorem strs_of_trod {t e : TypeId} {fuel : Nat} {a : Option Addr} {len cap : Nat} {x : DataW H × List MemPlace} (ht : Try.prog.underlying t = some (.slice e)) (he : Try.prog.underlying e = some .string) (hc : Try.prog.cellsOf e = 1)
    (h : DataW.trod enc Try.prog w base spare held fuel t [.slice a len cap] = some x) : ∃ S : List ByteArray, S.length = len ∧ S.length ≤ maxLen ∧ Strs w a S := by
  rcases open_strings ht he hc h with ⟨hcs, _⟩ | ⟨x, l, c, ss, hcs, _, hl, hm, hz, _, hcell, hwz⟩
  · simp at hcs
    obtain ⟨rfl, rfl, rfl⟩ := hcs
    exact ⟨[], rfl, Nat.zero_le _, fun k s hs => by simp at hs⟩
  · simp at hcs
    obtain ⟨rfl, rfl, rfl⟩ := hcs
    have hle : len ≤ ss.length := by rw [hz]; split <;> omega
    refine ⟨ss.take len, by simp; omega, by simp; omega, fun k s hs => ?_⟩
    rw [List.getElem?_take] at hs
    split at hs
    · rename_i hk
      have hc := hcell k (by omega)
      have e : ss.getD k ByteArray.empty = s := by rw [List.getD_eq_getElem?_getD, hs]; rfl
      rw [e] at hc
      obtain ⟨b, off, spot⟩ := x
      have hspot : spot = none := by simpa [Addr.add] using World.cell?_spot (hcell 0 (by omega))
      subst hspot
      exact ⟨b, off, rfl, by rw [← add_plain]; exact hc⟩
    · cases hs

end
end Go.Proofs.Qxb6617112a.Base
