/-
  FROM AN ARGUMENT AS THE ROW READS IT TO WHAT THE WALKS ARE TOLD: '[]uint64'.
-/
import Derived.Test.Qxb6617139aNums
import Derived.OpenShut
import Derived.ShutString
import Derived.ChangeOld
import Derived.Below
namespace Go.Proofs.Qxb6617139a.Nums
open Go.ChangeShapes Go.WideShapes Go.ChangeAt Go.RowKit

theorem own : ownKnob Try.prog.godebug = none := by kernel_rfl
theorem laidOut : laidOutB Try.prog = true := by kernel_rfl

section
variable {H : Type} {enc : TypeId × Value → H} {w : World} {base : Nat} {spare : Nat → Bool} {held : Bool}

/-- A '[]uint64' that is read: its numbers, none negative. -/
theorem nums_of_trod {t : TypeId} {fuel : Nat} {a : Option Addr} {len cap : Nat} {x : DataW H × List MemPlace} (ht : Try.prog.underlying t = some (.slice 39))
    (h : DataW.trod enc Try.prog w base spare held fuel t [.slice a len cap] = some x) : ∃ Z : List Int, Z.length = len ∧ Nums w a Z ∧ ∀ z ∈ Z, 0 ≤ z := by
  rcases open_ints ht Try.underlying39 (by kernel_rfl) h with ⟨hcs, _⟩ | ⟨x, l, c, zs, hcs, _, hl, hm, hz, _, hcell, hwz⟩
  · simp at hcs
    obtain ⟨rfl, rfl, rfl⟩ := hcs
    exact ⟨[], rfl, (fun k s hs => by simp at hs), by simp⟩
  · simp at hcs
    obtain ⟨rfl, rfl, rfl⟩ := hcs
    have hle : len ≤ zs.length := by rw [hz]; split <;> omega
    refine ⟨zs.take len, by simp; omega, fun k s hs => ?_, fun z hzm => ?_⟩
    · rw [List.getElem?_take] at hs
      split at hs
      · rename_i hk
        have hc := hcell k (by omega)
        have e : zs.getD k 0 = s := by rw [List.getD_eq_getElem?_getD, hs]; rfl
        rw [e] at hc
        obtain ⟨b, off, spot⟩ := x
        have hspot : spot = none := by simpa [Addr.add] using World.cell?_spot (hcell 0 (by omega))
        subst hspot
        exact ⟨b, off, rfl, by rw [← add_plain]; exact hc⟩
      · cases hs
    · have := hwz z (List.mem_of_mem_take hzm)
      unfold Lit.wf at this
      rw [Bool.and_eq_true, decide_eq_true_eq, decide_eq_true_eq] at this
      exact this.1

end
end Go.Proofs.Qxb6617139a.Nums
