/-
  'x[:k]', 'x[k:]' of a slice whose length is its capacity, its elements two cells each: the run equations, and what the parts hold.
-/
import Derived.Test.Qxb6617112aCopy
namespace Go.Proofs.Qxb6617112a.Base
open Go.RowKit

/-- Where 'x[k:]' begins. -/
def cutA (ao : Option Addr) (n k : Nat) : Option Addr := if n = k then ao else ao.map (·.add (k * 2))

theorem run_size {e : TypeId} {z : Value} {s b : Nat} (hi : (Try.prog.info? e).map (fun i => (i.zero, i.size, i.bytes)) = some (some z, s, b)) (w : World) : (sizeOf e).run Try.prog w = .ok s w := by
  obtain ⟨i, hi, hz, hs, hb⟩ := info_parts hi
  simp [sizeOf, typeInfo, hi, hs]

theorem front26 (ao : Option Addr) (n k : Nat) (hk : k ≤ n) (w : World) :
    (Instr.slice 26 (.slice ao n n) none (some (.int .i64 k)) none).run Try.prog w = .ok (.slice ao k n) w := by
  have he : Try.prog.elem 26 = 50 := by kernel_rfl
  have h := run_slice_h (P := Try.prog) (w := w) 26 ao n n (by rw [he]; exact Try.underlying26) .i64 k (by omega) (by omega)
  rw [h, he, run_size info50]
  simp [Result.andThen, sliced]
  cases ao with
  | none => simp
  | some a => simp [Addr.add]

theorem back26 (ao : Option Addr) (n k : Nat) (hk : k ≤ n) (w : World) :
    (Instr.slice 26 (.slice ao n n) (some (.int .i64 k)) none none).run Try.prog w = .ok (.slice (cutA ao n k) (n - k) (n - k)) w := by
  have he : Try.prog.elem 26 = 50 := by kernel_rfl
  have h := run_slice_l (P := Try.prog) (w := w) 26 ao n n (by rw [he]; exact Try.underlying26) .i64 k (by omega) (by omega)
  rw [h, he, run_size info50]
  simp [Result.andThen, sliced, cutA]

theorem cutA_some (b off n k : Nat) (h : k < n) : cutA (some ⟨b, off, none⟩) n k = some ⟨b, off + k * 2, none⟩ := by
  unfold cutA
  rw [if_neg (by omega)]
  by_cases h0 : k = 0
  · subst h0; simp [Addr.add]
  · simp [Addr.add]; omega

theorem Cls.front {w : World} {ao : Option Addr} {I A : List ByteArray} (h : Cls w ao I A) (k : Nat) : Cls w ao (I.take k) (A.take k) := fun j s t hs ht => by
  rw [List.getElem?_take] at hs ht
  split at hs
  · rename_i hj
    rw [if_pos hj] at ht
    exact h j s t hs ht
  · cases hs

theorem Cls.back {w : World} {ao : Option Addr} {I A : List ByteArray} (h : Cls w ao I A) (k : Nat) : Cls w (cutA ao I.length k) (I.drop k) (A.drop k) := fun j s t hs ht => by
  rw [List.getElem?_drop] at hs ht
  obtain ⟨b, off, rfl, hc, hd⟩ := h (k + j) s t hs ht
  have hlt : k + j < I.length := (List.getElem?_eq_some_iff.1 hs).1
  refine ⟨b, off + k * 2, cutA_some b off _ _ (by omega), ?_, ?_⟩
  · rw [show off + k * 2 + j * 2 = off + (k + j) * 2 by omega]; exact hc
  · rw [show off + k * 2 + j * 2 + 1 = off + (k + j) * 2 + 1 by omega]; exact hd

/-- ZZInterestsOf, the length by another name. -/
theorem io12n (ao : Option Addr) (n cap : Nat) (I A : List ByteArray) (w : World) (hC : Cls w ao I A) (hlen : I.length = n) (hl : I.length ≤ A.length) (hn : I.length ≤ 1048576) :
    Calls Try.prog 12 #[.slice ao n cap] w fun e w' => ∃ g, e = .returned (.slice (some ⟨g, 0, none⟩) n n) ∧ Strs w' (some ⟨g, 0, none⟩) I ∧ Below w.heap.size w w' := by
  subst hlen
  exact io12 ao cap I A w hC hl hn

end Go.Proofs.Qxb6617112a.Base
