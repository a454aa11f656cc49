/-
  'zzc := make([]string, len(x)); copy(zzc, x)': the two run equations; what lies in the new block.
-/
import Derived.Test.Qxb6617112aInter
import Derived.Laws.CopyRow
import Derived.Laws.IdiomCopy
import Derived.Deep.WholeRow
namespace Go.Proofs.Qxb6617112a.Base
open Go.RowKit

theorem info9 : (Try.prog.info? 9).map (fun i => (i.zero, i.size, i.bytes)) = some (some (.string ByteArray.empty), 1, 16) := by kernel_rfl

theorem mk23 (n : Nat) (hn : n ≤ 1048576) (w : World) :
    (Instr.makeSlice 23 (.int .i64 n) (.int .i64 n)).run Try.prog w = .ok (.slice (some ⟨w.heap.size, 0, none⟩) n n) (w.alloc (.cells (made1 n) 9)) := by
  obtain ⟨i, hi, hz, hs, hb⟩ := info_parts info9
  have := run_make (P := Try.prog) w 23 9 i _ Try.underlying23 hi hz .i64 .i64 n n (by omega) (by omega) (by rw [hb]; omega) (by omega)
  rw [hs] at this
  simpa [made1, Value.cells] using this

/-- The cells of a list of strings. -/
def cellsOf (S : List ByteArray) : Array Value := (S.map Value.string).toArray

theorem Strs.addr {w : World} {a : Addr} {S : List ByteArray} (h : Strs w (some a) S) {j : Nat} {s : ByteArray} (hs : S[j]? = some s) : w.cell? (a.add j) = some (.string s) := by
  obtain ⟨b, off, e, hc⟩ := h j s hs
  cases e
  by_cases h0 : j = 0
  · subst h0; simpa [Addr.add] using hc
  · simpa [Addr.add, h0] using hc

theorem copyEq (w : World) (a : Addr) (cap : Nat) (S : List ByteArray) (h : Strs w (some a) S) (ty : TypeId) :
    (Builtin.copy_ #[23, 23] ty #[.slice (some ⟨w.heap.size, 0, none⟩) S.length S.length, .slice (some a) S.length cap]).run Try.prog (w.alloc (.cells (made1 S.length) 9)) =
      .ok (goInt S.length) (w.alloc (.cells (cellsOf S) 9)) := by
  have hs : (Try.prog.info? 9).map (·.size) = some 1 := by
    obtain ⟨i, hi, hz, hs, hb⟩ := info_parts info9
    rw [hi]; simp [hs]
  have := run_copy_row (P := Try.prog) (w.alloc (.cells (made1 S.length) 9)) 23 23 ty 9 w.heap.size 0 S.length S.length a S.length cap (made1 S.length) 9 (S.map Value.string) Try.underlying23 hs
    (heap_alloc_new w _) (by simp) (fun j v hv => by
      rw [List.getElem?_map] at hv
      cases e : S[j]? with
      | none => rw [e] at hv; cases hv
      | some s =>
        rw [e] at hv; cases hv
        exact cell_on (h.addr e) ((Below.refl _ _).alloc (Nat.le_refl _) _)) (by simp [made1, size_madeCells]) (fun v hv => by
      obtain ⟨s, _, rfl⟩ := List.mem_map.1 hv; rfl)
  rw [this, World.setRow_alloc_new]
  have e : (made1 S.length).toList.drop (0 + (S.map Value.string).length) = [] := by
    apply List.drop_eq_nil_of_le; simp [made1, size_madeCells]
  rw [e]
  simp [cellsOf]

/-- What the copy holds. -/
theorem Strs.made (w : World) (S : List ByteArray) (t : TypeId) : Strs (w.alloc (.cells (cellsOf S) t)) (some ⟨w.heap.size, 0, none⟩) S := fun k s hs => by
  refine ⟨_, _, rfl, ?_⟩
  have hk : k < S.length := (List.getElem?_eq_some_iff.1 hs).1
  have hr := World.rowIs_alloc w (cellsOf S) t (fun i => ((cellsOf S)[i]?).getD (.bool false)) (fun i hi => by rw [Array.getElem?_eq_getElem hi]; rfl)
  rw [Nat.zero_add, hr.cell (by simpa [cellsOf] using hk)]
  simp [cellsOf, hs]

end Go.Proofs.Qxb6617112a.Base
