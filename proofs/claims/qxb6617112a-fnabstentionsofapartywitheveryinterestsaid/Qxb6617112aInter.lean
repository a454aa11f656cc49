/-
  THE WALKS of interestsOf (24) and ZZInterestsOf (12): a new slice, never nil, of the clauses' interests.
-/
import Derived.Test.Qxb6617112aClauses
namespace Go.Proofs.Qxb6617112a.Base
open Go.RowKit

theorem info30 : (Try.prog.info? 30).map (fun i => (i.zero, i.size, i.bytes)) = some (some (.string ByteArray.empty), 1, 16) := by kernel_rfl

/-- A made block of n strings. -/
def made1 (n : Nat) : Array Value := madeCells #[.string ByteArray.empty] n

theorem mk28 (n : Nat) (hn : n ≤ 1048576) (w : World) :
    (Instr.makeSlice 28 (.int .i64 0) (.int .i64 n)).run Try.prog w = .ok (.slice (some ⟨w.heap.size, 0, none⟩) 0 n) (w.alloc (.cells (made1 n) 30)) := by
  obtain ⟨i, hi, hz, hs, hb⟩ := info_parts info30
  have := run_make (P := Try.prog) w 28 30 i _ Try.underlying28 hi hz .i64 .i64 0 n (by omega) (by omega) (by rw [hb]; omega) (by omega)
  rw [hs] at this
  simpa [made1, Value.cells] using this

set_option maxHeartbeats 400000 in
theorem io24 (ao : Option Addr) (cap : Nat) (I A : List ByteArray) (w : World) (hC : Cls w ao I A) (hl : I.length ≤ A.length) (hn : I.length ≤ 1048576) :
    Calls Try.prog 24 #[.slice ao I.length cap] w fun e w' => ∃ g, e = .returned (.slice (some ⟨g, 0, none⟩) I.length I.length) ∧ Strs w' (some ⟨g, 0, none⟩) I ∧ Below w.heap.size w w' := by
  have hmk := mk28 I.length hn
  obtain ⟨i0, hi, hz0, hz1, hz2⟩ := info_parts info30
  go_enter Try.func24, Try.ntmps24
  go_wp2
  go_loopw [3, 5, 11] (fun v _ i wr => ∃ (k : Nat), k ≤ I.length ∧ i = .int .i64 k ∧ v = .slice (some ⟨w.heap.size, 0, none⟩) k I.length ∧ wr.ownsRow w.heap.size 30 1 (.slice (some ⟨w.heap.size, 0, none⟩) k I.length) k ((I.take k).map Value.string) ∧ Below w.heap.size w wr) (fun _ _ i _ => I.length - (intOf i).toNat)
  case atStart => exact ⟨0, Nat.zero_le _, rfl, rfl, World.ownsRow_made w _ _ (Nat.le_refl _) (by unfold maxLen; omega) (by simp [made1, size_madeCells]), (Below.refl _ _).alloc (Nat.le_refl _) _⟩
  case round =>
    obtain ⟨k, hk, rfl, rfl, hown, hb⟩ := hrel
    by_cases hlt : k < I.length
    · obtain ⟨s, hs⟩ := get_lt hlt
      obtain ⟨t, ht⟩ := get_lt (show k < A.length by omega)
      obtain ⟨b, off, rfl, hc, hd⟩ := hC k s t hs ht
      have z1 := cell_on hc hb
      have z2 := cell_on hd hb
      have HS : Hid (I[k]? = some s) := hs
      clear hs ht
      go_wp2_with (at_builtin; refine wpList_append_fits _ rfl _ _ 28 rfl w.heap.size 30 i0 1 Try.underlying28 hi hz1 w.heap.size k I.length _ rfl ((hown.alloc _).alloc _) ⟨wr.heap.size + 1, 0, none⟩ 1 1 [.string s] rfl rfl ?c1 ?c2 ?c3 ?_)
      case c1 =>
        intro j u hj
        match j, hj with
        | 0, hj => simp at hj; subst hj; simp [Addr.add]
      case c2 => intro u hu; simp at hu; subst hu; rfl
      case c3 => omega
      · intro w1 hown1 hgrow
        have hsz := hb.size
        have R1 : w1.ownsRow w.heap.size 30 1 (.slice (some ⟨w.heap.size, 0, none⟩) (k + 1) I.length) (k + 1) ((I.take (k + 1)).map Value.string) := by
          rw [take_snoc HS.out, List.map_append, List.map_take]; exact hown1
        have R2 : Below w.heap.size w w1 := ((hb.alloc hsz _).alloc (by simp; omega) _).grown hgrow (by simp; omega) (fun x hx => by cases hx; exact Nat.le_refl _)
        clear hown1 hgrow hown hb
        go_wp2
        go_roundw
        case rel => exact ⟨k + 1, by omega, by go_num, rfl, R1, R2⟩
        case measure => simp [intOf]; omega
    · obtain rfl : k = I.length := by omega
      go_wp2
      go_ret
      refine ⟨w.heap.size, rfl, fun j s hs => ⟨_, _, rfl, ?_⟩, hb⟩
      have hj : j < I.length := (List.getElem?_eq_some_iff.1 hs).1
      rw [Nat.zero_add, hown.cellAt j (by omega), List.take_of_length_le (Nat.le_refl _), List.getElem?_map, hs]
      rfl

set_option maxHeartbeats 400000 in
theorem io12 (ao : Option Addr) (cap : Nat) (I A : List ByteArray) (w : World) (hC : Cls w ao I A) (hl : I.length ≤ A.length) (hn : I.length ≤ 1048576) :
    Calls Try.prog 12 #[.slice ao I.length cap] w fun e w' => ∃ g, e = .returned (.slice (some ⟨g, 0, none⟩) I.length I.length) ∧ Strs w' (some ⟨g, 0, none⟩) I ∧ Below w.heap.size w w' := by
  go_enter Try.func12, Try.ntmps12
  go_wp2_with fail
  refine (io24 ao cap I A w hC hl hn).mono ?_
  rintro e w' ⟨g, rfl, h1, h2⟩
  go_wp2
  go_ret
  exact ⟨g, rfl, h1, h2⟩

end Go.Proofs.Qxb6617112a.Base
