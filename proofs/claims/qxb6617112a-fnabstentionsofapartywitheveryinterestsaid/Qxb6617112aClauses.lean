/-
  THE WALK of ZZClauses (11): it lays the clauses, two cells each, in a new block.
-/
import Derived.Test.Qxb6617112aBytes9
import Derived.Deep.OwnRows
import Derived.Lib.SliceRun
namespace Go.Proofs.Qxb6617112a.Base
open Go.RowKit

theorem info50 : (Try.prog.info? 50).map (fun i => (i.zero, i.size, i.bytes)) = some (some (.agg #[.string ByteArray.empty, .string ByteArray.empty]), 2, 32) := by kernel_rfl

/-- The slice at 'ao' holds the clauses (I k, A k), two cells each. -/
def Cls (w : World) (ao : Option Addr) (I A : List ByteArray) : Prop :=
  ∀ k s t, I[k]? = some s → A[k]? = some t → ∃ b off, ao = some ⟨b, off, none⟩ ∧ w.cell? ⟨b, off + k * 2, none⟩ = some (.string s) ∧ w.cell? ⟨b, off + k * 2 + 1, none⟩ = some (.string t)

/-- A made block of n clauses. -/
def made50 (n : Nat) : Array Value := madeCells #[.string ByteArray.empty, .string ByteArray.empty] (n * 2)

theorem mk50 (n : Nat) (hn : n ≤ 1048576) (w : World) :
    (Instr.makeSlice 26 (.int .i64 n) (.int .i64 n)).run Try.prog w = .ok (.slice (some ⟨w.heap.size, 0, none⟩) n n) (w.alloc (.cells (made50 n) 50)) := by
  obtain ⟨i, hi, hz, hs, hb⟩ := info_parts info50
  have := run_make (P := Try.prog) w 26 50 i _ Try.underlying26 hi hz .i64 .i64 n n (by omega) (by omega) (by rw [hb]; omega) (by omega)
  rw [hs] at this
  simpa [made50, Value.cells] using this

theorem cell_lt {w : World} {a : Addr} {v : Value} (h : w.cell? a = some v) : a.block < w.heap.size := by
  by_cases hlt : a.block < w.heap.size
  · exact hlt
  · exfalso
    have : w.heap[a.block]? = none := by simp; omega
    simp [World.cell?, this] at h

theorem cell_on {w w' : World} {a : Addr} {v : Value} (h : w.cell? a = some v) (hb : Below w.heap.size w w') : w'.cell? a = some v := by
  rw [hb.cell (cell_lt h)]; exact h

theorem Strs.on {w w' : World} {ao : Option Addr} {S : List ByteArray} (h : Strs w ao S) (hb : Below w.heap.size w w') : Strs w' ao S := fun k s hs => by
  obtain ⟨b, off, e, hc⟩ := h k s hs
  exact ⟨b, off, e, cell_on hc hb⟩

theorem Cls.on {w w' : World} {ao : Option Addr} {I A : List ByteArray} (h : Cls w ao I A) (hb : Below w.heap.size w w') : Cls w' ao I A := fun k s t hs ht => by
  obtain ⟨b, off, e, hc, hd⟩ := h k s t hs ht
  exact ⟨b, off, e, cell_on hc hb, cell_on hd hb⟩

theorem made50_row (w : World) (n : Nat) : (w.alloc (.cells (made50 n) 50)).rowIs w.heap.size 50 (n * 2) (fun i => ((made50 n)[i]?).getD (.bool false)) := by
  have := World.rowIs_alloc w (made50 n) 50 (fun i => ((made50 n)[i]?).getD (.bool false)) (fun i hi => by rw [Array.getElem?_eq_getElem hi]; rfl)
  rwa [show (made50 n).size = n * 2 from size_madeCells _ _] at this

/-- What a round of ZZClauses does to the block. -/
theorem step50 {wr : World} {g n k : Nat} {f : Nat → Value} {I A : List ByteArray} {s t : ByteArray} (hrow : wr.rowIs g 50 (n * 2) f) (hs : I[k]? = some s) (ht : A[k]? = some t)
    (hf : ∀ j s t, j < k → I[j]? = some s → A[j]? = some t → f (j * 2) = .string s ∧ f (j * 2 + 1) = .string t) :
    ∃ f', (((wr.setCell ⟨g, k * 2, none⟩ (.string s)).setCell ⟨g, k * 2 + 1, none⟩ (.string t)).drew).rowIs g 50 (n * 2) f' ∧
      ∀ j s t, j < k + 1 → I[j]? = some s → A[j]? = some t → f' (j * 2) = .string s ∧ f' (j * 2 + 1) = .string t := by
  refine ⟨_, ((hrow.set (k * 2) (.string s)).set (k * 2 + 1) (.string t)).drew, fun j s' t' hj hs' ht' => ?_⟩
  by_cases e : j = k
  · subst e
    rw [hs] at hs'; rw [ht] at ht'
    cases hs'; cases ht'
    simp
  · have := hf j s' t' (by omega) hs' ht'
    rw [if_neg (by omega), if_neg (by omega), if_neg (by omega), if_neg (by omega)]
    exact this

set_option maxHeartbeats 400000 in
theorem cl11_some (a : Addr) (a1 : Option Addr) (cap c1 : Nat) (I A : List ByteArray) (w : World) (hI : Strs w (some a) I) (hA : Strs w a1 A) (hl : I.length ≤ A.length) (hn : I.length ≤ 1048576) :
    Calls Try.prog 11 #[.slice (some a) I.length cap, .slice a1 A.length c1] w fun e w' => ∃ g, e = .returned (.slice (some ⟨g, 0, none⟩) I.length I.length) ∧ w.heap.size ≤ g ∧ Cls w' (some ⟨g, 0, none⟩) I A ∧ Below w.heap.size w w' := by
  have heq := fun w a n c => Lib.run_eql_slice_nil (P := Try.prog) w 23 9 a n c 0 0 Try.underlying23
  have hmk := mk50 I.length hn
  go_enter Try.func11, Try.ntmps11
  go_wp2
  go_loopw [6] (fun i wr => ∃ (k : Nat) (f : Nat → Value), k ≤ I.length ∧ i = .int .i64 k ∧ wr.rowIs w.heap.size 50 (I.length * 2) f ∧ (∀ j s t, j < k → I[j]? = some s → A[j]? = some t → f (j * 2) = .string s ∧ f (j * 2 + 1) = .string t) ∧ Below w.heap.size w wr) (fun i _ => I.length - (intOf i).toNat)
  case atStart => exact ⟨0, _, Nat.zero_le _, rfl, made50_row w I.length, (fun j s t hj => absurd hj (Nat.not_lt_zero _)), (Below.refl _ _).alloc (Nat.le_refl _) _⟩
  case round =>
    obtain ⟨k, f, hk, rfl, hrow, hf, hb⟩ := hrel
    by_cases hlt : k < I.length
    · obtain ⟨s, hs⟩ := get_lt hlt
      obtain ⟨t, ht⟩ := get_lt (show k < A.length by omega)
      obtain ⟨b, off, ea, hc⟩ := hI k s hs
      cases ea
      obtain ⟨b1, off1, rfl, hc1⟩ := hA k t ht
      have x1 := hrow.cell (i := k * 2) (by omega)
      have x2 := hrow.cell (i := k * 2 + 1) (by omega)
      have y1 := hrow.frozen (k * 2)
      have y2 := hrow.frozen (k * 2 + 1)
      have z1 : wr.cell? ⟨b, off + k, none⟩ = some (.string s) := cell_on hc hb
      have z2 : wr.cell? ⟨b1, off1 + k, none⟩ = some (.string t) := cell_on hc1 hb
      have ST := step50 hrow hs ht hf
      clear hs ht
      go_wp2
      go_region
      go_wp2
      obtain ⟨f', r1, r2⟩ := ST
      go_roundw
      case rel => exact ⟨k + 1, f', by omega, by go_num, r1, r2, ((hb.setCell (Nat.le_refl _) _).setCell (Nat.le_refl _) _).drew⟩
      case measure => simp [intOf]; omega
    · go_wp2
      go_ret
      refine ⟨_, rfl, Nat.le_refl _, fun j s t hs ht => ?_, hb⟩
      have hj : j < I.length := (List.getElem?_eq_some_iff.1 hs).1
      have := hf j s t (by omega) hs ht
      refine ⟨_, _, rfl, ?_, ?_⟩
      · rw [Nat.zero_add, hrow.cell (by omega), this.1]
      · rw [Nat.zero_add, hrow.cell (by omega), this.2]

set_option maxHeartbeats 400000 in
theorem cl11_none (a1 : Option Addr) (m cap c1 : Nat) (w : World) :
    Calls Try.prog 11 #[.slice none 0 cap, .slice a1 m c1] w fun e w' => e = .returned (.slice none 0 0) ∧ w' = w := by
  have heq := fun w a n c => Lib.run_eql_slice_nil (P := Try.prog) w 23 9 a n c 0 0 Try.underlying23
  go_enter Try.func11, Try.ntmps11
  go_wp2
  go_ret
  exact ⟨rfl, rfl⟩

/-- ZZClauses, at every pair of lists: nil where the first is nil; else a new block. -/
theorem cl11 (ao a1 : Option Addr) (cap c1 : Nat) (I A : List ByteArray) (w : World) (hI : Strs w ao I) (hA : Strs w a1 A) (hl : I.length ≤ A.length) (hn : I.length ≤ 1048576) :
    Calls Try.prog 11 #[.slice ao I.length cap, .slice a1 A.length c1] w fun e w' => ∃ ao', e = .returned (.slice ao' I.length I.length) ∧ (ao' = none ∨ ∃ g, ao' = some ⟨g, 0, none⟩) ∧ Cls w' ao' I A ∧ Below w.heap.size w w' := by
  cases ao with
  | some a =>
    refine (cl11_some a a1 cap c1 I A w hI hA hl hn).mono ?_
    rintro e w' ⟨g, rfl, _, h2, h3⟩
    exact ⟨_, rfl, .inr ⟨g, rfl⟩, h2, h3⟩
  | none =>
    have e0 : I = [] := by
      match I, hI with
      | [], _ => rfl
      | s :: r, h => obtain ⟨_, _, e, _⟩ := h 0 s rfl; cases e
    subst e0
    refine (cl11_none a1 A.length cap c1 w).mono ?_
    rintro e w' ⟨rfl, rfl⟩
    exact ⟨none, rfl, .inl rfl, (fun k s t hs => by simp at hs), Below.refl _ _⟩

end Go.Proofs.Qxb6617112a.Base
