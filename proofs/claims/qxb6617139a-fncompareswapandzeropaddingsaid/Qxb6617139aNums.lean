/-
  WHAT THE WALKS OF THIS SEAT ARE TOLD OF SLICES OF uint64; the plain functions; cuts of slices.
-/
import Derived.Test.Qxb6617139aRows
import Derived.WalkKit
import Derived.WalkSpells
import Derived.WalkLawsBesides
import Derived.ProofKit
import Derived.Deep.OwnRows
import Derived.Laws.CopyRow
import Derived.Laws.IdiomCopy
import Derived.Deep.WholeRow
namespace Go.Proofs.Qxb6617139a.Nums
open Go.RowKit

/-- The slice at 'ao' holds the numbers Z. -/
def Nums (w : World) (ao : Option Addr) (Z : List Int) : Prop :=
  ∀ k z, Z[k]? = some z → ∃ b off, ao = some ⟨b, off, none⟩ ∧ w.cell? ⟨b, off + k, none⟩ = some (.int .u64 z)

/-- Entry i, 0 past the end. -/
def ent (Z : List Int) (i : Nat) : Int := (Z[i]?).getD 0

/-- 'Some entry of V before k is less than W's.' -/
def lessTo (V W : List Int) (k : Nat) : Bool := (List.range k).any (fun i => decide (ent V i < ent W i))
/-- 'Some entry of V is less than W's.' -/
def lt (V W : List Int) : Bool := lessTo V W W.length

/-- OrderOf. -/
def ordI (l g : Bool) : Int := if l then (if g then 4 else 1) else (if g then 2 else 3)
/-- revOrder. -/
def revI (o : Int) : Int := if o = 1 then 2 else if o = 2 then 1 else if o = 3 then 3 else if o = 4 then 4 else -1

theorem get_lt {α : Type} {S : List α} {k : Nat} (h : k < S.length) : ∃ s, S[k]? = some s := ⟨S[k], List.getElem?_eq_getElem h⟩

theorem ent_of {Z : List Int} {k : Nat} {z : Int} (h : Z[k]? = some z) : ent Z k = z := by simp [ent, h]
theorem ent_past {Z : List Int} {k : Nat} (h : Z.length ≤ k) : ent Z k = 0 := by simp [ent, List.getElem?_eq_none h]
theorem ent_nonneg {Z : List Int} (h : ∀ z ∈ Z, 0 ≤ z) (k : Nat) : 0 ≤ ent Z k := by
  unfold ent
  cases e : Z[k]? with
  | none => simp
  | some z => exact h z (List.mem_of_getElem? e)

theorem lessTo_succ (V W : List Int) (k : Nat) : lessTo V W (k + 1) = (lessTo V W k || decide (ent V k < ent W k)) := by
  simp [lessTo, List.range_succ]

theorem lessTo_hit {V W : List Int} {k : Nat} (h : ent V k < ent W k) : lessTo V W (k + 1) = true := by rw [lessTo_succ]; simp [h]
theorem lessTo_miss {V W : List Int} {k : Nat} (h : ¬ ent V k < ent W k) : lessTo V W (k + 1) = lessTo V W k := by rw [lessTo_succ]; simp [h]

/-- Past W's end nothing of V is less. -/
theorem lessTo_past {V W : List Int} (hV : ∀ z ∈ V, 0 ≤ z) (d : Nat) : lessTo V W (W.length + d) = lt V W := by
  induction d with
  | zero => rfl
  | succ d ih =>
    rw [← Nat.add_assoc, lessTo_miss, ih]
    have := ent_nonneg hV (W.length + d)
    rw [ent_past (Z := W) (by omega)]
    omega

theorem lessTo_big {V W : List Int} (hV : ∀ z ∈ V, 0 ≤ z) {k : Nat} (hk : W.length ≤ k) : lessTo V W k = lt V W := by
  obtain ⟨d, rfl⟩ : ∃ d, k = W.length + d := ⟨k - W.length, by omega⟩
  exact lessTo_past hV d

theorem lessTo_congr {V W V' W' : List Int} (h : ∀ i, ent V' i = ent V i) (h' : ∀ i, ent W' i = ent W i) (k : Nat) : lessTo V' W' k = lessTo V W k := by
  simp [lessTo, h, h']

theorem cell_on {w w' : World} {a : Addr} {v : Value} (h : w.cell? a = some v) (hb : Below w.heap.size w w') : w'.cell? a = some v := by
  rw [hb.cell (World.block_lt_of_cell? w a h)]; exact h

theorem Nums.on {w w' : World} {ao : Option Addr} {Z : List Int} (h : Nums w ao Z) (hb : Below w.heap.size w w') : Nums w' ao Z := fun k s hs => by
  obtain ⟨b, off, e, hc⟩ := h k s hs
  exact ⟨b, off, e, cell_on hc hb⟩

/-! ### cuts -/

theorem info39 : (Try.prog.info? 39).map (fun i => (i.zero, i.size, i.bytes)) = some (some (.int .u64 0), 1, 8) := by kernel_rfl

/-- Where 'x[k:]' begins. -/
def cutI (ao : Option Addr) (cap k : Nat) : Option Addr := if cap = k then ao else ao.map (·.add (k * 1))

theorem run_size (w : World) : (sizeOf 39).run Try.prog w = .ok 1 w := by
  obtain ⟨i, hi, hz, hs, hb⟩ := info_parts info39
  simp [sizeOf, typeInfo, hi, hs]

theorem front25 (ao : Option Addr) (n cap k : Nat) (hk : k ≤ cap) (w : World) :
    (Instr.slice 25 (.slice ao n cap) none (some (.int .i64 k)) none).run Try.prog w = .ok (.slice ao k cap) w := by
  have he : Try.prog.elem 25 = 39 := by kernel_rfl
  have h := run_slice_h (P := Try.prog) (w := w) 25 ao n cap (by rw [he]; exact Try.underlying25) .i64 k (by omega) (by omega)
  rw [h, he, run_size]
  simp [Result.andThen, sliced]
  cases ao with
  | none => simp
  | some a => simp [Addr.add]

theorem back25 (ao : Option Addr) (n cap k : Nat) (hk : k ≤ n) (w : World) :
    (Instr.slice 25 (.slice ao n cap) (some (.int .i64 k)) none none).run Try.prog w = .ok (.slice (cutI ao cap k) (n - k) (cap - k)) w := by
  have he : Try.prog.elem 25 = 39 := by kernel_rfl
  have h := run_slice_l (P := Try.prog) (w := w) 25 ao n cap (by rw [he]; exact Try.underlying25) .i64 k (by omega) (by omega)
  rw [h, he, run_size]
  simp [Result.andThen, sliced, cutI]

theorem cutI_some (b off cap k : Nat) (h : k < cap) : cutI (some ⟨b, off, none⟩) cap k = some ⟨b, off + k, none⟩ := by
  unfold cutI
  rw [if_neg (by omega), Nat.mul_one]
  by_cases h0 : k = 0
  · subst h0; simp [Addr.add]
  · simp [Addr.add]; omega

theorem Nums.back {w : World} {ao : Option Addr} {Z : List Int} {cap : Nat} (h : Nums w ao Z) (hc : Z.length ≤ cap) (k : Nat) : Nums w (cutI ao cap k) (Z.drop k) := fun j z hz => by
  rw [List.getElem?_drop] at hz
  obtain ⟨b, off, rfl, hcell⟩ := h (k + j) z hz
  have hlt : k + j < Z.length := (List.getElem?_eq_some_iff.1 hz).1
  refine ⟨b, off + k, cutI_some b off _ _ (by omega), ?_⟩
  rw [Nat.add_assoc]; exact hcell

set_option maxHeartbeats 400000 in
theorem of11 (l g : Bool) (w : World) : Calls Try.prog 11 #[.bool l, .bool g] w fun e w' => e = .returned (.int .i64 (ordI l g)) ∧ w' = w := by
  cases l <;> cases g
  all_goals
    go_enter Try.func11, Try.ntmps11
    go_wp2
    go_ret
    exact ⟨rfl, rfl⟩

end Go.Proofs.Qxb6617139a.Nums
