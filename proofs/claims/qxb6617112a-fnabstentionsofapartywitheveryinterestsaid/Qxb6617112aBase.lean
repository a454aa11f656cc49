/-
  WHAT THE WALKS OF THIS SEAT ARE TOLD OF SLICES; and the walks of the searches: zzHas (21), contains at Interest (27), contains at string (29).
-/
import Derived.Test.Qxb6617112aRows
import Derived.WalkKit
import Derived.WalkSpells
import Derived.WalkLawsBesides
import Derived.ProofKit
namespace Go.Proofs.Qxb6617112a.Base
open Go.RowKit

/-- The slice at 'ao' holds the strings S, one cell each. -/
def Strs (w : World) (ao : Option Addr) (S : List ByteArray) : Prop :=
  ∀ k s, S[k]? = some s → ∃ b off, ao = some ⟨b, off, none⟩ ∧ w.cell? ⟨b, off + k, none⟩ = some (.string s)

/-- 'v is among S', as Go compares strings: byte by byte. -/
def hasB (S : List ByteArray) (v : ByteArray) : Bool := S.any (fun s => s.toList == v.toList)

theorem get_lt {α : Type} {S : List α} {k : Nat} (h : k < S.length) : ∃ s, S[k]? = some s := ⟨S[k], List.getElem?_eq_getElem h⟩

theorem take_snoc {α : Type} {S : List α} {k : Nat} {s : α} (h : S[k]? = some s) : S.take (k + 1) = S.take k ++ [s] := by
  obtain ⟨hk, e⟩ := List.getElem?_eq_some_iff.1 h
  rw [List.take_succ_eq_append_getElem hk, e]

theorem hasB_hit {S : List ByteArray} {k : Nat} {s v : ByteArray} (h : S[k]? = some s) (e : (s.toList == v.toList) = true) : hasB S v = true :=
  List.any_eq_true.2 ⟨s, List.mem_of_getElem? h, e⟩

theorem hasB_miss {S : List ByteArray} {k : Nat} {s v : ByteArray} (hno : hasB (S.take k) v = false) (h : S[k]? = some s) (e : (s.toList == v.toList) = false) : hasB (S.take (k + 1)) v = false := by
  rw [take_snoc h]
  unfold hasB at *
  rw [List.any_append, hno]
  simp [e]

theorem ret_bool {a b : Bool} (h : a = b) : Ending.returned (.bool a) = .returned (.bool b) := by rw [h]
theorem ret_int {k : IntKind} {a b : Int} (h : a = b) : Ending.returned (.int k a) = .returned (.int k b) := by rw [h]

set_option maxHeartbeats 400000 in
theorem has21 (ao : Option Addr) (cap : Nat) (S : List ByteArray) (v : ByteArray) (w : World) (h : Strs w ao S) (hn : S.length ≤ maxLen) :
    Calls Try.prog 21 #[.slice ao S.length cap, .string v] w fun e w' => e = .returned (.bool (hasB S v)) ∧ w' = w := by
  unfold maxLen at hn
  go_enter Try.func21, Try.ntmps21
  go_wp2
  go_loop [5] (fun i => ∃ k : Nat, k ≤ S.length ∧ i = .int .i64 k ∧ Hid (hasB (S.take k) v = false)) (fun i => S.length - (intOf i).toNat)
  case atStart => exact ⟨0, Nat.zero_le _, rfl, by simp [Hid, hasB]⟩
  case round =>
    obtain ⟨k, hk, rfl, hno⟩ := hrel
    by_cases hlt : k < S.length
    · obtain ⟨s, hs⟩ := get_lt hlt
      obtain ⟨b, off, rfl, hc⟩ := h k s hs
      have HS : Hid (S[k]? = some s) := hs
      clear hs
      go_wp2
      · have e : (s.toList == v.toList) = true := by assumption
        go_ret
        exact ⟨ret_bool (hasB_hit HS.out e).symm, rfl⟩
      · have e : (s.toList == v.toList) = false := by assumption
        go_round
        case rel => exact ⟨k + 1, by omega, by go_num, hasB_miss hno.out HS.out e⟩
        case measure => simp [intOf]; omega
    · go_wp2
      go_ret
      have e : hasB S v = false := by have := hno.out; rwa [List.take_of_length_le (by omega)] at this
      exact ⟨ret_bool e.symm, rfl⟩

set_option maxHeartbeats 400000 in
theorem has27 (ao : Option Addr) (cap : Nat) (S : List ByteArray) (v : ByteArray) (w : World) (h : Strs w ao S) (hn : S.length ≤ maxLen) :
    Calls Try.prog 27 #[.slice ao S.length cap, .string v] w fun e w' => e = .returned (.bool (hasB S v)) ∧ w' = w := by
  unfold maxLen at hn
  go_enter Try.func27, Try.ntmps27
  go_wp2
  go_loop [6, 9] (fun _ i => ∃ k : Nat, k ≤ S.length ∧ i = .int .i64 k ∧ Hid (hasB (S.take k) v = false)) (fun _ i => S.length - (intOf i).toNat)
  case atStart => exact ⟨0, Nat.zero_le _, rfl, by simp [Hid, hasB]⟩
  case round =>
    obtain ⟨k, hk, rfl, hno⟩ := hrel
    by_cases hlt : k < S.length
    · obtain ⟨s, hs⟩ := get_lt hlt
      obtain ⟨b, off, rfl, hc⟩ := h k s hs
      have HS : Hid (S[k]? = some s) := hs
      clear hs
      go_wp2
      · have e : (s.toList == v.toList) = true := by assumption
        go_ret
        exact ⟨ret_bool (hasB_hit HS.out e).symm, rfl⟩
      · have e : (s.toList == v.toList) = false := by assumption
        go_round
        case rel => exact ⟨k + 1, by omega, by go_num, hasB_miss hno.out HS.out e⟩
        case measure => simp [intOf]; omega
    · go_wp2
      go_ret
      have e : hasB S v = false := by have := hno.out; rwa [List.take_of_length_le (by omega)] at this
      exact ⟨ret_bool e.symm, rfl⟩

set_option maxHeartbeats 400000 in
theorem has29 (ao : Option Addr) (cap : Nat) (S : List ByteArray) (v : ByteArray) (w : World) (h : Strs w ao S) (hn : S.length ≤ maxLen) :
    Calls Try.prog 29 #[.slice ao S.length cap, .string v] w fun e w' => e = .returned (.bool (hasB S v)) ∧ w' = w := by
  unfold maxLen at hn
  go_enter Try.func29, Try.ntmps29
  go_wp2
  go_loop [6, 9] (fun _ i => ∃ k : Nat, k ≤ S.length ∧ i = .int .i64 k ∧ Hid (hasB (S.take k) v = false)) (fun _ i => S.length - (intOf i).toNat)
  case atStart => exact ⟨0, Nat.zero_le _, rfl, by simp [Hid, hasB]⟩
  case round =>
    obtain ⟨k, hk, rfl, hno⟩ := hrel
    by_cases hlt : k < S.length
    · obtain ⟨s, hs⟩ := get_lt hlt
      obtain ⟨b, off, rfl, hc⟩ := h k s hs
      have HS : Hid (S[k]? = some s) := hs
      clear hs
      go_wp2
      · have e : (s.toList == v.toList) = true := by assumption
        go_ret
        exact ⟨ret_bool (hasB_hit HS.out e).symm, rfl⟩
      · have e : (s.toList == v.toList) = false := by assumption
        go_round
        case rel => exact ⟨k + 1, by omega, by go_num, hasB_miss hno.out HS.out e⟩
        case measure => simp [intOf]; omega
    · go_wp2
      go_ret
      have e : hasB S v = false := by have := hno.out; rwa [List.take_of_length_le (by omega)] at this
      exact ⟨ret_bool e.symm, rfl⟩

end Go.Proofs.Qxb6617112a.Base
