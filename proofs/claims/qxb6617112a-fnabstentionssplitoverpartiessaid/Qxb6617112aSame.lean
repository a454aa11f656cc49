/-
  THE WALK of zzSameStrings (19), at two slices of the same strings, nil alike: true.
-/
import Derived.Test.Qxb6617112aInted
import Derived.Deep.QuietTactic
import Derived.BigQuiet
namespace Go.Proofs.Qxb6617112a.Base
open Go.RowKit

set_option maxHeartbeats 1000000 in
theorem same19 (a0 a1 : Option Addr) (c0 c1 : Nat) (L : List ByteArray) (w : World) (h0 : Strs w a0 L) (h1 : Strs w a1 L) (hn : a0.isNone = a1.isNone) (hL : L.length ≤ maxLen) :
    Calls Try.prog 19 #[.slice a0 L.length c0, .slice a1 L.length c1] w fun e w' => e = .returned (.bool true) ∧ ∃ n, w' = w.drewN n := by
  unfold maxLen at hL
  have heq := fun w a n c => Lib.run_eql_slice_nil (P := Try.prog) w 23 9 a n c 0 0 Try.underlying23
  go_enter Try.func19, Try.ntmps19
  go_wp2
  go_loopw [5] (fun i wr => ∃ k q : Nat, k ≤ L.length ∧ i = .int .i64 k ∧ wr = w.drewN q) (fun i _ => L.length - (intOf i).toNat)
  case atStart => exact ⟨0, 0, Nat.zero_le _, rfl, rfl⟩
  case round =>
    obtain ⟨k, q, hk, rfl, rfl⟩ := hrel
    by_cases hlt : k < L.length
    · obtain ⟨s, hs⟩ := get_lt hlt
      obtain ⟨b, off, rfl, hc⟩ := h0 k s hs
      obtain ⟨b1, off1, rfl, hc1⟩ := h1 k s hs
      clear hs
      go_wp2
      go_quiet (fail)
      go_wp2
      go_roundw
      case rel => exact ⟨k + 1, _, by omega, by go_num, rfl⟩
      case measure => simp [intOf]; omega
    · go_wp2
      go_ret
      exact ⟨rfl, q, rfl⟩

end Go.Proofs.Qxb6617112a.Base
