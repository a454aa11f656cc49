/-
  THE WALKS of the functions that count bytes: zzAddStrings (23), zzClauseBytes (10), zzBytes_.. (9): they read alone; what the laws want of their answers.
-/
import Derived.Test.Qxb6617112aBase
namespace Go.Proofs.Qxb6617112a.Base
open Go.RowKit

set_option maxHeartbeats 400000 in
theorem add23 (t : Int) (ao : Option Addr) (cap : Nat) (S : List ByteArray) (w : World) (h : Strs w ao S) (hn : S.length ≤ maxLen) (h0 : 0 ≤ t) (h1 : t ≤ 4194304) :
    Calls Try.prog 23 #[.int .i64 t, .slice ao S.length cap] w fun e w' => ∃ r : Int, e = .returned (.int .i64 r) ∧ 0 ≤ r ∧ r ≤ 4194304 ∧ w' = w := by
  unfold maxLen at hn
  go_enter Try.func23, Try.ntmps23
  go_wp2
  go_loop [0, 5] (fun tt i => ∃ (k : Nat) (r : Int), k ≤ S.length ∧ i = .int .i64 k ∧ tt = .int .i64 r ∧ 0 ≤ r ∧ r ≤ 4194304) (fun _ i => S.length - (intOf i).toNat)
  case atStart => exact ⟨0, t, Nat.zero_le _, rfl, rfl, h0, h1⟩
  case round =>
    obtain ⟨k, r, hk, rfl, rfl, hr0, hr1⟩ := hrel
    by_cases hlt : k < S.length
    · obtain ⟨s, hs⟩ := get_lt hlt
      obtain ⟨b, off, rfl, hc⟩ := h k s hs
      clear hs
      by_cases g : 1048576 < r
      · go_wp2
        go_ret
        exact ⟨_, rfl, by omega, by omega, rfl⟩
      by_cases g2 : 1048576 < (s.size : Int)
      · go_wp2
        go_ret
        exact ⟨_, rfl, by omega, by omega, rfl⟩
      go_wp2
      go_round
      case rel => exact ⟨k + 1, r + (16 + (s.size : Int)), by omega, by go_num, by go_num, by omega, by omega⟩
      case measure => simp [intOf]; omega
    · go_wp2
      go_ret
      exact ⟨r, rfl, hr0, hr1, rfl⟩

set_option maxHeartbeats 400000 in
/-- zzClauseBytes: within bounds; an answer of at most 2^20 says that both lists are short. -/
theorem cb10 (ao a1 : Option Addr) (cap c1 : Nat) (S T : List ByteArray) (w : World) (h : Strs w ao S) (hT : Strs w a1 T) (hn : S.length ≤ maxLen) (hm : T.length ≤ maxLen) :
    Calls Try.prog 10 #[.slice ao S.length cap, .slice a1 T.length c1] w fun e w' => ∃ r : Int, e = .returned (.int .i64 r) ∧ 0 ≤ r ∧ r ≤ 4194304 ∧ (r ≤ 1048576 → S.length ≤ 4096 ∧ T.length ≤ 4096) ∧ w' = w := by
  by_cases g : (4096 : Int) < (S.length : Int)
  · go_enter Try.func10, Try.ntmps10
    go_wp2
    go_ret
    exact ⟨_, rfl, by omega, by omega, by omega, rfl⟩
  by_cases g2 : (4096 : Int) < (T.length : Int)
  · go_enter Try.func10, Try.ntmps10
    go_wp2
    go_ret
    exact ⟨_, rfl, by omega, by omega, by omega, rfl⟩
  go_enter Try.func10, Try.ntmps10
  go_wp2_with fail
  refine (add23 _ _ _ _ _ h hn (by omega) (by omega)).mono ?_
  rintro e w' ⟨r, rfl, hr0, hr1, rfl⟩
  go_wp2_with fail
  refine (add23 _ _ _ _ _ hT hm (by omega) (by omega)).mono ?_
  rintro e w' ⟨r2, rfl, hr20, hr21, rfl⟩
  go_wp2
  go_ret
  exact ⟨_, rfl, hr20, hr21, by omega, rfl⟩

end Go.Proofs.Qxb6617112a.Base
