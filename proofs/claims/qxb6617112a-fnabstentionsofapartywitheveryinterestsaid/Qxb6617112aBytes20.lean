/-
  THE WALK of zzBytes_FnAbstentionsOfAPartyWithEveryInterest (20).
-/
import Derived.Test.Qxb6617112aBytes9
namespace Go.Proofs.Qxb6617112a.Base
open Go.RowKit

set_option maxHeartbeats 1000000 in
theorem zb20 (id : ByteArray) (ao a1 : Option Addr) (cap c1 : Nat) (S T : List ByteArray) (w : World) (h : Strs w ao S) (hT : Strs w a1 T) :
    Calls Try.prog 20 #[.string id, .slice ao S.length cap, .slice a1 T.length c1] w fun e w' => Told (id.size ≤ 1048576 ∧ S.length ≤ 1048576 ∧ T.length ≤ 1048576) w e w' := by
  by_cases g0 : (1048576 : Int) < (id.size : Int)
  · go_enter Try.func20, Try.ntmps20
    go_wp2
    go_ret
    exact Told.no
  by_cases g : (1048576 : Int) < (S.length : Int)
  · go_enter Try.func20, Try.ntmps20
    go_wp2
    go_ret
    exact Told.no
  by_cases g' : (1048576 : Int) < (id.size : Int) + (S.length : Int)
  · go_enter Try.func20, Try.ntmps20
    go_wp2
    go_ret
    exact Told.no
  go_enter Try.func20, Try.ntmps20
  go_wp2
  go_loop [7, 8] (fun z i => ∃ (k : Nat) (r : Int), k ≤ S.length ∧ i = .int .i64 k ∧ z = .int .i64 r ∧ 0 ≤ r ∧ r ≤ 1048576) (fun _ i => S.length - (intOf i).toNat)
  case atStart => exact ⟨0, _, Nat.zero_le _, rfl, rfl, by omega, by omega⟩
  case round =>
    obtain ⟨k, r, hk, rfl, rfl, hr0, hr1⟩ := hrel
    by_cases hlt : k < S.length
    · obtain ⟨s, hs⟩ := get_lt hlt
      obtain ⟨b, off, rfl, hc⟩ := h k s hs
      clear hs
      by_cases g2 : 1048576 < (s.size : Int)
      · go_wp2
        go_ret
        exact Told.no
      by_cases g3 : 1048576 < r + (s.size : Int)
      · go_wp2
        go_ret
        exact Told.no
      go_wp2
      go_round
      case rel => exact ⟨k + 1, r + (s.size : Int), by omega, by go_num, by go_num, by omega, by omega⟩
      case measure => simp [intOf]; omega
    · by_cases g4 : (1048576 : Int) < (T.length : Int)
      · go_wp2
        go_ret
        exact Told.no
      by_cases g5 : (1048576 : Int) < r + (T.length : Int)
      · go_wp2
        go_ret
        exact Told.no
      go_wp2
      go_loop [7, 9] (fun z i => ∃ (k : Nat) (r : Int), k ≤ T.length ∧ i = .int .i64 k ∧ z = .int .i64 r ∧ 0 ≤ r ∧ r ≤ 1048576) (fun _ i => T.length - (intOf i).toNat)
      case atStart => exact ⟨0, _, Nat.zero_le _, rfl, rfl, by omega, by omega⟩
      case round =>
        obtain ⟨k', r', hk', rfl, rfl, hr0', hr1'⟩ := hrel
        by_cases hlt' : k' < T.length
        · obtain ⟨s, hs⟩ := get_lt hlt'
          obtain ⟨b, off, rfl, hc⟩ := hT k' s hs
          clear hs
          by_cases g2 : 1048576 < (s.size : Int)
          · go_wp2
            go_ret
            exact Told.no
          by_cases g3 : 1048576 < r' + (s.size : Int)
          · go_wp2
            go_ret
            exact Told.no
          go_wp2
          go_round
          case rel => exact ⟨k' + 1, r' + (s.size : Int), by omega, by go_num, by go_num, by omega, by omega⟩
          case measure => simp [intOf]; omega
        · go_wp2
          go_ret
          exact Told.yes (by omega)

end Go.Proofs.Qxb6617112a.Base
