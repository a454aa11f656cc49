/-
  THE WALK of zzBytes_FnInterestsOfSplitsAtAnyCut (9): it reads alone; 'true' says that both lists have at most 2^20 entries.
-/
import Derived.Test.Qxb6617112aBytes
namespace Go.Proofs.Qxb6617112a.Base
open Go.RowKit

/-- 'It answers a bool, having read alone; if true, p.' (A name, so that the walk does not take it apart.) -/
def Told (p : Prop) (w : World) (e : Ending) (w' : World) : Prop := ∃ r : Bool, e = .returned (.bool r) ∧ (r = true → p) ∧ w' = w
theorem Told.no {p : Prop} {w : World} : Told p w (.returned (.bool false)) w := ⟨false, rfl, (fun h => by cases h), rfl⟩
theorem Told.yes {p : Prop} {w : World} (h : p) : Told p w (.returned (.bool true)) w := ⟨true, rfl, fun _ => h, rfl⟩

set_option maxHeartbeats 1000000 in
theorem zb9 (ao a1 : Option Addr) (cap c1 : Nat) (S T : List ByteArray) (kk : Int) (w : World) (h : Strs w ao S) (hT : Strs w a1 T) :
    Calls Try.prog 9 #[.slice ao S.length cap, .slice a1 T.length c1, .int .i64 kk] w fun e w' => Told (S.length ≤ 1048576 ∧ T.length ≤ 1048576) w e w' := by
  by_cases g : (1048576 : Int) < (S.length : Int)
  · go_enter Try.func9, Try.ntmps9
    go_wp2
    go_ret
    exact Told.no
  go_enter Try.func9, Try.ntmps9
  go_wp2
  go_loop [7, 8] (fun z i => ∃ (k : Nat) (r : Int), k ≤ S.length ∧ i = .int .i64 k ∧ z = .int .i64 r ∧ 0 ≤ r ∧ r ≤ 1048576) (fun _ i => S.length - (intOf i).toNat)
  case atStart => exact ⟨0, _, Nat.zero_le _, rfl, rfl, by omega, by omega⟩
  case round =>
    obtain ⟨k, r, hk, rfl, rfl, hr0, hr1⟩ := hrel
    by_cases hlt : k < S.length
    · obtain ⟨s, hs⟩ := get_lt hlt
      obtain ⟨b, off, rfl, hc⟩ := h k s hs
      clear hs
      by_cases g2 : 1048576 < (s.size : Int)
      · go_wp2
        go_ret
        exact Told.no
      by_cases g3 : 1048576 < r + (s.size : Int)
      · go_wp2
        go_ret
        exact Told.no
      go_wp2
      go_round
      case rel => exact ⟨k + 1, r + (s.size : Int), by omega, by go_num, by go_num, by omega, by omega⟩
      case measure => simp [intOf]; omega
    · by_cases g4 : (1048576 : Int) < (T.length : Int)
      · go_wp2
        go_ret
        exact Told.no
      by_cases g5 : (1048576 : Int) < r + (T.length : Int)
      · go_wp2
        go_ret
        exact Told.no
      go_wp2
      go_loop [7, 9] (fun z i => ∃ (k : Nat) (r : Int), k ≤ T.length ∧ i = .int .i64 k ∧ z = .int .i64 r ∧ 0 ≤ r ∧ r ≤ 1048576) (fun _ i => T.length - (intOf i).toNat)
      case atStart => exact ⟨0, _, Nat.zero_le _, rfl, rfl, by omega, by omega⟩
      case round =>
        obtain ⟨k', r', hk', rfl, rfl, hr0', hr1'⟩ := hrel
        by_cases hlt' : k' < T.length
        · obtain ⟨s, hs⟩ := get_lt hlt'
          obtain ⟨b, off, rfl, hc⟩ := hT k' s hs
          clear hs
          by_cases g2 : 1048576 < (s.size : Int)
          · go_wp2
            go_ret
            exact Told.no
          by_cases g3 : 1048576 < r' + (s.size : Int)
          · go_wp2
            go_ret
            exact Told.no
          go_wp2
          go_round
          case rel => exact ⟨k' + 1, r' + (s.size : Int), by omega, by go_num, by go_num, by omega, by omega⟩
          case measure => simp [intOf]; omega
        · go_wp2
          go_ret
          exact Told.yes (by omega)

end Go.Proofs.Qxb6617112a.Base
