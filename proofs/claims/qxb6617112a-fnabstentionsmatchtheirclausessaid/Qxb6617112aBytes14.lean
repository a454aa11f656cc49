/-
  THE WALK of zzAbstentionBytes (14): it reads alone and answers an int.
-/
import Derived.Test.Qxb6617112aInted
namespace Go.Proofs.Qxb6617112a.Base
open Go.RowKit

/-- 'It answers an int, having read alone.' -/
def AnInt (w : World) (e : Ending) (w' : World) : Prop := ∃ r : Int, e = .returned (.int .i64 r) ∧ w' = w

set_option maxHeartbeats 1000000 in
theorem ab14 (a0 a1 a2 a3 : Option Addr) (c0 c1 c2 c3 : Nat) (ids : List ByteArray) (Ps : List (List ByteArray)) (I A : List ByteArray) (w : World) (hD : Strs w a0 ids) (hR : Rws w a1 Ps) (hI : Strs w a2 I) (hA : Strs w a3 A)
    (n0 : ids.length ≤ maxLen) (n2 : I.length ≤ maxLen) (n3 : A.length ≤ maxLen) :
    Calls Try.prog 14 #[.slice a0 ids.length c0, .slice a1 Ps.length c1, .slice a2 I.length c2, .slice a3 A.length c3] w fun e w' => AnInt w e w' := by
  by_cases g0 : (4096 : Int) < (ids.length : Int)
  · go_enter Try.func14, Try.ntmps14
    go_wp2
    go_ret
    exact ⟨_, rfl, rfl⟩
  by_cases g1 : (4096 : Int) < (Ps.length : Int)
  · go_enter Try.func14, Try.ntmps14
    go_wp2
    go_ret
    exact ⟨_, rfl, rfl⟩
  by_cases g2 : (4096 : Int) < (I.length : Int)
  · go_enter Try.func14, Try.ntmps14
    go_wp2
    go_ret
    exact ⟨_, rfl, rfl⟩
  by_cases g3 : (4096 : Int) < (A.length : Int)
  · go_enter Try.func14, Try.ntmps14
    go_wp2
    go_ret
    exact ⟨_, rfl, rfl⟩
  go_enter Try.func14, Try.ntmps14
  go_wp2_with fail
  refine (add23 _ _ _ _ _ hD n0 (by omega) (by omega)).mono ?_
  rintro e w' ⟨r, rfl, hr0, hr1, rfl⟩
  go_wp2_with fail
  refine (add23 _ _ _ _ _ hI n2 (by omega) (by omega)).mono ?_
  rintro e w' ⟨r2, rfl, hr20, hr21, rfl⟩
  go_wp2_with fail
  refine (add23 _ _ _ _ _ hA n3 (by omega) (by omega)).mono ?_
  rintro e w' ⟨r3, rfl, hr30, hr31, rfl⟩
  clear hr0 hr1 hr20 hr21
  go_wp2
  go_loop [9, 10] (fun tt i => ∃ (k : Nat) (r : Int), k ≤ Ps.length ∧ i = .int .i64 k ∧ tt = .int .i64 r ∧ 0 ≤ r ∧ r ≤ 4194304) (fun _ i => Ps.length - (intOf i).toNat)
  case atStart => exact ⟨0, _, Nat.zero_le _, rfl, rfl, hr30, hr31⟩
  case round =>
    obtain ⟨k, r, hk, rfl, rfl, hr0, hr1⟩ := hrel
    by_cases hlt : k < Ps.length
    · obtain ⟨P, hP⟩ := get_lt hlt
      obtain ⟨b, off, pv, pc, rfl, hc, hs, hPn⟩ := hR k P hP
      clear hP
      by_cases h1 : 1048576 < r
      · go_wp2
        go_ret
        exact ⟨_, rfl, rfl⟩
      by_cases h2 : (4096 : Int) < (P.length : Int)
      · go_wp2
        go_ret
        exact ⟨_, rfl, rfl⟩
      go_wp2_with fail
      refine (add23 _ _ _ _ _ hs hPn hr0 hr1).mono ?_
      rintro e w' ⟨r4, rfl, hr40, hr41, rfl⟩
      go_wp2
      go_round
      case rel => exact ⟨k + 1, r4, by omega, by go_num, rfl, hr40, hr41⟩
      case measure => simp [intOf]; omega
    · go_wp2
      go_ret
      exact ⟨_, rfl, rfl⟩

end Go.Proofs.Qxb6617112a.Base
