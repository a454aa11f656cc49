/-
  THE WALK of zzBytes_FnAbstentionsMatchTheirClauses (13).
-/
import Derived.Test.Qxb6617112aBytes18
namespace Go.Proofs.Qxb6617112a.Base
open Go.RowKit

set_option maxHeartbeats 4000000 in
set_option maxRecDepth 100000 in
theorem zb13 (a0 a1 a2 a3 : Option Addr) (c0 c1 c2 c3 : Nat) (ids : List ByteArray) (Ps : List (List ByteArray)) (I A : List ByteArray) (w : World) (hD : Strs w a0 ids) (hR : Rws w a1 Ps) (hI : Strs w a2 I) (hA : Strs w a3 A) :
    Calls Try.prog 13 #[.slice a0 ids.length c0, .slice a1 Ps.length c1, .slice a2 I.length c2, .slice a3 A.length c3] w fun e w' => Told (ids.length ≤ 1048576 ∧ Ps.length ≤ 1048576 ∧ I.length ≤ 1048576 ∧ A.length ≤ 1048576 ∧ ∀ P ∈ Ps, P.length ≤ 1048576) w e w' := by
  by_cases g : (1048576 : Int) < (ids.length : Int)
  · go_enter Try.func13, Try.ntmps13
    go_wp2
    go_ret
    exact Told.no
  go_enter Try.func13, Try.ntmps13
  go_wp2
  go_loop [9, 10] (fun z i => ∃ (k : Nat) (r : Int), k ≤ ids.length ∧ i = .int .i64 k ∧ z = .int .i64 r ∧ 0 ≤ r ∧ r ≤ 1048576) (fun _ i => ids.length - (intOf i).toNat)
  case atStart => exact ⟨0, _, Nat.zero_le _, rfl, rfl, by omega, by omega⟩
  case round =>
    obtain ⟨k1, r1, hk_k1, rfl, rfl, h0_r1, h1_r1⟩ := hrel
    by_cases hlt_k1 : k1 < ids.length
    · obtain ⟨s, hs⟩ := get_lt hlt_k1
      obtain ⟨b, off, rfl, hc⟩ := hD k1 s hs
      clear hs
      by_cases g2 : 1048576 < (s.size : Int)
      · go_wp2
        go_ret
        exact Told.no
      by_cases g3 : 1048576 < r1 + (s.size : Int)
      · go_wp2
        go_ret
        exact Told.no
      go_wp2
      go_round
      case rel => exact ⟨k1 + 1, r1 + (s.size : Int), by omega, by go_num, by go_num, by omega, by omega⟩
      case measure => simp [intOf]; omega
    · by_cases gl_Ps : (1048576 : Int) < (Ps.length : Int)
      · go_wp2
        go_ret
        exact Told.no
      by_cases gs_Ps : (1048576 : Int) < r1 + (Ps.length : Int)
      · go_wp2
        go_ret
        exact Told.no
      go_wp2
      go_loop [9, 11, 12] (fun z i _ => ∃ (k : Nat) (r : Int), k ≤ Ps.length ∧ i = .int .i64 k ∧ z = .int .i64 r ∧ 0 ≤ r ∧ r ≤ 1048576 ∧ Hid (∀ j P, j < k → Ps[j]? = some P → P.length ≤ 1048576)) (fun _ i _ => Ps.length - (intOf i).toNat)
      case atStart => exact ⟨0, _, Nat.zero_le _, rfl, rfl, by omega, by omega, fun j P hj => absurd hj (Nat.not_lt_zero _)⟩
      case round =>
        obtain ⟨k2, r2, hk_k2, rfl, rfl, h0_r2, h1_r2, hPs⟩ := hrel
        by_cases hlt_k2 : k2 < Ps.length
        · obtain ⟨P, hPk⟩ := get_lt hlt_k2
          obtain ⟨pb, poff, pv, pc, rfl, hpc, hsP, _⟩ := hR k2 P hPk
          have HPk : Hid (Ps[k2]? = some P) := hPk
          clear hPk
          by_cases gl_P : (1048576 : Int) < (P.length : Int)
          · go_wp2
            go_ret
            exact Told.no
          by_cases gs_P : (1048576 : Int) < r2 + (P.length : Int)
          · go_wp2
            go_ret
            exact Told.no
          have hPs' : Hid (∀ j P, j < k2 + 1 → Ps[j]? = some P → P.length ≤ 1048576) := first_step hPs.out HPk.out (by omega)
          go_wp2
          go_loop [9, 12] (fun z i => ∃ (k : Nat) (r : Int), k ≤ P.length ∧ i = .int .i64 k ∧ z = .int .i64 r ∧ 0 ≤ r ∧ r ≤ 1048576) (fun _ i => P.length - (intOf i).toNat)
          case atStart => exact ⟨0, _, Nat.zero_le _, rfl, rfl, by omega, by omega⟩
          case round =>
            obtain ⟨k3, r3, hk_k3, rfl, rfl, h0_r3, h1_r3⟩ := hrel
            by_cases hlt_k3 : k3 < P.length
            · obtain ⟨s, hs⟩ := get_lt hlt_k3
              obtain ⟨b, off, rfl, hc⟩ := hsP k3 s hs
              clear hs
              by_cases g2 : 1048576 < (s.size : Int)
              · go_wp2
                go_ret
                exact Told.no
              by_cases g3 : 1048576 < r3 + (s.size : Int)
              · go_wp2
                go_ret
                exact Told.no
              go_wp2
              go_round
              case rel => exact ⟨k3 + 1, r3 + (s.size : Int), by omega, by go_num, by go_num, by omega, by omega⟩
              case measure => simp [intOf]; omega
            · go_wp2
              go_round
              case rel => exact ⟨k2 + 1, r3, by omega, by go_num, by go_num, by omega, by omega, hPs'⟩
              case measure => simp [intOf]; omega
        · have HB : Hid (∀ P ∈ Ps, P.length ≤ 1048576) := all_of_first hPs.out (by omega)
          by_cases gl_I : (1048576 : Int) < (I.length : Int)
          · go_wp2
            go_ret
            exact Told.no
          by_cases gs_I : (1048576 : Int) < r2 + (I.length : Int)
          · go_wp2
            go_ret
            exact Told.no
          go_wp2
          go_loop [9, 13] (fun z i => ∃ (k : Nat) (r : Int), k ≤ I.length ∧ i = .int .i64 k ∧ z = .int .i64 r ∧ 0 ≤ r ∧ r ≤ 1048576) (fun _ i => I.length - (intOf i).toNat)
          case atStart => exact ⟨0, _, Nat.zero_le _, rfl, rfl, by omega, by omega⟩
          case round =>
            obtain ⟨k4, r4, hk_k4, rfl, rfl, h0_r4, h1_r4⟩ := hrel
            by_cases hlt_k4 : k4 < I.length
            · obtain ⟨s, hs⟩ := get_lt hlt_k4
              obtain ⟨b, off, rfl, hc⟩ := hI k4 s hs
              clear hs
              by_cases g2 : 1048576 < (s.size : Int)
              · go_wp2
                go_ret
                exact Told.no
              by_cases g3 : 1048576 < r4 + (s.size : Int)
              · go_wp2
                go_ret
                exact Told.no
              go_wp2
              go_round
              case rel => exact ⟨k4 + 1, r4 + (s.size : Int), by omega, by go_num, by go_num, by omega, by omega⟩
              case measure => simp [intOf]; omega
            · by_cases gl_A : (1048576 : Int) < (A.length : Int)
              · go_wp2
                go_ret
                exact Told.no
              by_cases gs_A : (1048576 : Int) < r4 + (A.length : Int)
              · go_wp2
                go_ret
                exact Told.no
              go_wp2
              go_loop [9, 14] (fun z i => ∃ (k : Nat) (r : Int), k ≤ A.length ∧ i = .int .i64 k ∧ z = .int .i64 r ∧ 0 ≤ r ∧ r ≤ 1048576) (fun _ i => A.length - (intOf i).toNat)
              case atStart => exact ⟨0, _, Nat.zero_le _, rfl, rfl, by omega, by omega⟩
              case round =>
                obtain ⟨k5, r5, hk_k5, rfl, rfl, h0_r5, h1_r5⟩ := hrel
                by_cases hlt_k5 : k5 < A.length
                · obtain ⟨s, hs⟩ := get_lt hlt_k5
                  obtain ⟨b, off, rfl, hc⟩ := hA k5 s hs
                  clear hs
                  by_cases g2 : 1048576 < (s.size : Int)
                  · go_wp2
                    go_ret
                    exact Told.no
                  by_cases g3 : 1048576 < r5 + (s.size : Int)
                  · go_wp2
                    go_ret
                    exact Told.no
                  go_wp2
                  go_round
                  case rel => exact ⟨k5 + 1, r5 + (s.size : Int), by omega, by go_num, by go_num, by omega, by omega⟩
                  case measure => simp [intOf]; omega
                · go_wp2
                  go_ret
                  exact Told.yes ⟨by omega, by omega, by omega, by omega, HB.out⟩

end Go.Proofs.Qxb6617112a.Base
