/-
  THE WALK of (VectorStamp).Compare (9).
-/
import Derived.Test.Qxb6617139aNums
namespace Go.Proofs.Qxb6617139a.Nums
open Go.RowKit

set_option maxHeartbeats 2000000 in
set_option maxRecDepth 100000 in
theorem cmp9_w (ao a1 : Option Addr) (cap c1 : Nat) (V W : List Int) (w : World) (hV : Nums w ao V) (hW : Nums w a1 W) (nV : V.length ≤ 1048576) (nW : W.length ≤ 1048576) (kV : V.length ≤ cap) (kW : W.length ≤ c1) (hvw : W.length < V.length) :
    Calls Try.prog 9 #[.slice ao V.length cap, .slice a1 W.length c1] w fun e w' => e = .returned (.int .i64 (ordI (lt V W) (lt W V))) ∧ w' = w := by
  obtain ⟨m1, hm1⟩ : ∃ m, m = V.length - W.length := ⟨_, rfl⟩
  obtain ⟨m2, hm2⟩ : ∃ m, m = W.length - W.length := ⟨_, rfl⟩
  have hf := front25 a1 W.length c1 W.length (by omega)
  have hbV := back25 ao V.length cap W.length (by omega)
  have hbW := back25 a1 W.length c1 W.length (by omega)
  rw [← hm1] at hbV
  rw [← hm2] at hbW
  have hV2 := hV.back kV W.length
  have hW2 := hW.back kW W.length
  have b1 : W.length + m1 ≤ V.length := by omega
  have b2 : V.length ≤ W.length + m1 := by omega
  have b3 : W.length + m2 ≤ W.length := by omega
  have b4 : W.length ≤ W.length + m2 := by omega
  clear hm1 hm2
  go_enter Try.func9, Try.ntmps9
  go_wp2
  go_loop [6, 7, 24] (fun l g i => ∃ k : Nat, k ≤ W.length ∧ i = .int .i64 k ∧ l = .bool (lessTo V W k) ∧ g = .bool (lessTo W V k)) (fun _ _ i => W.length - (intOf i).toNat)
  case atStart => exact ⟨0, Nat.zero_le _, rfl, rfl, rfl⟩
  case round =>
    obtain ⟨k, hk, rfl, rfl, rfl⟩ := hrel
    by_cases hlt : k < W.length
    · obtain ⟨x, hx⟩ := get_lt (show k < V.length by omega)
      obtain ⟨y, hy⟩ := get_lt (show k < W.length by omega)
      obtain ⟨b, off, rfl, hc⟩ := hV k x hx
      obtain ⟨bb, off1, rfl, hc1⟩ := hW k y hy
      have ex := ent_of hx
      have ey := ent_of hy
      rcases Int.lt_trichotomy x y with hxy | hxy | hxy
      · have HL : Hid (lessTo V W (k + 1) = true) := lessTo_hit (by omega)
        have HG : Hid (lessTo W V (k + 1) = lessTo W V k) := lessTo_miss (by omega)
        clear hx hy ex ey
        go_wp2
        go_round
        case rel => exact ⟨k + 1, by omega, by go_num, by rw [HL.out], by rw [HG.out]⟩
        case measure => simp [intOf]; omega
      · have HL : Hid (lessTo V W (k + 1) = lessTo V W k) := lessTo_miss (by omega)
        have HG : Hid (lessTo W V (k + 1) = lessTo W V k) := lessTo_miss (by omega)
        subst hxy
        clear hx hy ex ey
        go_wp2
        go_round
        case rel => exact ⟨k + 1, by omega, by go_num, by rw [HL.out], by rw [HG.out]⟩
        case measure => simp [intOf]; omega
      · have HL : Hid (lessTo V W (k + 1) = lessTo V W k) := lessTo_miss (by omega)
        have HG : Hid (lessTo W V (k + 1) = true) := lessTo_hit (by omega)
        clear hx hy ex ey
        go_wp2
        go_round
        case rel => exact ⟨k + 1, by omega, by go_num, by rw [HL.out], by rw [HG.out]⟩
        case measure => simp [intOf]; omega
    · obtain rfl : k = W.length := by omega
      go_wp2
      go_loop [7, 12, 44] (fun g _ i => ∃ j : Nat, j ≤ m1 ∧ i = .int .i64 j ∧ g = .bool (lessTo W V (W.length + j))) (fun _ _ i => m1 - (intOf i).toNat)
      case atStart => exact ⟨0, Nat.zero_le _, rfl, rfl⟩
      case round =>
        obtain ⟨j, hj, rfl, rfl⟩ := hrel
        by_cases hlt2 : j < m1
        · obtain ⟨z, hz⟩ := get_lt (show W.length + j < V.length by omega)
          obtain ⟨b, off, ec, hc⟩ := hV2 j z (by rw [List.getElem?_drop]; exact hz)
          have ez := ent_of hz
          have e0 : ent W (W.length + j) = 0 := ent_past (by omega)
          rw [ec]
          by_cases hz0 : 0 < z
          · have HG : Hid (lessTo W V (W.length + j + 1) = true) := lessTo_hit (by omega)
            clear hz ez e0 ec
            go_wp2
            go_round
            case rel => exact ⟨j + 1, by omega, by go_num, by rw [← Nat.add_assoc, HG.out]⟩
            case measure => simp [intOf]; omega
          · have HG : Hid (lessTo W V (W.length + j + 1) = lessTo W V (W.length + j)) := lessTo_miss (by omega)
            clear hz ez e0 ec
            go_wp2
            go_round
            case rel => exact ⟨j + 1, by omega, by go_num, by rw [← Nat.add_assoc, HG.out]⟩
            case measure => simp [intOf]; omega
        · obtain rfl : j = m1 := by omega
          have EG : Hid (lessTo W V (W.length + j) = lt W V) := by show _ = lessTo W V V.length; rw [show W.length + j = V.length by omega]
          rw [EG.out]
          go_wp2
          go_loop [6, 14, 55] (fun l _ i => ∃ q : Nat, q ≤ m2 ∧ i = .int .i64 q ∧ l = .bool (lessTo V W (W.length + q))) (fun _ _ i => m2 - (intOf i).toNat)
          case atStart => exact ⟨0, Nat.zero_le _, rfl, rfl⟩
          case round =>
            obtain ⟨q, hq, rfl, rfl⟩ := hrel
            by_cases hlt3 : q < m2
            · obtain ⟨z, hz⟩ := get_lt (show W.length + q < W.length by omega)
              obtain ⟨b, off, ec, hc⟩ := hW2 q z (by rw [List.getElem?_drop]; exact hz)
              have ez := ent_of hz
              have e0 : ent V (W.length + q) = 0 := ent_past (by omega)
              rw [ec]
              by_cases hz0 : 0 < z
              · have HL : Hid (lessTo V W (W.length + q + 1) = true) := lessTo_hit (by omega)
                clear hz ez e0 ec
                go_wp2
                go_round
                case rel => exact ⟨q + 1, by omega, by go_num, by rw [← Nat.add_assoc, HL.out]⟩
                case measure => simp [intOf]; omega
              · have HL : Hid (lessTo V W (W.length + q + 1) = lessTo V W (W.length + q)) := lessTo_miss (by omega)
                clear hz ez e0 ec
                go_wp2
                go_round
                case rel => exact ⟨q + 1, by omega, by go_num, by rw [← Nat.add_assoc, HL.out]⟩
                case measure => simp [intOf]; omega
            · obtain rfl : q = m2 := by omega
              have EL : Hid (lessTo V W (W.length + q) = lt V W) := by show _ = lessTo V W W.length; rw [show W.length + q = W.length by omega]
              rw [EL.out]
              go_wp2_with fail
              refine (of11 _ _ _).mono ?_
              rintro e w' ⟨rfl, rfl⟩
              go_wp2
              go_ret
              exact ⟨rfl, rfl⟩

set_option maxHeartbeats 2000000 in
set_option maxRecDepth 100000 in
theorem cmp9_v (ao a1 : Option Addr) (cap c1 : Nat) (V W : List Int) (w : World) (hV : Nums w ao V) (hW : Nums w a1 W) (nV : V.length ≤ 1048576) (nW : W.length ≤ 1048576) (kV : V.length ≤ cap) (kW : W.length ≤ c1) (hvw : V.length ≤ W.length) :
    Calls Try.prog 9 #[.slice ao V.length cap, .slice a1 W.length c1] w fun e w' => e = .returned (.int .i64 (ordI (lt V W) (lt W V))) ∧ w' = w := by
  obtain ⟨m1, hm1⟩ : ∃ m, m = V.length - V.length := ⟨_, rfl⟩
  obtain ⟨m2, hm2⟩ : ∃ m, m = W.length - V.length := ⟨_, rfl⟩
  have hf := front25 a1 W.length c1 V.length (by omega)
  have hbV := back25 ao V.length cap V.length (by omega)
  have hbW := back25 a1 W.length c1 V.length (by omega)
  rw [← hm1] at hbV
  rw [← hm2] at hbW
  have hV2 := hV.back kV V.length
  have hW2 := hW.back kW V.length
  have b1 : V.length + m1 ≤ V.length := by omega
  have b2 : V.length ≤ V.length + m1 := by omega
  have b3 : V.length + m2 ≤ W.length := by omega
  have b4 : W.length ≤ V.length + m2 := by omega
  clear hm1 hm2
  go_enter Try.func9, Try.ntmps9
  go_wp2
  go_loop [6, 7, 24] (fun l g i => ∃ k : Nat, k ≤ V.length ∧ i = .int .i64 k ∧ l = .bool (lessTo V W k) ∧ g = .bool (lessTo W V k)) (fun _ _ i => V.length - (intOf i).toNat)
  case atStart => exact ⟨0, Nat.zero_le _, rfl, rfl, rfl⟩
  case round =>
    obtain ⟨k, hk, rfl, rfl, rfl⟩ := hrel
    by_cases hlt : k < V.length
    · obtain ⟨x, hx⟩ := get_lt (show k < V.length by omega)
      obtain ⟨y, hy⟩ := get_lt (show k < W.length by omega)
      obtain ⟨b, off, rfl, hc⟩ := hV k x hx
      obtain ⟨bb, off1, rfl, hc1⟩ := hW k y hy
      have ex := ent_of hx
      have ey := ent_of hy
      rcases Int.lt_trichotomy x y with hxy | hxy | hxy
      · have HL : Hid (lessTo V W (k + 1) = true) := lessTo_hit (by omega)
        have HG : Hid (lessTo W V (k + 1) = lessTo W V k) := lessTo_miss (by omega)
        clear hx hy ex ey
        go_wp2
        go_round
        case rel => exact ⟨k + 1, by omega, by go_num, by rw [HL.out], by rw [HG.out]⟩
        case measure => simp [intOf]; omega
      · have HL : Hid (lessTo V W (k + 1) = lessTo V W k) := lessTo_miss (by omega)
        have HG : Hid (lessTo W V (k + 1) = lessTo W V k) := lessTo_miss (by omega)
        subst hxy
        clear hx hy ex ey
        go_wp2
        go_round
        case rel => exact ⟨k + 1, by omega, by go_num, by rw [HL.out], by rw [HG.out]⟩
        case measure => simp [intOf]; omega
      · have HL : Hid (lessTo V W (k + 1) = lessTo V W k) := lessTo_miss (by omega)
        have HG : Hid (lessTo W V (k + 1) = true) := lessTo_hit (by omega)
        clear hx hy ex ey
        go_wp2
        go_round
        case rel => exact ⟨k + 1, by omega, by go_num, by rw [HL.out], by rw [HG.out]⟩
        case measure => simp [intOf]; omega
    · obtain rfl : k = V.length := by omega
      go_wp2
      go_loop [7, 12, 44] (fun g _ i => ∃ j : Nat, j ≤ m1 ∧ i = .int .i64 j ∧ g = .bool (lessTo W V (V.length + j))) (fun _ _ i => m1 - (intOf i).toNat)
      case atStart => exact ⟨0, Nat.zero_le _, rfl, rfl⟩
      case round =>
        obtain ⟨j, hj, rfl, rfl⟩ := hrel
        by_cases hlt2 : j < m1
        · obtain ⟨z, hz⟩ := get_lt (show V.length + j < V.length by omega)
          obtain ⟨b, off, ec, hc⟩ := hV2 j z (by rw [List.getElem?_drop]; exact hz)
          have ez := ent_of hz
          have e0 : ent W (V.length + j) = 0 := ent_past (by omega)
          rw [ec]
          by_cases hz0 : 0 < z
          · have HG : Hid (lessTo W V (V.length + j + 1) = true) := lessTo_hit (by omega)
            clear hz ez e0 ec
            go_wp2
            go_round
            case rel => exact ⟨j + 1, by omega, by go_num, by rw [← Nat.add_assoc, HG.out]⟩
            case measure => simp [intOf]; omega
          · have HG : Hid (lessTo W V (V.length + j + 1) = lessTo W V (V.length + j)) := lessTo_miss (by omega)
            clear hz ez e0 ec
            go_wp2
            go_round
            case rel => exact ⟨j + 1, by omega, by go_num, by rw [← Nat.add_assoc, HG.out]⟩
            case measure => simp [intOf]; omega
        · obtain rfl : j = m1 := by omega
          have EG : Hid (lessTo W V (V.length + j) = lt W V) := by show _ = lessTo W V V.length; rw [show V.length + j = V.length by omega]
          rw [EG.out]
          go_wp2
          go_loop [6, 14, 55] (fun l _ i => ∃ q : Nat, q ≤ m2 ∧ i = .int .i64 q ∧ l = .bool (lessTo V W (V.length + q))) (fun _ _ i => m2 - (intOf i).toNat)
          case atStart => exact ⟨0, Nat.zero_le _, rfl, rfl⟩
          case round =>
            obtain ⟨q, hq, rfl, rfl⟩ := hrel
            by_cases hlt3 : q < m2
            · obtain ⟨z, hz⟩ := get_lt (show V.length + q < W.length by omega)
              obtain ⟨b, off, ec, hc⟩ := hW2 q z (by rw [List.getElem?_drop]; exact hz)
              have ez := ent_of hz
              have e0 : ent V (V.length + q) = 0 := ent_past (by omega)
              rw [ec]
              by_cases hz0 : 0 < z
              · have HL : Hid (lessTo V W (V.length + q + 1) = true) := lessTo_hit (by omega)
                clear hz ez e0 ec
                go_wp2
                go_round
                case rel => exact ⟨q + 1, by omega, by go_num, by rw [← Nat.add_assoc, HL.out]⟩
                case measure => simp [intOf]; omega
              · have HL : Hid (lessTo V W (V.length + q + 1) = lessTo V W (V.length + q)) := lessTo_miss (by omega)
                clear hz ez e0 ec
                go_wp2
                go_round
                case rel => exact ⟨q + 1, by omega, by go_num, by rw [← Nat.add_assoc, HL.out]⟩
                case measure => simp [intOf]; omega
            · obtain rfl : q = m2 := by omega
              have EL : Hid (lessTo V W (V.length + q) = lt V W) := by show _ = lessTo V W W.length; rw [show V.length + q = W.length by omega]
              rw [EL.out]
              go_wp2_with fail
              refine (of11 _ _ _).mono ?_
              rintro e w' ⟨rfl, rfl⟩
              go_wp2
              go_ret
              exact ⟨rfl, rfl⟩

theorem cmp9 (ao a1 : Option Addr) (cap c1 : Nat) (V W : List Int) (w : World) (hV : Nums w ao V) (hW : Nums w a1 W) (nV : V.length ≤ 1048576) (nW : W.length ≤ 1048576) (kV : V.length ≤ cap) (kW : W.length ≤ c1) :
    Calls Try.prog 9 #[.slice ao V.length cap, .slice a1 W.length c1] w fun e w' => e = .returned (.int .i64 (ordI (lt V W) (lt W V))) ∧ w' = w := by
  by_cases h : W.length < V.length
  · exact cmp9_w ao a1 cap c1 V W w hV hW nV nW kV kW h
  · exact cmp9_v ao a1 cap c1 V W w hV hW nV nW kV kW (by omega)

end Go.Proofs.Qxb6617139a.Nums
