/-
  THE WALK of FnAbstentionsMatchTheirClauses (5).
-/
import Derived.Test.Qxb6617112aFits
import Derived.Test.Qxb6617112aBytes13
import Derived.Deep.DeepCutAuto
import Derived.Deep.QuietTactic
import Derived.BigQuiet
namespace Go.Proofs.Qxb6617112a.Base
open Go.RowKit

theorem Strs.drewN {w : World} {ao : Option Addr} {S : List ByteArray} (h : Strs w ao S) (n : Nat) : Strs (w.drewN n) ao S := h

set_option maxHeartbeats 4000000 in
set_option maxRecDepth 100000 in
theorem walk5 (a0 a1 a2 a3 : Option Addr) (c0 c1 c2 c3 : Nat) (ids : List ByteArray) (Ps : List (List ByteArray)) (I A : List ByteArray) (w : World) (hD : Strs w a0 ids) (hR : Rws w a1 Ps) (hI : Strs w a2 I) (hA : Strs w a3 A)
    (n0 : ids.length ≤ maxLen) (n2 : I.length ≤ maxLen) (n3 : A.length ≤ maxLen) :
    Calls Try.prog 5 #[.slice a0 ids.length c0, .slice a1 Ps.length c1, .slice a2 I.length c2, .slice a3 A.length c3] w fun e w' => e = .returned (.bool true) ∧ Below w.heap.size w w' := by
  have heq := fun w a n c => Lib.run_eql_slice_nil (P := Try.prog) w 36 39 a n c 0 0 Try.underlying36
  have hne := fun w a n c => run_neq_slice_nil_any (P := Try.prog) w 23 9 a n c 0 0 Try.underlying23
  go_enter Try.func5, Try.ntmps5
  go_wp2_with fail
  refine (zb13 _ _ _ _ _ _ _ _ _ _ _ _ _ hD hR hI hA).mono ?_
  rintro e w' ⟨r, rfl, hr, rfl⟩
  cases r with
  | false =>
    go_wp2
    go_ret
    exact ⟨rfl, Below.refl _ _⟩
  | true =>
  obtain ⟨m0, m1, m2, m3, mP⟩ := hr rfl
  clear hr
  have HmP : Hid (∀ P ∈ Ps, P.length ≤ 1048576) := mP
  clear mP
  go_wp2_with fail
  refine (ab14 _ _ _ _ _ _ _ _ _ _ _ _ _ hD hR hI hA n0 n2 n3).mono ?_
  rintro e w' ⟨r, rfl, rfl⟩
  by_cases g1 : 1048576 < r
  · go_wp2
    go_ret
    exact ⟨rfl, Below.refl _ _⟩
  by_cases hl : (Ps.length : Int) = (ids.length : Int)
  rotate_left
  · have hl' : ((Ps.length : Int) == (ids.length : Int)) = false := by simpa using hl
    go_wp2
    go_ret
    exact ⟨rfl, Below.refl _ _⟩
  have hl' : ((Ps.length : Int) == (ids.length : Int)) = true := by simpa using hl
  have l1 : Ps.length ≤ ids.length := by omega
  have l2 : ids.length ≤ Ps.length := by omega
  clear hl
  by_cases hl : (I.length : Int) = (A.length : Int)
  rotate_left
  · have hl'' : ((I.length : Int) == (A.length : Int)) = false := by simpa using hl
    go_wp2
    go_ret
    exact ⟨rfl, Below.refl _ _⟩
  have hl'' : ((I.length : Int) == (A.length : Int)) = true := by simpa using hl
  have l3 : I.length ≤ A.length := by omega
  have l4 : A.length ≤ I.length := by omega
  clear hl
  go_upto_if 41 with fail
  go_cut [0, 9] (fun s0 _ wx => ∃ a' c', s0 = .slice a' ids.length c' ∧ Strs wx a' ids ∧ Below w'.heap.size w' wx)
  case first =>
    have hmk := mk23 ids.length m0
    cases a0 with
    | none =>
      go_wp2
      go_meet
      case rel => exact ⟨_, _, rfl, hD, Below.refl _ _⟩
    | some a =>
      have hcp := copyEq w' a c0 ids hD
      go_wp2
      go_meet
      case rel => exact ⟨_, _, rfl, Strs.made _ _ _, (Below.refl _ _).alloc (Nat.le_refl _) _⟩
  case rest =>
    obtain ⟨a0', c0', rfl, hD1, hb1⟩ := hcut
    obtain ⟨w1, e1⟩ : ∃ x, x = wc := ⟨_, rfl⟩
    subst e1
    have hR1 := hR.on hb1
    have hI1 := hI.on hb1
    have hA1 := hA.on hb1
    clear hR hI hA hD
    go_upto_if 50 with fail
    go_cut [2, 10] (fun s0 _ wx => ∃ a' c', s0 = .slice a' I.length c' ∧ Strs wx a' I ∧ Below w1.heap.size w1 wx)
    case first =>
      have hmk := mk23 I.length m2
      cases a2 with
      | none =>
        go_wp2
        go_meet
        case rel => exact ⟨_, _, rfl, hI1, Below.refl _ _⟩
      | some a =>
        have hcp := copyEq w1 a c2 I hI1
        go_wp2
        go_meet
        case rel => exact ⟨_, _, rfl, Strs.made _ _ _, (Below.refl _ _).alloc (Nat.le_refl _) _⟩
    case rest =>
      obtain ⟨a2', c2', rfl, hI2, hb2⟩ := hcut
      obtain ⟨w2, e2⟩ : ∃ x, x = wc := ⟨_, rfl⟩
      subst e2
      have hR2 := hR1.on hb2
      have hD2 := hD1.on hb2
      have hA2 := hA1.on hb2
      have B2 : Below w'.heap.size w' w2 := hb1.trans (hb2.mono hb1.size)
      clear hR1 hI1 hA1 hD1 hb1 hb2
      go_upto_if 59 with fail
      go_cut [3, 11] (fun s0 _ wx => ∃ a' c', s0 = .slice a' A.length c' ∧ Strs wx a' A ∧ Below w2.heap.size w2 wx)
      case first =>
        have hmk := mk23 A.length m3
        cases a3 with
        | none =>
          go_wp2
          go_meet
          case rel => exact ⟨_, _, rfl, hA2, Below.refl _ _⟩
        | some a =>
          have hcp := copyEq w2 a c3 A hA2
          go_wp2
          go_meet
          case rel => exact ⟨_, _, rfl, Strs.made _ _ _, (Below.refl _ _).alloc (Nat.le_refl _) _⟩
      case rest =>
        obtain ⟨a3', c3', rfl, hA3, hb3⟩ := hcut
        obtain ⟨w3, e3⟩ : ∃ x, x = wc := ⟨_, rfl⟩
        subst e3
        have hR3 := hR2.on hb3
        have hD3 := hD2.on hb3
        have hI3 := hI2.on hb3
        have B3 : Below w'.heap.size w' w3 := B2.trans (hb3.mono B2.size)
        clear hR2 hI2 hA2 hD2 B2 hb3
        have HX := hR3.le
        have HPm : Hid (∀ P ∈ Ps, P.length ≤ maxLen) := HX
        clear HX
        go_wp2_with fail
        refine (in15 _ _ _ _ ids Ps _ hD3 hR3 l2 m0 HmP.out).mono ?_
        rintro e w4 ⟨aR, rfl, hE4, hb4⟩
        have hD4 := hD3.on hb4
        have hR4 := hR3.on hb4
        have hI4 := hI3.on hb4
        have hA4 := hA3.on hb4
        have B4 := B3.trans (hb4.mono B3.size)
        clear hD3 hI3 hA3 hR3 B3 hb4
        go_wp2_with fail
        refine (cl11 _ _ _ _ I A _ hI4 hA4 l3 m2).mono ?_
        rintro e w5 ⟨aC, rfl, -, hC5, hb5⟩
        have hD5 := hD4.on hb5
        have hR5 := hR4.on hb5
        have hI5 := hI4.on hb5
        have hA5 := hA4.on hb5
        have hE5 := hE4.on hb5
        have B5 := B4.trans (hb5.mono B4.size)
        clear hD4 hI4 hA4 hE4 hR4 B4 hb5
        go_wp2_with fail
        refine (ab16 _ _ _ _ _ _ false ids Ps I A _ hE5 hC5 rfl rfl l2 l3 m0 m2 HPm.out).mono ?_
        rintro e w6 ⟨x1, xc1, rfl, hW6, hx1, hb6⟩
        have hD6 := hD5.on hb6
        have hR6 := hR5.on hb6
        have hI6 := hI5.on hb6
        have hA6 := hA5.on hb6
        have B6 := B5.trans (hb6.mono B5.size)
        clear hD5 hE5 hC5 hR5 hI5 hA5 B5 hb6
        cases x1 with
        | none =>
          have e0 : ids = [] := hx1.1 rfl
          subst e0
          clear hx1
          go_wp2
          go_loopw [15] (fun i wr => i = .int .i64 0 ∧ wr = w6) (fun _ _ => 0)
          case atStart => exact ⟨rfl, rfl⟩
          case round =>
            obtain ⟨rfl, rfl⟩ := hrel
            go_wp2
            go_ret
            exact ⟨rfl, B6⟩
        | some xA =>
          have hne0 : ids ≠ [] := fun h => by have := hx1.2 h; cases this
          have hz0 : ((ids.length : Int) == 0) = false := by simp [hne0]
          clear hx1 hne0
          go_wp2
          go_loopw [15] (fun i wr => ∃ j : Nat, j ≤ ids.length ∧ i = .int .i64 j ∧ Below w6.heap.size w6 wr) (fun i _ => ids.length - (intOf i).toNat)
          case atStart => exact ⟨0, Nat.zero_le _, rfl, Below.refl _ _⟩
          case round =>
            obtain ⟨j, hj, rfl, hb⟩ := hrel
            by_cases hlt : j < ids.length
            · obtain ⟨id, hid⟩ := get_lt hlt
              obtain ⟨P, hP⟩ := get_lt (show j < Ps.length by omega)
              obtain ⟨b, off, rfl, hc⟩ := hD6 j id hid
              obtain ⟨pb, poff, pv, pc, rfl, hpc, hps, hPn⟩ := hR6 j P hP
              obtain ⟨b1, off1, av1, ac1, eq1, hw1, hw2, hw3, hw4⟩ := hW6 j id (arts P (I.zip A)) hid (by simp [hP])
              cases eq1
              have hfit := fit_arts P (I.zip A)
              obtain ⟨L, hLe⟩ : ∃ L, L = arts P (I.zip A) := ⟨_, rfl⟩
              have hLn : L.length ≤ 1048576 := by
                rw [hLe]
                have h1 := arts_le P (I.zip A)
                rw [List.length_zip] at h1
                omega
              rw [← hLe] at hw2 hw3 hw4 hfit
              have z0 := cell_on hc hb
              have z1 := cell_on hw1 hb
              have z2 := cell_on hw2 hb
              have z3 := hw3.on hb
              have z4 := cell_on hpc hb
              have z5 := hps.on hb
              have z6 := hI6.on hb
              have z7 := hA6.on hb
              have hwn := hw4 rfl
              have HWN : Hid (av1 = none ↔ L = []) := hwn
              clear hwn hw4 hid hP hLe
              go_wp2
              go_quiet (fail)
              obtain ⟨wd, hwd⟩ : ∃ x, x = wr.drewN nq := ⟨_, rfl⟩
              rw [← hwd]
              have t1 : wd.cell? ⟨b1, off1 + j * 2 + 1, none⟩ = some (.slice av1 L.length ac1) := by rw [hwd]; exact z2
              have t2 : wd.cell? ⟨pb, poff + j, none⟩ = some (.slice pv P.length pc) := by rw [hwd]; exact z4
              have t3 : Strs wd av1 L := by rw [hwd]; exact z3.drewN _
              have t4 : Strs wd pv P := by rw [hwd]; exact z5.drewN _
              have t6 : Strs wd a2' I := by rw [hwd]; exact z6.drewN _
              have t7 : Strs wd a3' A := by rw [hwd]; exact z7.drewN _
              have t5 : Below w6.heap.size w6 wd := by rw [hwd]; exact below_drewN hb _
              clear hwd
              go_wp2
              go_quiet ((go_at_call 17; refine Calls.quiet_of_same (fit17 _ _ _ _ _ _ _ _ L P I A _ ?_ ?_ ?_ ?_ ?_ ?_ ?_ ?_ ?_ ?_); exact t3.drewN _; exact t4.drewN _; exact t6.drewN _; exact t7.drewN _; exact HWN.out; exact hfit; exact hLn; exact hPn; exact m2; exact l3))
              go_wp2
              go_roundw
              case rel => exact ⟨j + 1, by omega, by go_num, below_drewN t5 _⟩
              case measure => simp [intOf]; omega
            · go_wp2
              go_ret
              exact ⟨rfl, B6.trans (hb.mono B6.size)⟩

end Go.Proofs.Qxb6617112a.Base
