/-
  THE WALK of FnInterestsOfSplitsAtAnyCut (4).
-/
import Derived.Test.Qxb6617112aCuts
import Derived.Deep.DeepCutAuto
import Derived.Deep.QuietTactic
import Derived.BigQuiet
namespace Go.Proofs.Qxb6617112a.Base
open Go.RowKit

set_option maxHeartbeats 1000000 in
set_option maxRecDepth 100000 in
theorem walk4 (ao a1 : Option Addr) (cap c1 : Nat) (I A : List ByteArray) (kk : Int) (w : World) (hI : Strs w ao I) (hA : Strs w a1 A) (hnI : I.length ≤ maxLen) (hnA : A.length ≤ maxLen) :
    Calls Try.prog 4 #[.slice ao I.length cap, .slice a1 A.length c1, .int .i64 kk] w fun e w' => e = .returned (.bool true) ∧ Below w.heap.size w w' := by
  have hne := fun w a n c => run_neq_slice_nil_any (P := Try.prog) w 23 9 a n c 0 0 Try.underlying23
  have heq := fun w a n c => Lib.run_eql_slice_nil (P := Try.prog) w 28 30 a n c 0 0 Try.underlying28
  go_enter Try.func4, Try.ntmps4
  go_wp2_with fail
  refine (zb9 _ _ _ _ _ _ _ _ hI hA).mono ?_
  rintro e w' ⟨r, rfl, hr, rfl⟩
  cases r with
  | false =>
    go_wp2
    go_ret
    exact ⟨rfl, Below.refl _ _⟩
  | true =>
  obtain ⟨hIn, hAn⟩ := hr rfl
  clear hr
  go_wp2_with fail
  refine (cb10 _ _ _ _ _ _ _ hI hA hnI hnA).mono ?_
  rintro e w' ⟨r, rfl, hr0, hr1, -, rfl⟩
  by_cases g1 : 1048576 < r
  · go_wp2
    go_ret
    exact ⟨rfl, Below.refl _ _⟩
  by_cases hl : (I.length : Int) = (A.length : Int)
  rotate_left
  · have hl' : ((I.length : Int) == (A.length : Int)) = false := by simpa using hl
    go_wp2
    go_ret
    exact ⟨rfl, Below.refl _ _⟩
  have hl' : ((I.length : Int) == (A.length : Int)) = true := by simpa using hl
  have l1 : I.length ≤ A.length := by omega
  have l2 : A.length ≤ I.length := by omega
  clear hl
  by_cases g2 : kk < 0
  · go_wp2
    go_ret
    exact ⟨rfl, Below.refl _ _⟩
  by_cases g3 : (I.length : Int) < kk
  · go_wp2
    go_ret
    exact ⟨rfl, Below.refl _ _⟩
  obtain ⟨k, rfl⟩ := Int.eq_ofNat_of_zero_le (show 0 ≤ kk by omega)
  go_upto_if 38 with fail
  go_cut [0, 7] (fun s0 _ wx => ∃ ao' c', s0 = .slice ao' I.length c' ∧ Strs wx ao' I ∧ Below w'.heap.size w' wx)
  case first =>
    have hmk := mk23 I.length hIn
    cases ao with
    | none =>
      go_wp2
      go_meet
      case rel => exact ⟨_, _, rfl, hI, Below.refl _ _⟩
    | some a =>
      have hcp := copyEq w' a cap I hI
      go_wp2
      go_meet
      case rel => exact ⟨_, _, rfl, Strs.made _ _ _, (Below.refl _ _).alloc (Nat.le_refl _) _⟩
  case rest =>
    obtain ⟨ao', c', rfl, hI', hb1⟩ := hcut
    obtain ⟨w1, e1⟩ : ∃ x, x = wc := ⟨_, rfl⟩
    subst e1
    have hA' := hA.on hb1
    clear hI hA
    go_upto_if 47 with fail
    go_cut [1, 8] (fun s1 _ wx => ∃ a1' c1', s1 = .slice a1' A.length c1' ∧ Strs wx a1' A ∧ Below w1.heap.size w1 wx)
    case first =>
      have hmk := mk23 A.length hAn
      cases a1 with
      | none =>
        go_wp2
        go_meet
        case rel => exact ⟨_, _, rfl, hA', Below.refl _ _⟩
      | some a =>
        have hcp := copyEq w1 a c1 A hA'
        go_wp2
        go_meet
        case rel => exact ⟨_, _, rfl, Strs.made _ _ _, (Below.refl _ _).alloc (Nat.le_refl _) _⟩
    case rest =>
      obtain ⟨a1', c1', rfl, hA'', hb2⟩ := hcut
      obtain ⟨w2, e2⟩ : ∃ x, x = wc := ⟨_, rfl⟩
      subst e2
      have hI'' := hI'.on hb2
      have B2 : Below w'.heap.size w' w2 := hb1.trans (hb2.mono hb1.size)
      clear hI' hA' hb1 hb2
      go_wp2_with fail
      refine (cl11 _ _ _ _ I A _ hI'' hA'' l1 hIn).mono ?_
      rintro e w3 ⟨aC, rfl, -, hC, hb3⟩
      have hI3 := hI''.on hb3
      have B3 := B2.trans (hb3.mono B2.size)
      clear hI'' hA'' B2 hb3
      go_wp2_with fail
      refine (io12 aC _ I A _ hC l1 hIn).mono ?_
      rintro e w4 ⟨g1, rfl, hW4, hb4⟩
      have hC4 := hC.on hb4
      have hI4 := hI3.on hb4
      have B4 := B3.trans (hb4.mono B3.size)
      clear hC hI3 B3 hb4
      obtain ⟨m, hm⟩ : ∃ m, m = I.length - k := ⟨_, rfl⟩
      have hf := front26 aC I.length k (by omega)
      have hbk := back26 aC I.length k (by omega)
      rw [← hm] at hbk
      have hbm : ((m : Int) != (I.length : Int) - (k : Int)) = false := by simp; omega
      have hm1 : I.length ≤ k + m := by omega
      have hm2 : k + m ≤ I.length := by omega
      have Hm : Hid (m = I.length - k) := hm
      clear hm
      go_wp2_with fail
      refine (io12n aC k _ (I.take k) (A.take k) _ (hC4.front k) (by simp; omega) (by simp; omega) (by simp; omega)).mono ?_
      rintro e w5 ⟨g2, rfl, hL5, hb5⟩
      have hC5 := hC4.on hb5
      have hI5 := hI4.on hb5
      have hW5 := hW4.on hb5
      have B5 := B4.trans (hb5.mono B4.size)
      clear hC4 hI4 hW4 B4 hb5
      go_wp2_with fail
      refine (io12n (cutA aC I.length k) m _ (I.drop k) (A.drop k) _ (hC5.back k) (by simp; omega) (by simp; omega) (by simp; omega)).mono ?_
      rintro e w6 ⟨g3, rfl, hR6, hb6⟩
      have hI6 := hI5.on hb6
      have hW6 := hW5.on hb6
      have hL6 := hL5.on hb6
      have B6 := B5.trans (hb6.mono B5.size)
      clear hC5 hI5 hW5 hL5 B5 hb6 hf hbk
      go_wp2
      go_loopw [14] (fun i wr => ∃ j : Nat, j ≤ I.length ∧ i = .int .i64 j ∧ Below w6.heap.size w6 wr) (fun i _ => I.length - (intOf i).toNat)
      case atStart => exact ⟨0, Nat.zero_le _, rfl, Below.refl _ _⟩
      case round =>
        obtain ⟨j, hj, rfl, hb⟩ := hrel
        by_cases hlt : j < I.length
        · obtain ⟨s, hs⟩ := get_lt hlt
          obtain ⟨b, off, rfl, hc⟩ := hI6 j s hs
          obtain ⟨b1, off1, eq1, hc1⟩ := hW6 j s hs
          cases eq1
          have z1 := cell_on hc hb
          have z2 := cell_on hc1 hb
          rw [Nat.zero_add] at z2
          by_cases hjk : j < k
          · obtain ⟨b2, off2, eq2, hc2⟩ := hL6 j s (by rw [List.getElem?_take, if_pos hjk]; exact hs)
            cases eq2
            have z3 := cell_on hc2 hb
            rw [Nat.zero_add] at z3
            clear hs
            go_wp2
            go_quiet (fail)
            go_wp2
            go_quiet (fail)
            go_wp2
            go_roundw
            case rel => exact ⟨j + 1, by omega, by go_num, below_drewN hb _⟩
            case measure => simp [intOf]; omega
          · obtain ⟨b2, off2, eq2, hc2⟩ := hR6 (j - k) s (by rw [List.getElem?_drop, show k + (j - k) = j by omega]; exact hs)
            cases eq2
            have z3 := cell_on hc2 hb
            rw [Nat.zero_add] at z3
            clear hs
            obtain ⟨d, hd⟩ : ∃ d, d = j - k := ⟨_, rfl⟩
            have ed : ((j : Int) - (k : Int)) = (d : Int) := by omega
            have hdm : d < m := by omega
            rw [← hd] at z3
            have HD : Hid (d = j - k) := hd
            clear hd
            go_wp2
            go_quiet (fail)
            go_wp2
            go_quiet (fail)
            go_wp2
            go_roundw
            case rel => exact ⟨j + 1, by omega, by go_num, below_drewN hb _⟩
            case measure => simp [intOf]; omega
        · go_wp2
          go_ret
          exact ⟨rfl, B6.trans (hb.mono B6.size)⟩

end Go.Proofs.Qxb6617112a.Base
