/-
  THE WALK of FnAbstentionsSplitOverParties (6).
-/
import Derived.Test.Qxb6617112aSame
import Derived.Test.Qxb6617112aBytes18
import Derived.Deep.DeepCutAuto
namespace Go.Proofs.Qxb6617112a.Base
open Go.RowKit

theorem front34 (ao : Option Addr) (n k : Nat) (hk : k ≤ n) (w : World) :
    (Instr.slice 34 (.slice ao n n) none (some (.int .i64 k)) none).run Try.prog w = .ok (.slice ao k n) w := by
  have he : Try.prog.elem 34 = 52 := by kernel_rfl
  have h := run_slice_h (P := Try.prog) (w := w) 34 ao n n (by rw [he]; exact Try.underlying34) .i64 k (by omega) (by omega)
  rw [h, he, run_size info52]
  simp [Result.andThen, sliced]
  cases ao with
  | none => simp
  | some a => simp [Addr.add]

theorem back34 (ao : Option Addr) (n k : Nat) (hk : k ≤ n) (w : World) :
    (Instr.slice 34 (.slice ao n n) (some (.int .i64 k)) none none).run Try.prog w = .ok (.slice (cutA ao n k) (n - k) (n - k)) w := by
  have he : Try.prog.elem 34 = 52 := by kernel_rfl
  have h := run_slice_l (P := Try.prog) (w := w) 34 ao n n (by rw [he]; exact Try.underlying34) .i64 k (by omega) (by omega)
  rw [h, he, run_size info52]
  simp [Result.andThen, sliced, cutA]

theorem Ent.front {w : World} {nn : Bool} {ao : Option Addr} {ids : List ByteArray} {Ls : List (List ByteArray)} (h : Ent w nn ao ids Ls) (k : Nat) : Ent w nn ao (ids.take k) (Ls.take k) := fun j s t hs ht => by
  rw [List.getElem?_take] at hs ht
  split at hs
  · rename_i hj
    rw [if_pos hj] at ht
    exact h j s t hs ht
  · cases hs

theorem Ent.back {w : World} {nn : Bool} {ao : Option Addr} {ids : List ByteArray} {Ls : List (List ByteArray)} (h : Ent w nn ao ids Ls) (k : Nat) : Ent w nn (cutA ao ids.length k) (ids.drop k) (Ls.drop k) := fun j s t hs ht => by
  rw [List.getElem?_drop] at hs ht
  obtain ⟨b, off, av, c, rfl, hc, hd, h3⟩ := h (k + j) s t hs ht
  have hlt : k + j < ids.length := (List.getElem?_eq_some_iff.1 hs).1
  refine ⟨b, off + k * 2, av, c, cutA_some b off _ _ (by omega), ?_, ?_, h3⟩
  · rw [show off + k * 2 + j * 2 = off + (k + j) * 2 by omega]; exact hc
  · rw [show off + k * 2 + j * 2 + 1 = off + (k + j) * 2 + 1 by omega]; exact hd

theorem Strs.alloc {w : World} {ao : Option Addr} {S : List ByteArray} (h : Strs w ao S) (o : Obj) : Strs (w.alloc o) ao S := h.on ((Below.refl _ _).alloc (Nat.le_refl _) _)
theorem Strs.drewN {w : World} {ao : Option Addr} {S : List ByteArray} (h : Strs w ao S) (n : Nat) : Strs (w.drewN n) ao S := h

theorem none_iff {a b : Option Addr} {p : Prop} (h : a = none ↔ p) (k : b = none ↔ p) : a.isNone = b.isNone := by
  rw [Bool.eq_iff_iff, Option.isNone_iff_eq_none, Option.isNone_iff_eq_none, h, k]

set_option maxHeartbeats 4000000 in
set_option maxRecDepth 100000 in
theorem walk6 (a0 a1 a2 a3 : Option Addr) (c0 c1 c2 c3 : Nat) (ids : List ByteArray) (Ps : List (List ByteArray)) (I A : List ByteArray) (kk : Int) (w : World) (hD : Strs w a0 ids) (hR : Rws w a1 Ps) (hI : Strs w a2 I) (hA : Strs w a3 A)
    (n0 : ids.length ≤ maxLen) (n2 : I.length ≤ maxLen) (n3 : A.length ≤ maxLen) :
    Calls Try.prog 6 #[.slice a0 ids.length c0, .slice a1 Ps.length c1, .slice a2 I.length c2, .slice a3 A.length c3, .int .i64 kk] w fun e w' => e = .returned (.bool true) ∧ Below w.heap.size w w' := by
  have hne := fun w a n c => run_neq_slice_nil_any (P := Try.prog) w 23 9 a n c 0 0 Try.underlying23
  go_enter Try.func6, Try.ntmps6
  go_wp2_with fail
  refine (zb18 _ _ _ _ _ _ _ _ _ _ _ _ _ _ hD hR hI hA).mono ?_
  rintro e w' ⟨r, rfl, hr, rfl⟩
  cases r with
  | false =>
    go_wp2
    go_ret
    exact ⟨rfl, Below.refl _ _⟩
  | true =>
  obtain ⟨m0, m1, m2, m3, mP⟩ := hr rfl
  clear hr
  have HmP : Hid (∀ P ∈ Ps, P.length ≤ 1048576) := mP
  clear mP
  go_wp2_with fail
  refine (ab14 _ _ _ _ _ _ _ _ _ _ _ _ _ hD hR hI hA n0 n2 n3).mono ?_
  rintro e w' ⟨r, rfl, rfl⟩
  by_cases g1 : 1048576 < r
  · go_wp2
    go_ret
    exact ⟨rfl, Below.refl _ _⟩
  by_cases hl : (Ps.length : Int) = (ids.length : Int)
  rotate_left
  · have hl' : ((Ps.length : Int) == (ids.length : Int)) = false := by simpa using hl
    go_wp2
    go_ret
    exact ⟨rfl, Below.refl _ _⟩
  have hl' : ((Ps.length : Int) == (ids.length : Int)) = true := by simpa using hl
  have l1 : Ps.length ≤ ids.length := by omega
  have l2 : ids.length ≤ Ps.length := by omega
  clear hl
  by_cases hl : (I.length : Int) = (A.length : Int)
  rotate_left
  · have hl'' : ((I.length : Int) == (A.length : Int)) = false := by simpa using hl
    go_wp2
    go_ret
    exact ⟨rfl, Below.refl _ _⟩
  have hl'' : ((I.length : Int) == (A.length : Int)) = true := by simpa using hl
  have l3 : I.length ≤ A.length := by omega
  have l4 : A.length ≤ I.length := by omega
  clear hl
  by_cases g2 : kk < 0
  · go_wp2
    go_ret
    exact ⟨rfl, Below.refl _ _⟩
  by_cases g3 : (ids.length : Int) < kk
  · go_wp2
    go_ret
    exact ⟨rfl, Below.refl _ _⟩
  obtain ⟨k, rfl⟩ := Int.eq_ofNat_of_zero_le (show 0 ≤ kk by omega)
  go_upto_if 55 with fail
  go_cut [0, 11] (fun s0 _ wx => ∃ a' c', s0 = .slice a' ids.length c' ∧ Strs wx a' ids ∧ Below w'.heap.size w' wx)
  case first =>
    have hmk := mk23 ids.length m0
    cases a0 with
    | none =>
      go_wp2
      go_meet
      case rel => exact ⟨_, _, rfl, hD, Below.refl _ _⟩
    | some a =>
      have hcp := copyEq w' a c0 ids hD
      go_wp2
      go_meet
      case rel => exact ⟨_, _, rfl, Strs.made _ _ _, (Below.refl _ _).alloc (Nat.le_refl _) _⟩
  case rest =>
    obtain ⟨a0', c0', rfl, hD1, hb1⟩ := hcut
    obtain ⟨w1, e1⟩ : ∃ x, x = wc := ⟨_, rfl⟩
    subst e1
    have hR1 := hR.on hb1
    have hI1 := hI.on hb1
    have hA1 := hA.on hb1
    clear hR hI hA hD
    go_upto_if 64 with fail
    go_cut [2, 12] (fun s0 _ wx => ∃ a' c', s0 = .slice a' I.length c' ∧ Strs wx a' I ∧ Below w1.heap.size w1 wx)
    case first =>
      have hmk := mk23 I.length m2
      cases a2 with
      | none =>
        go_wp2
        go_meet
        case rel => exact ⟨_, _, rfl, hI1, Below.refl _ _⟩
      | some a =>
        have hcp := copyEq w1 a c2 I hI1
        go_wp2
        go_meet
        case rel => exact ⟨_, _, rfl, Strs.made _ _ _, (Below.refl _ _).alloc (Nat.le_refl _) _⟩
    case rest =>
      obtain ⟨a2', c2', rfl, hI2, hb2⟩ := hcut
      obtain ⟨w2, e2⟩ : ∃ x, x = wc := ⟨_, rfl⟩
      subst e2
      have hR2 := hR1.on hb2
      have hD2 := hD1.on hb2
      have hA2 := hA1.on hb2
      have B2 : Below w'.heap.size w' w2 := hb1.trans (hb2.mono hb1.size)
      clear hR1 hI1 hA1 hD1 hb1 hb2
      go_upto_if 73 with fail
      go_cut [3, 13] (fun s0 _ wx => ∃ a' c', s0 = .slice a' A.length c' ∧ Strs wx a' A ∧ Below w2.heap.size w2 wx)
      case first =>
        have hmk := mk23 A.length m3
        cases a3 with
        | none =>
          go_wp2
          go_meet
          case rel => exact ⟨_, _, rfl, hA2, Below.refl _ _⟩
        | some a =>
          have hcp := copyEq w2 a c3 A hA2
          go_wp2
          go_meet
          case rel => exact ⟨_, _, rfl, Strs.made _ _ _, (Below.refl _ _).alloc (Nat.le_refl _) _⟩
      case rest =>
        obtain ⟨a3', c3', rfl, hA3, hb3⟩ := hcut
        obtain ⟨w3, e3⟩ : ∃ x, x = wc := ⟨_, rfl⟩
        subst e3
        have hR3 := hR2.on hb3
        have hD3 := hD2.on hb3
        have hI3 := hI2.on hb3
        have B3 : Below w'.heap.size w' w3 := B2.trans (hb3.mono B2.size)
        clear hR2 hI2 hA2 hD2 B2 hb3
        have HX := hR3.le
        have HPm : Hid (∀ P ∈ Ps, P.length ≤ maxLen) := HX
        clear HX
        go_wp2_with fail
        refine (in15 _ _ _ _ ids Ps _ hD3 hR3 l2 m0 HmP.out).mono ?_
        rintro e w4 ⟨aR, rfl, hE4, hb4⟩
        have hD4 := hD3.on hb4
        have hI4 := hI3.on hb4
        have hA4 := hA3.on hb4
        have B4 := B3.trans (hb4.mono B3.size)
        clear hD3 hI3 hA3 hR3 B3 hb4
        go_wp2_with fail
        refine (cl11 _ _ _ _ I A _ hI4 hA4 l3 m2).mono ?_
        rintro e w5 ⟨aC, rfl, -, hC5, hb5⟩
        have hD5 := hD4.on hb5
        have hE5 := hE4.on hb5
        have B5 := B4.trans (hb5.mono B4.size)
        clear hD4 hI4 hA4 hE4 B4 hb5
        go_wp2_with fail
        refine (ab16 _ _ _ _ _ _ false ids Ps I A _ hE5 hC5 rfl rfl l2 l3 m0 m2 HPm.out).mono ?_
        rintro e w6 ⟨x1, xc1, rfl, hW6, hx1, hb6⟩
        have hD6 := hD5.on hb6
        have hE6 := hE5.on hb6
        have hC6 := hC5.on hb6
        have B6 := B5.trans (hb6.mono B5.size)
        clear hD5 hE5 hC5 B5 hb6 hx1
        obtain ⟨m, hm⟩ : ∃ m, m = ids.length - k := ⟨_, rfl⟩
        have hf := front34 aR ids.length k (by omega)
        have hbk := back34 aR ids.length k (by omega)
        rw [← hm] at hbk
        have hbm : ((m : Int) != (ids.length : Int) - (k : Int)) = false := by simp; omega
        have hm1 : ids.length ≤ k + m := by omega
        have hm2 : k + m ≤ ids.length := by omega
        have Hm : Hid (m = ids.length - k) := hm
        clear hm
        go_wp2_with fail
        refine (ab16 _ _ _ _ _ _ false (ids.take k) (Ps.take k) I A _ (hE6.front k) hC6 (by simp; omega) rfl (by simp; omega) l3 (by simp; omega) m2 (fun P hP => HPm.out P (List.mem_of_mem_take hP))).mono ?_
        rintro e w7 ⟨x2, xc2, rfl, hL7, hx2, hb7⟩
        have hD7 := hD6.on hb7
        have hE7 := hE6.on hb7
        have hC7 := hC6.on hb7
        have hW7 := hW6.on hb7
        have B7 := B6.trans (hb7.mono B6.size)
        clear hD6 hE6 hC6 hW6 B6 hb7 hx2
        go_wp2_with fail
        refine (ab16 _ _ _ _ _ _ false (ids.drop k) (Ps.drop k) I A _ (hE7.back k) hC7 (by simp; omega) rfl (by simp; omega) l3 (by simp; omega) m2 (fun P hP => HPm.out P (List.mem_of_mem_drop hP))).mono ?_
        rintro e w8 ⟨x3, xc3, rfl, hR8, hx3, hb8⟩
        have hD8 := hD7.on hb8
        have hW8 := hW7.on hb8
        have hL8 := hL7.on hb8
        have B8 := B7.trans (hb8.mono B7.size)
        clear hD7 hE7 hC7 hW7 hL7 B7 hb8 hx3 hf hbk
        go_wp2
        go_loopw [19] (fun i wr => ∃ j : Nat, j ≤ ids.length ∧ i = .int .i64 j ∧ Below w8.heap.size w8 wr) (fun i _ => ids.length - (intOf i).toNat)
        case atStart => exact ⟨0, Nat.zero_le _, rfl, Below.refl _ _⟩
        case round =>
          obtain ⟨j, hj, rfl, hb⟩ := hrel
          by_cases hlt : j < ids.length
          · obtain ⟨id, hid⟩ := get_lt hlt
            obtain ⟨P, hP⟩ := get_lt (show j < Ps.length by omega)
            obtain ⟨b, off, rfl, hc⟩ := hD8 j id hid
            obtain ⟨b1, off1, av1, ac1, rfl, hw1, hw2, hw3, hw4⟩ := hW8 j id (arts P (I.zip A)) hid (by simp [hP])
            obtain ⟨L, hLe⟩ : ∃ L, L = arts P (I.zip A) := ⟨_, rfl⟩
            have hLn : L.length ≤ maxLen := by
              rw [hLe]
              have h1 := arts_le P (I.zip A)
              rw [List.length_zip] at h1
              unfold maxLen; omega
            rw [← hLe] at hw2 hw3 hw4
            have z0 := cell_on hc hb
            have z1 := cell_on hw1 hb
            have z2 := cell_on hw2 hb
            have z3 := hw3.on hb
            have z0' := fun o => cell_alloc z0 o
            have z1' := fun o => cell_alloc z1 o
            have z2' := fun o => cell_alloc z2 o
            have hwn := hw4 rfl
            have HWN : Hid (av1 = none ↔ L = []) := hwn
            clear hwn hw4
            by_cases hjk : j < k
            · obtain ⟨b2, off2, av2, ac2, rfl, hv1, hv2, hv3, hv4⟩ := hL8 j id L (by rw [List.getElem?_take, if_pos hjk]; exact hid) (by rw [List.getElem?_map, List.getElem?_take, if_pos hjk, hP, hLe]; rfl)
              have y1 := cell_on hv1 hb
              have y2 := cell_on hv2 hb
              have y3 := hv3.on hb
              have y1' := fun o => cell_alloc y1 o
              have y2' := fun o => cell_alloc y2 o
              have hvn := hv4 rfl
              have HNN : Hid (av1.isNone = av2.isNone) := none_iff HWN.out hvn
              clear hvn hv4 hid hP hLe
              go_wp2
              go_quiet (fail)
              obtain ⟨wd, hwd⟩ : ∃ x, x = (wr.alloc (.cells #[.string id, .slice av2 L.length ac2] 39)).drewN nq := ⟨_, rfl⟩
              rw [← hwd]
              have t1 : wd.cell? ⟨b1, off1 + j * 2 + 1, none⟩ = some (.slice av1 L.length ac1) := by rw [hwd]; exact z2' _
              have t2 : wd.cell? ⟨wr.heap.size, 1, none⟩ = some (.slice av2 L.length ac2) := by rw [hwd]; exact (two_row wr _ _ 39).cell (i := 1) (by omega)
              have t3 : Strs wd av1 L := by rw [hwd]; exact (z3.alloc _).drewN _
              have t4 : Strs wd av2 L := by rw [hwd]; exact (y3.alloc _).drewN _
              have t5 : Below w8.heap.size w8 wd := by rw [hwd]; exact below_drewN (hb.alloc hb.size _) _
              clear hwd
              go_wp2
              go_quiet ((go_at_call 19; refine Calls.quiet_of (same19 _ _ _ _ L _ ?_ ?_ ?_ ?_); exact t3.drewN _; exact t4.drewN _; exact HNN.out; exact hLn))
              go_wp2
              go_roundw
              case rel => exact ⟨j + 1, by omega, by go_num, below_drewN t5 _⟩
              case measure => simp [intOf]; omega
            · obtain ⟨d, hd⟩ : ∃ d, d = j - k := ⟨_, rfl⟩
              obtain ⟨b2, off2, av2, ac2, rfl, hv1, hv2, hv3, hv4⟩ := hR8 d id L (by rw [List.getElem?_drop, show k + d = j by omega]; exact hid) (by rw [List.getElem?_map, List.getElem?_drop, show k + d = j by omega, hP, hLe]; rfl)
              have ed : ((j : Int) - (k : Int)) = (d : Int) := by omega
              have hdm : d < m := by omega
              have HD : Hid (d = j - k) := hd
              have y1 := cell_on hv1 hb
              have y2 := cell_on hv2 hb
              have y3 := hv3.on hb
              have y1' := fun o => cell_alloc y1 o
              have y2' := fun o => cell_alloc y2 o
              have hvn := hv4 rfl
              have HNN : Hid (av1.isNone = av2.isNone) := none_iff HWN.out hvn
              clear hvn hv4 hid hP hLe hd
              go_wp2
              go_quiet (fail)
              obtain ⟨wd, hwd⟩ : ∃ x, x = (wr.alloc (.cells #[.string id, .slice av2 L.length ac2] 39)).drewN nq := ⟨_, rfl⟩
              rw [← hwd]
              have t1 : wd.cell? ⟨b1, off1 + j * 2 + 1, none⟩ = some (.slice av1 L.length ac1) := by rw [hwd]; exact z2' _
              have t2 : wd.cell? ⟨wr.heap.size, 1, none⟩ = some (.slice av2 L.length ac2) := by rw [hwd]; exact (two_row wr _ _ 39).cell (i := 1) (by omega)
              have t3 : Strs wd av1 L := by rw [hwd]; exact (z3.alloc _).drewN _
              have t4 : Strs wd av2 L := by rw [hwd]; exact (y3.alloc _).drewN _
              have t5 : Below w8.heap.size w8 wd := by rw [hwd]; exact below_drewN (hb.alloc hb.size _) _
              clear hwd
              go_wp2
              go_quiet ((go_at_call 19; refine Calls.quiet_of (same19 _ _ _ _ L _ ?_ ?_ ?_ ?_); exact t3.drewN _; exact t4.drewN _; exact HNN.out; exact hLn))
              go_wp2
              go_roundw
              case rel => exact ⟨j + 1, by omega, by go_num, below_drewN t5 _⟩
              case measure => simp [intOf]; omega
          · go_wp2
            go_ret
            exact ⟨rfl, B8.trans (hb.mono B8.size)⟩

end Go.Proofs.Qxb6617112a.Base
