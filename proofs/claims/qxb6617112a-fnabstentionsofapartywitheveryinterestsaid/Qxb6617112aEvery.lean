/-
  THE WALK of FnAbstentionsOfAPartyWithEveryInterest (7).
-/
import Derived.Test.Qxb6617112aLaw2
import Derived.Test.Qxb6617112aInted
import Derived.Test.Qxb6617112aBytes20
import Derived.Deep.DeepCutAuto
import Derived.Deep.QuietTactic
import Derived.BigQuiet
namespace Go.Proofs.Qxb6617112a.Base
open Go.RowKit

theorem Strs.drewN {w : World} {ao : Option Addr} {S : List ByteArray} (h : Strs w ao S) (n : Nat) : Strs (w.drewN n) ao S := h

theorem mk23c (n : Nat) (hn : n ≤ 1048576) (w : World) :
    (Instr.makeSlice 23 (.int .i64 0) (.int .i64 n)).run Try.prog w = .ok (.slice (some ⟨w.heap.size, 0, none⟩) 0 n) (w.alloc (.cells (made1 n) 9)) := by
  obtain ⟨i, hi, hz, hs, hb⟩ := info_parts info9
  have := run_make (P := Try.prog) w 23 9 i _ Try.underlying23 hi hz .i64 .i64 0 n (by omega) (by omega) (by rw [hb]; omega) (by omega)
  rw [hs] at this
  simpa [made1, Value.cells] using this

theorem front23 (ao : Option Addr) (n cap k : Nat) (hk : k ≤ cap) (w : World) :
    (Instr.slice 23 (.slice ao n cap) none (some (.int .i64 k)) none).run Try.prog w = .ok (.slice ao k cap) w := by
  have he : Try.prog.elem 23 = 9 := by kernel_rfl
  have h := run_slice_h (P := Try.prog) (w := w) 23 ao n cap (by rw [he]; exact Try.underlying23) .i64 k (by omega) (by omega)
  rw [h, he, run_size info9]
  simp [Result.andThen, sliced]
  cases ao with
  | none => simp
  | some a => simp [Addr.add]

theorem has21n (ao : Option Addr) (n cap : Nat) (S : List ByteArray) (v : ByteArray) (w : World) (h : Strs w ao S) (hlen : S.length = n) (hn : S.length ≤ maxLen) :
    Calls Try.prog 21 #[.slice ao n cap, .string v] w fun e w' => e = .returned (.bool (hasB S v)) ∧ w' = w := by
  subst hlen
  exact has21 ao cap S v w h hn

theorem in15n (ao a1 : Option Addr) (n m cap c1 : Nat) (ids : List ByteArray) (Ps : List (List ByteArray)) (w : World) (en : ids.length = n) (em : Ps.length = m) (hI : Strs w ao ids) (hR : Rws w a1 Ps) (hl : ids.length ≤ Ps.length) (hn : ids.length ≤ 1048576) (hP : ∀ P ∈ Ps, P.length ≤ 1048576) :
    Calls Try.prog 15 #[.slice ao n cap, .slice a1 m c1] w fun e w' => ∃ ao', e = .returned (.slice ao' n n) ∧ Ent w' false ao' ids Ps ∧ Below w.heap.size w w' := by
  subst en; subst em
  exact in15 ao a1 cap c1 ids Ps w hI hR hl hn hP

theorem Strs.take {w : World} {ao : Option Addr} {S : List ByteArray} (h : Strs w ao S) (k : Nat) : Strs w ao (S.take k) := fun j s hs => by
  rw [List.getElem?_take] at hs
  split at hs
  · exact h j s hs
  · cases hs

/-- '[]string{id}'. -/
theorem strs_one (w : World) (id : ByteArray) (t : TypeId) : Strs (w.alloc (.cells #[.string id] t)) (some ⟨w.heap.size, 0, none⟩) [id] := Strs.made w [id] t

/-- '[][]string{has}'. -/
theorem rws_one (w : World) (av : Option Addr) (c : Nat) (P : List ByteArray) (t : TypeId) (h : Strs w av P) (hP : P.length ≤ maxLen) : Rws (w.alloc (.cells #[.slice av P.length c] t)) (some ⟨w.heap.size, 0, none⟩) [P] := fun k Q hQ => by
  match k, hQ with
  | 0, hQ =>
    simp at hQ
    subst hQ
    refine ⟨_, _, av, c, rfl, ?_, h.on ((Below.refl _ _).alloc (Nat.le_refl _) _), hP⟩
    exact (World.rowIs_alloc w #[.slice av P.length c] t (fun _ => .slice av P.length c) (fun i hi => by
      match i, hi with
      | 0, _ => rfl)).cell (i := 0) (by simp)

set_option maxHeartbeats 4000000 in
set_option maxRecDepth 100000 in
theorem walk7 (id : ByteArray) (ao a1 : Option Addr) (cap c1 : Nat) (I A : List ByteArray) (w : World) (hI : Strs w ao I) (hA : Strs w a1 A) (hnI : I.length ≤ maxLen) (hnA : A.length ≤ maxLen) :
    Calls Try.prog 7 #[.string id, .slice ao I.length cap, .slice a1 A.length c1] w fun e w' => e = .returned (.bool true) ∧ Below w.heap.size w w' := by
  have hne := fun w a n c => run_neq_slice_nil_any (P := Try.prog) w 23 9 a n c 0 0 Try.underlying23
  have heq := fun w a n c => Lib.run_eql_slice_nil (P := Try.prog) w 23 9 a n c 0 0 Try.underlying23
  go_enter Try.func7, Try.ntmps7
  go_wp2_with fail
  refine (zb20 _ _ _ _ _ _ _ _ hI hA).mono ?_
  rintro e w' ⟨r, rfl, hr, rfl⟩
  cases r with
  | false =>
    go_wp2
    go_ret
    exact ⟨rfl, Below.refl _ _⟩
  | true =>
  obtain ⟨hid, hIn, hAn⟩ := hr rfl
  clear hr
  go_wp2_with fail
  refine (cb10 _ _ _ _ _ _ _ hI hA hnI hnA).mono ?_
  rintro e w' ⟨r, rfl, hr0, hr1, hr2, rfl⟩
  by_cases g1 : 1048576 < r + (id.size : Int)
  · go_wp2
    go_ret
    exact ⟨rfl, Below.refl _ _⟩
  obtain ⟨s4, -⟩ := hr2 (by omega)
  clear hr2
  by_cases hl : (I.length : Int) = (A.length : Int)
  rotate_left
  · have hl' : ((I.length : Int) == (A.length : Int)) = false := by simpa using hl
    go_wp2
    go_ret
    exact ⟨rfl, Below.refl _ _⟩
  have hl' : ((I.length : Int) == (A.length : Int)) = true := by simpa using hl
  have l1 : I.length ≤ A.length := by omega
  have l2 : A.length ≤ I.length := by omega
  clear hl
  go_upto_if 42 with fail
  go_cut [1, 7] (fun s0 _ wx => ∃ ao' c', s0 = .slice ao' I.length c' ∧ Strs wx ao' I ∧ Below w'.heap.size w' wx)
  case first =>
    have hmk := mk23 I.length hIn
    cases ao with
    | none =>
      go_wp2
      go_meet
      case rel => exact ⟨_, _, rfl, hI, Below.refl _ _⟩
    | some a =>
      have hcp := copyEq w' a cap I hI
      go_wp2
      go_meet
      case rel => exact ⟨_, _, rfl, Strs.made _ _ _, (Below.refl _ _).alloc (Nat.le_refl _) _⟩
  case rest =>
    obtain ⟨ao', c', rfl, hI', hb1⟩ := hcut
    obtain ⟨w1, e1⟩ : ∃ x, x = wc := ⟨_, rfl⟩
    subst e1
    have hA' := hA.on hb1
    clear hI
    go_upto_if 51 with fail
    go_cut [2, 8] (fun s1 _ wx => ∃ a1' c1', s1 = .slice a1' A.length c1' ∧ A.length ≤ c1' ∧ Strs wx a1' A ∧ Below w1.heap.size w1 wx)
    case first =>
      have hmk := mk23 A.length hAn
      cases a1 with
      | none =>
        have e0 : A.length ≤ 0 := by
          match A, hA with
          | [], _ => simp
          | s :: r, h => obtain ⟨_, _, e, _⟩ := h 0 s rfl; cases e
        go_wp2
        go_meet
        case rel => exact ⟨_, _, rfl, by omega, hA', Below.refl _ _⟩
      | some a =>
        have hcp := copyEq w1 a c1 A hA'
        go_wp2
        go_meet
        case rel => exact ⟨_, _, rfl, Nat.le_refl _, Strs.made _ _ _, (Below.refl _ _).alloc (Nat.le_refl _) _⟩
    case rest =>
      obtain ⟨a1', c1', rfl, hcap, hA'', hb2⟩ := hcut
      obtain ⟨w2, e2⟩ : ∃ x, x = wc := ⟨_, rfl⟩
      subst e2
      have hI'' := hI'.on hb2
      have B2 : Below w'.heap.size w' w2 := hb1.trans (hb2.mono hb1.size)
      clear hI' hA' hb1 hb2 hA
      go_wp2_with fail
      refine (cl11 _ _ _ _ I A _ hI'' hA'' l1 hIn).mono ?_
      rintro e w3 ⟨aC, rfl, -, hC3, hb3⟩
      have hA3 := hA''.on hb3
      have B3 := B2.trans (hb3.mono B2.size)
      clear hI'' hA'' B2 hb3
      go_wp2_with fail
      refine (io12 aC _ I A _ hC3 l1 hIn).mono ?_
      rintro e w4 ⟨g1, rfl, hW4, hb4⟩
      have hC4 := hC3.on hb4
      have hA4 := hA3.on hb4
      have B4 := B3.trans (hb4.mono B3.size)
      clear hC3 hA3 B3 hb4
      have hmk := mk23c I.length hIn
      obtain ⟨i0, hi, hz0, hz1, hz2⟩ := info_parts info9
      go_wp2
      go_loopw [11, 12] (fun v i wr => ∃ (k : Nat), k ≤ I.length ∧ i = .int .i64 k ∧ v = .slice (some ⟨w4.heap.size, 0, none⟩) k I.length ∧ wr.ownsRow w4.heap.size 9 1 (.slice (some ⟨w4.heap.size, 0, none⟩) k I.length) k ((I.take k).map Value.string) ∧ Below w4.heap.size w4 wr) (fun _ i _ => I.length - (intOf i).toNat)
      case atStart => exact ⟨0, Nat.zero_le _, rfl, rfl, World.ownsRow_made w4 _ _ (Nat.le_refl _) (by unfold maxLen; omega) (by simp [made1, size_madeCells]), (Below.refl _ _).alloc (Nat.le_refl _) _⟩
      case round =>
        obtain ⟨k, hk, rfl, rfl, hown, hb⟩ := hrel
        by_cases hlt : k < I.length
        · obtain ⟨s, hs⟩ := get_lt hlt
          obtain ⟨b, off, ea, hc⟩ := hW4 k s hs
          cases ea
          have z1 := cell_on hc hb
          rw [Nat.zero_add] at z1
          have HS : Hid (I[k]? = some s) := hs
          clear hs
          go_wp2_with (at_builtin; refine wpList_append_fits _ rfl _ _ 23 rfl w4.heap.size 9 i0 1 Try.underlying23 hi hz1 w4.heap.size k I.length _ rfl (hown.alloc _) ⟨wr.heap.size, 0, none⟩ 1 1 [.string s] rfl rfl ?c1 ?c2 ?c3 ?_)
          case c1 =>
            intro j u hj
            match j, hj with
            | 0, hj => simp at hj; subst hj; simp [Addr.add]
          case c2 => intro u hu; simp at hu; subst hu; rfl
          case c3 => omega
          · intro w5 hown1 hgrow
            have hsz := hb.size
            have R1 : w5.ownsRow w4.heap.size 9 1 (.slice (some ⟨w4.heap.size, 0, none⟩) (k + 1) I.length) (k + 1) ((I.take (k + 1)).map Value.string) := by
              rw [take_snoc HS.out, List.map_append, List.map_take]; exact hown1
            have R2 : Below w4.heap.size w4 w5 := (hb.alloc hsz _).grown hgrow (by simp; omega) (fun x hx => by cases hx; exact Nat.le_refl _)
            clear hown1 hgrow hown hb
            go_wp2
            go_roundw
            case rel => exact ⟨k + 1, by omega, by go_num, rfl, R1, R2⟩
            case measure => simp [intOf]; omega
        · obtain rfl : k = I.length := by omega
          obtain ⟨w5, e5⟩ : ∃ x, x = wr := ⟨_, rfl⟩
          subst e5
          have hH5 : Strs w5 (some ⟨w4.heap.size, 0, none⟩) I := fun j s hs => by
            have hj : j < I.length := (List.getElem?_eq_some_iff.1 hs).1
            exact ⟨_, _, rfl, by rw [Nat.zero_add, hown.cellAt j (by omega), List.take_of_length_le (Nat.le_refl _), List.getElem?_map, hs]; rfl⟩
          have hC5 := hC4.on hb
          have hA5 := hA4.on hb
          have B5 := B4.trans (hb.mono B4.size)
          clear hC4 hA4 B4 hb hown hW4
          have hIds : Strs ((w5.alloc (.cells #[.string id] 9)).alloc (.cells #[.slice (some ⟨w4.heap.size, 0, none⟩) I.length I.length] 23)) (some ⟨w5.heap.size, 0, none⟩) [id] :=
            (strs_one w5 id 9).on ((Below.refl _ _).alloc (Nat.le_refl _) _)
          have hRw : Rws ((w5.alloc (.cells #[.string id] 9)).alloc (.cells #[.slice (some ⟨w4.heap.size, 0, none⟩) I.length I.length] 23)) (some ⟨w5.heap.size + 1, 0, none⟩) [I] := by
            have h := rws_one (w5.alloc (.cells #[.string id] 9)) (some ⟨w4.heap.size, 0, none⟩) I.length I 23 (hH5.on ((Below.refl _ _).alloc (Nat.le_refl _) _)) hnI
            have e : (w5.alloc (.cells #[.string id] 9)).heap.size = w5.heap.size + 1 := by simp
            rwa [e] at h
          have b6 : Below w5.heap.size w5 ((w5.alloc (.cells #[.string id] 9)).alloc (.cells #[.slice (some ⟨w4.heap.size, 0, none⟩) I.length I.length] 23)) := ((Below.refl _ _).alloc (Nat.le_refl _) _).alloc (by simp) _
          have hC6 := hC5.on b6
          have hA6 := hA5.on b6
          have B6 := B5.trans (b6.mono B5.size)
          clear hC5 hA5 B5 b6 hH5
          go_wp2_with fail
          refine (in15n _ _ 1 1 _ _ [id] [I] _ rfl rfl hIds hRw (by simp) (by simp) (fun P hP => by simp at hP; subst hP; exact hIn)).mono ?_
          rintro e w7 ⟨aR, rfl, hE7, hb7⟩
          have hC7 := hC6.on hb7
          have hA7 := hA6.on hb7
          have B7 := B6.trans (hb7.mono B6.size)
          clear hC6 hA6 B6 hb7 hIds hRw
          go_wp2_with fail
          refine (ab16 _ _ 1 _ _ _ false [id] [I] I A _ hE7 hC7 rfl rfl (by simp) l1 (by simp) hIn (fun P hP => by simp at hP; subst hP; exact hnI)).mono ?_
          rintro e w8 ⟨xa, xc, rfl, hE8, -, hb8⟩
          have hA8 := hA7.on hb8
          have B8 := B7.trans (hb8.mono B7.size)
          obtain ⟨xb, xo, av, ac, rfl, x1, x2, hS8, hnn⟩ := hE8 0 id (dd A) rfl (by simp [arts_every I A (by omega)])
          have hnn := hnn rfl
          clear hA7 hC7 hE7 hE8 B7 hb8
          rw [Nat.zero_mul, Nat.add_zero] at x1 x2
          obtain ⟨L, hL⟩ : ∃ L, L = dd A := ⟨_, rfl⟩
          rw [← hL] at x2 hS8 hnn
          have hLn : L.length ≤ 1048576 := by rw [hL]; have := dd_le A; omega
          have hbn : (av.isNone == ((L.length : Int) == 0)) = true := by
            have : av.isNone = ((L.length : Int) == 0) := by
              rw [Bool.eq_iff_iff, Option.isNone_iff_eq_none, hnn]
              simp
            rw [this]; simp
          have HL : Hid (L = dd A) := hL
          clear hnn hL
          go_wp2
          go_loopw [17, 18] (fun n i wr => ∃ j m : Nat, j ≤ A.length ∧ m ≤ L.length ∧ i = .int .i64 j ∧ n = .int .i64 m ∧ Hid (m = (dd (A.take j)).length) ∧ Below w8.heap.size w8 wr) (fun _ i _ => A.length - (intOf i).toNat)
          case atStart => exact ⟨0, 0, Nat.zero_le _, Nat.zero_le _, rfl, rfl, rfl, Below.refl _ _⟩
          case round =>
            obtain ⟨j, m, hj, hmL, rfl, rfl, hm, hb⟩ := hrel
            by_cases hlt : j < A.length
            · obtain ⟨t, ht⟩ := get_lt hlt
              obtain ⟨b, off, rfl, hc⟩ := hA8 j t ht
              have z1 := cell_on hc hb
              have hT := (hA8.take j).on hb
              have hfr := front23 (some ⟨b, off, none⟩) A.length c1' j (by omega)
              have hjn : (A.take j).length = j := by simp; omega
              have HJ : Hid ((A.take j).length = j) := hjn
              cases hh : hasB (A.take j) t with
              | true =>
                have HM : Hid (m = (dd (A.take (j + 1))).length) := by show m = _; rw [dd_old ht hh]; exact hm.out
                have HH : Hid (hasB (A.take j) t = true) := hh
                clear ht hjn hh
                go_wp2
                go_quiet ((go_at_call 21; refine Calls.quiet_of_same (has21n _ _ _ (A.take j) t _ ?_ ?_ ?_); exact hT.drewN _; exact HJ.out; (rw [HJ.out]; unfold maxLen; omega)))
                rw [HH.out]
                go_wp2
                go_roundw
                case rel => exact ⟨j + 1, m, by omega, hmL, by go_num, rfl, HM, below_drewN hb _⟩
                case measure => simp [intOf]; omega
              | false =>
                obtain ⟨e1, e2, e3⟩ := dd_new ht hh
                rw [← hm.out, ← HL.out] at e2
                rw [← hm.out, ← HL.out] at e3
                have HM : Hid (m + 1 = (dd (A.take (j + 1))).length) := by show m + 1 = _; rw [e1, hm.out]; simp
                obtain ⟨b3, off3, rfl, hc3⟩ := hS8 m t e2
                have z2 := cell_on hc3 hb
                have hd : decide ((L.length : Int) ≤ (m : Int)) = false := decide_eq_false (by omega)
                have hmi : (m : Int) < (L.length : Int) := by omega
                have HH : Hid (hasB (A.take j) t = false) := hh
                clear ht hjn hh e1 e2
                go_wp2
                go_quiet ((go_at_call 21; refine Calls.quiet_of_same (has21n _ _ _ (A.take j) t _ ?_ ?_ ?_); exact hT.drewN _; exact HJ.out; (rw [HJ.out]; unfold maxLen; omega)))
                rw [HH.out]
                go_wp2
                go_quiet (fail)
                go_wp2
                go_roundw
                case rel => exact ⟨j + 1, m + 1, by omega, by omega, by go_num, by go_num, HM, below_drewN hb _⟩
                case measure => simp [intOf]; omega
            · obtain rfl : m = L.length := by
                have e := hm.out
                rw [List.take_of_length_le (by omega), ← HL.out] at e
                exact e
              go_wp2
              go_ret
              exact ⟨rfl, B8.trans (hb.mono B8.size)⟩

end Go.Proofs.Qxb6617112a.Base
