/-
  THE WALKS of zzFirstMatch (26) and zzArticlesFit (17).
-/
import Derived.Test.Qxb6617112aLaw
namespace Go.Proofs.Qxb6617112a.Base
open Go.RowKit

theorem fmI_hit {a : ByteArray} {has : List ByteArray} {C : List (ByteArray × ByteArray)} {j : Nat} {p : ByteArray × ByteArray} (hno : ∀ q ∈ C.take j, matchB a has q = false) (hp : C[j]? = some p) (hm : matchB a has p = true) : fmI a has C = (j : Int) := by
  obtain ⟨hlt, e⟩ := List.getElem?_eq_some_iff.1 hp
  have : fst? a has C = some j := by
    unfold fst?
    rw [List.findIdx?_eq_some_iff_getElem]
    refine ⟨hlt, by rw [e]; exact hm, fun i hi => ?_⟩
    have := hno (C[i]) (List.mem_take_iff_getElem.2 ⟨i, by omega, rfl⟩)
    simp [this]
  simp [fmI, this]

theorem fmI_none {a : ByteArray} {has : List ByteArray} {C : List (ByteArray × ByteArray)} (hno : ∀ q ∈ C, matchB a has q = false) : fmI a has C = -1 := by
  have : fst? a has C = none := by unfold fst?; rw [List.findIdx?_eq_none_iff]; exact hno
  simp [fmI, this]

theorem no_step {a : ByteArray} {has : List ByteArray} {C : List (ByteArray × ByteArray)} {j : Nat} {p : ByteArray × ByteArray} (hno : ∀ q ∈ C.take j, matchB a has q = false) (hp : C[j]? = some p) (hm : matchB a has p = false) : ∀ q ∈ C.take (j + 1), matchB a has q = false := by
  intro q hq
  rw [take_snoc hp] at hq
  rcases List.mem_append.1 hq with hq | hq
  · exact hno q hq
  · simp at hq; subst hq; exact hm

theorem zip_get {I A : List ByteArray} {j : Nat} {s t : ByteArray} (hs : I[j]? = some s) (ht : A[j]? = some t) : (I.zip A)[j]? = some (s, t) := by simp [List.getElem?_zip_eq_some, hs, ht]

set_option maxHeartbeats 1000000 in
theorem fm26 (a : ByteArray) (ah ai aa : Option Addr) (ch ci ca : Nat) (has I A : List ByteArray) (w : World) (hH : Strs w ah has) (hI : Strs w ai I) (hA : Strs w aa A) (nH : has.length ≤ maxLen) (nI : I.length ≤ 1048576) (hl : I.length ≤ A.length) :
    Calls Try.prog 26 #[.string a, .slice ah has.length ch, .slice ai I.length ci, .slice aa A.length ca] w fun e w' => e = .returned (.int .i64 (fmI a has (I.zip A))) ∧ w' = w := by
  go_enter Try.func26, Try.ntmps26
  go_wp2
  go_loop [9] (fun i => ∃ j : Nat, j ≤ I.length ∧ i = .int .i64 j ∧ Hid (∀ q ∈ (I.zip A).take j, matchB a has q = false)) (fun i => I.length - (intOf i).toNat)
  case atStart => exact ⟨0, Nat.zero_le _, rfl, fun q hq => by simp at hq⟩
  case round =>
    obtain ⟨j, hj, rfl, hno⟩ := hrel
    by_cases hlt : j < I.length
    · obtain ⟨s, hs⟩ := get_lt hlt
      obtain ⟨t, ht⟩ := get_lt (show j < A.length by omega)
      obtain ⟨b, off, rfl, hc⟩ := hI j s hs
      obtain ⟨b1, off1, rfl, hc1⟩ := hA j t ht
      have HZ : Hid ((I.zip A)[j]? = some (s, t)) := zip_get hs ht
      clear hs ht
      cases hm : (t.toList == a.toList) with
      | false =>
        have HM : Hid (matchB a has (s, t) = false) := by simp [Hid, matchB, hm]
        go_wp2
        go_round
        case rel => exact ⟨j + 1, by omega, by go_num, no_step hno.out HZ.out HM.out⟩
        case measure => simp [intOf]; omega
      | true =>
        go_wp2_with fail
        refine (has21 _ _ has s _ hH nH).mono ?_
        rintro e w' ⟨rfl, rfl⟩
        cases hh : hasB has s with
        | false =>
          have HM : Hid (matchB a has (s, t) = false) := by simp [Hid, matchB, hh]
          go_wp2
          go_round
          case rel => exact ⟨j + 1, by omega, by go_num, no_step hno.out HZ.out HM.out⟩
          case measure => simp [intOf]; omega
        | true =>
          have HM : Hid (fmI a has (I.zip A) = (j : Int)) := fmI_hit hno.out HZ.out (by simp only [matchB, hm, hh, Bool.and_self])
          go_wp2
          go_ret
          exact ⟨ret_int HM.out.symm, rfl⟩
    · go_wp2
      go_ret
      have e : fmI a has (I.zip A) = -1 := by
        have := hno.out
        rw [List.take_of_length_le (by rw [List.length_zip]; omega)] at this
        exact fmI_none this
      exact ⟨ret_int e.symm, rfl⟩

/-- What 'prev' holds, k entries behind it. -/
def PrevIs (P : List ByteArray) (C : List (ByteArray × ByteArray)) (L : List ByteArray) (k : Nat) (pr : Int) : Prop := (k = 0 → pr = -1) ∧ ∀ t, 0 < k → L[k - 1]? = some t → pr = fmI t P C

theorem prev_lt {P : List ByteArray} {C : List (ByteArray × ByteArray)} {L : List ByteArray} (h : FitS P C L) {k : Nat} {pr : Int} (hp : PrevIs P C L k pr) {t : ByteArray} (ht : L[k]? = some t) : ∃ j : Nat, fmI t P C = (j : Int) ∧ j < C.length ∧ pr < (j : Int) := by
  obtain ⟨j, hj⟩ := h.found k t ht
  have e : fmI t P C = (j : Int) := by simp [fmI, hj]
  refine ⟨j, e, fst_lt hj, ?_⟩
  by_cases h0 : k = 0
  · rw [hp.1 h0]; omega
  · obtain ⟨t', ht'⟩ := get_lt (show k - 1 < L.length by have := (List.getElem?_eq_some_iff.1 ht).1; omega)
    obtain ⟨j', hj'⟩ := h.found (k - 1) t' ht'
    have e' : fmI t' P C = (j' : Int) := by simp [fmI, hj']
    rw [hp.2 t' (by omega) ht', e']
    have := h.mono (k - 1) k t' t j' j (by omega) ht' ht hj' hj
    omega

theorem prev_next {P : List ByteArray} {C : List (ByteArray × ByteArray)} {L : List ByteArray} {k : Nat} {t : ByteArray} (ht : L[k]? = some t) : PrevIs P C L (k + 1) (fmI t P C) :=
  ⟨fun h => by omega, fun t' _ ht' => by rw [Nat.add_sub_cancel, ht] at ht'; cases ht'; rfl⟩

set_option maxHeartbeats 1000000 in
set_option maxRecDepth 100000 in
theorem fit17_some (al : Addr) (ah ai aa : Option Addr) (cl ch ci ca : Nat) (L P I A : List ByteArray) (w : World) (hL : Strs w (some al) L) (hH : Strs w ah P) (hI : Strs w ai I) (hA : Strs w aa A) (hb : ((L.length : Int) == 0) = false) (hfit : FitS P (I.zip A) L)
    (nL : L.length ≤ 1048576) (nH : P.length ≤ maxLen) (nI : I.length ≤ 1048576) (hl : I.length ≤ A.length) :
    Calls Try.prog 17 #[.slice (some al) L.length cl, .slice ah P.length ch, .slice ai I.length ci, .slice aa A.length ca] w fun e w' => e = .returned (.bool true) ∧ w' = w := by
  have heq := fun w a n c => Lib.run_eql_slice_nil (P := Try.prog) w 23 9 a n c 0 0 Try.underlying23
  go_enter Try.func17, Try.ntmps17
  go_wp2
  go_loop [9, 10, 11] (fun p i _ => ∃ (k : Nat) (pr : Int), k ≤ L.length ∧ i = .int .i64 k ∧ p = .int .i64 pr ∧ Hid (PrevIs P (I.zip A) L k pr)) (fun _ i _ => L.length - (intOf i).toNat)
  case atStart => exact ⟨0, -1, Nat.zero_le _, rfl, rfl, ⟨fun _ => rfl, fun t h => absurd h (Nat.not_lt_zero _)⟩⟩
  case round =>
    obtain ⟨k, pr, hk, rfl, rfl, hpr⟩ := hrel
    by_cases hlt : k < L.length
    · obtain ⟨t, ht⟩ := get_lt hlt
      obtain ⟨b, off, ea, hc⟩ := hL k t ht
      cases ea
      obtain ⟨j, hf, hjl, hpj⟩ := prev_lt hfit hpr.out ht
      have HT : Hid (L[k]? = some t) := ht
      have HF : Hid (fmI t P (I.zip A) = (j : Int)) := hf
      clear ht hf hjl
      go_wp2_with fail
      refine (fm26 t _ _ _ _ _ _ P I A _ hH hI hA nH nI hl).mono ?_
      rintro e w' ⟨rfl, rfl⟩
      rw [HF.out]
      go_wp2
      go_round
      case rel => exact ⟨k + 1, (j : Int), by omega, by go_num, rfl, by have := prev_next (P := P) (C := I.zip A) HT.out; rwa [HF.out] at this⟩
      case measure => simp [intOf]; omega
    · go_wp2
      go_loop [12] (fun i => ∃ j : Nat, j ≤ I.length ∧ i = .int .i64 j) (fun i => I.length - (intOf i).toNat)
      case atStart => exact ⟨0, Nat.zero_le _, rfl⟩
      case round =>
        obtain ⟨j, hj, rfl⟩ := hrel
        by_cases hlt2 : j < I.length
        · obtain ⟨s, hs⟩ := get_lt hlt2
          obtain ⟨t, ht⟩ := get_lt (show j < A.length by omega)
          obtain ⟨b, off, rfl, hc⟩ := hI j s hs
          obtain ⟨b1, off1, rfl, hc1⟩ := hA j t ht
          have hall := hfit.all (s, t) (List.mem_of_getElem? (zip_get hs ht))
          have HA : Hid (hasB P s = true → hasB L t = true) := hall
          clear hs ht hall
          go_wp2_with fail
          refine (has21 _ _ P s _ hH nH).mono ?_
          rintro e w' ⟨rfl, rfl⟩
          cases hh : hasB P s with
          | false =>
            go_wp2
            go_round
            case rel => exact ⟨j + 1, by omega, by go_num⟩
            case measure => simp [intOf]; omega
          | true =>
            go_wp2_with fail
            refine (has21 _ _ L t _ hL (by unfold maxLen; omega)).mono ?_
            rintro e w' ⟨rfl, rfl⟩
            rw [HA.out hh]
            go_wp2
            go_round
            case rel => exact ⟨j + 1, by omega, by go_num⟩
            case measure => simp [intOf]; omega
        · go_wp2
          go_ret
          exact ⟨rfl, rfl⟩

set_option maxHeartbeats 1000000 in
set_option maxRecDepth 100000 in
theorem fit17_none (ah ai aa : Option Addr) (cl ch ci ca : Nat) (P I A : List ByteArray) (w : World) (hL : Strs w none []) (hH : Strs w ah P) (hI : Strs w ai I) (hA : Strs w aa A) (hfit : FitS P (I.zip A) [])
    (nH : P.length ≤ maxLen) (nI : I.length ≤ 1048576) (hl : I.length ≤ A.length) :
    Calls Try.prog 17 #[.slice none 0 cl, .slice ah P.length ch, .slice ai I.length ci, .slice aa A.length ca] w fun e w' => e = .returned (.bool true) ∧ w' = w := by
  have heq := fun w a n c => Lib.run_eql_slice_nil (P := Try.prog) w 23 9 a n c 0 0 Try.underlying23
  go_enter Try.func17, Try.ntmps17
  go_wp2
  go_loop [9, 10, 11] (fun p i _ => i = .int .i64 0 ∧ p = .int .i64 (-1)) (fun _ _ _ => 0)
  case atStart => exact ⟨rfl, rfl⟩
  case round =>
    obtain ⟨rfl, rfl⟩ := hrel
    · go_wp2
      go_loop [12] (fun i => ∃ j : Nat, j ≤ I.length ∧ i = .int .i64 j) (fun i => I.length - (intOf i).toNat)
      case atStart => exact ⟨0, Nat.zero_le _, rfl⟩
      case round =>
        obtain ⟨j, hj, rfl⟩ := hrel
        by_cases hlt2 : j < I.length
        · obtain ⟨s, hs⟩ := get_lt hlt2
          obtain ⟨t, ht⟩ := get_lt (show j < A.length by omega)
          obtain ⟨b, off, rfl, hc⟩ := hI j s hs
          obtain ⟨b1, off1, rfl, hc1⟩ := hA j t ht
          have hall := hfit.all (s, t) (List.mem_of_getElem? (zip_get hs ht))
          have HA : Hid (hasB P s = true → hasB [] t = true) := hall
          clear hs ht hall
          go_wp2_with fail
          refine (has21 _ _ P s _ hH nH).mono ?_
          rintro e w' ⟨rfl, rfl⟩
          cases hh : hasB P s with
          | false =>
            go_wp2
            go_round
            case rel => exact ⟨j + 1, by omega, by go_num⟩
            case measure => simp [intOf]; omega
          | true =>
            go_wp2_with fail
            refine (has21 _ _ [] t _ hL (by unfold maxLen; simp)).mono ?_
            rintro e w' ⟨rfl, rfl⟩
            rw [HA.out hh]
            go_wp2
            go_round
            case rel => exact ⟨j + 1, by omega, by go_num⟩
            case measure => simp [intOf]; omega
        · go_wp2
          go_ret
          exact ⟨rfl, rfl⟩

/-- zzArticlesFit, at a list that fits: true. -/
theorem fit17 (al ah ai aa : Option Addr) (cl ch ci ca : Nat) (L P I A : List ByteArray) (w : World) (hL : Strs w al L) (hH : Strs w ah P) (hI : Strs w ai I) (hA : Strs w aa A) (nl : al = none ↔ L = []) (hfit : FitS P (I.zip A) L)
    (nL : L.length ≤ 1048576) (nH : P.length ≤ maxLen) (nI : I.length ≤ 1048576) (hl : I.length ≤ A.length) :
    Calls Try.prog 17 #[.slice al L.length cl, .slice ah P.length ch, .slice ai I.length ci, .slice aa A.length ca] w fun e w' => e = .returned (.bool true) ∧ w' = w := by
  cases al with
  | none =>
    have e0 : L = [] := nl.1 rfl
    subst e0
    exact fit17_none ah ai aa cl ch ci ca P I A w hL hH hI hA hfit nH nI hl
  | some a =>
    refine fit17_some a ah ai aa cl ch ci ca L P I A w hL hH hI hA ?_ hfit nL nH nI hl
    have hne : L ≠ [] := fun h => by have := nl.2 h; cases this
    simp [hne]

end Go.Proofs.Qxb6617112a.Base
