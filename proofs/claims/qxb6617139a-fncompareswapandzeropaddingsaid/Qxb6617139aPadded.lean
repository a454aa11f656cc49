/-
  THE WALKS of validOrder (12), revOrder (13), zzBytes_FnCompareSwapAndZeroPadding (24), FnCompareSwapAndZeroPadding (7).
-/
import Derived.Test.Qxb6617139aDominates
namespace Go.Proofs.Qxb6617139a.Nums
open Go.RowKit

set_option maxHeartbeats 400000 in
theorem vo12 (l g : Bool) (w : World) : Calls Try.prog 12 #[.int .i64 (ordI l g)] w fun e w' => e = .returned (.bool true) ∧ w' = w := by
  cases l <;> cases g
  all_goals
    simp only [ordI, if_true, if_false, Bool.false_eq_true]
    go_enter Try.func12, Try.ntmps12
    go_wp2
    go_ret
    exact ⟨rfl, rfl⟩

set_option maxHeartbeats 400000 in
theorem ro13 (l g : Bool) (w : World) : Calls Try.prog 13 #[.int .i64 (ordI l g)] w fun e w' => e = .returned (.int .i64 (ordI g l)) ∧ w' = w := by
  cases l <;> cases g
  all_goals
    simp only [ordI, if_true, if_false, Bool.false_eq_true]
    go_enter Try.func13, Try.ntmps13
    go_wp2
    go_ret
    exact ⟨rfl, rfl⟩

set_option maxHeartbeats 400000 in
theorem zb24 (ao a1 : Option Addr) (n m cap c1 : Nat) (k j : Int) (w : World) :
    Calls Try.prog 24 #[.slice ao n cap, .slice a1 m c1, .int .i64 k, .int .i64 j] w fun e w' => Told (n ≤ 1048576 ∧ m ≤ 1048576) w e w' := by
  by_cases g : (1048576 : Int) < (n : Int)
  · go_enter Try.func24, Try.ntmps24
    go_wp2
    go_ret
    exact Told.no
  by_cases g' : (1048576 : Int) < (m : Int)
  · go_enter Try.func24, Try.ntmps24
    go_wp2
    go_ret
    exact Told.no
  by_cases g'' : (1048576 : Int) < (n : Int) + (m : Int)
  · go_enter Try.func24, Try.ntmps24
    go_wp2
    go_ret
    exact Told.no
  go_enter Try.func24, Try.ntmps24
  go_wp2
  go_ret
  exact Told.yes (by omega)

theorem cmp9n (ao a1 : Option Addr) (n m cap c1 : Nat) (V W : List Int) (w : World) (en : V.length = n) (em : W.length = m) (hV : Nums w ao V) (hW : Nums w a1 W) (nV : V.length ≤ 1048576) (nW : W.length ≤ 1048576) (kV : V.length ≤ cap) (kW : W.length ≤ c1) :
    Calls Try.prog 9 #[.slice ao n cap, .slice a1 m c1] w fun e w' => e = .returned (.int .i64 (ordI (lt V W) (lt W V))) ∧ w' = w := by
  subst en; subst em
  exact cmp9 ao a1 cap c1 V W w hV hW nV nW kV kW

/-! ### zeros appended -/

/-- V with k zeros behind it. -/
def pad (V : List Int) (k : Nat) : List Int := V ++ List.replicate k 0

theorem pad_length (V : List Int) (k : Nat) : (pad V k).length = V.length + k := by simp [pad]

theorem ent_pad (V : List Int) (k i : Nat) : ent (pad V k) i = ent V i := by
  unfold ent pad
  by_cases h : i < V.length
  · rw [List.getElem?_append_left h]
  · rw [List.getElem?_append_right (by omega), List.getElem?_eq_none (l := V) (by omega), List.getElem?_replicate]
    split <;> rfl

theorem lt_pad (V W : List Int) (k j : Nat) (hV : ∀ z ∈ V, 0 ≤ z) : lt (pad V k) (pad W j) = lt V W := by
  unfold lt
  rw [lessTo_congr (ent_pad V k) (ent_pad W j), pad_length, lessTo_big hV (by omega)]
  rfl

/-- A made block of N numbers, j of V's copied into it. -/
structure Fill (wo : World) (V : List Int) (N j : Nat) (wq : World) : Prop where
  row : wq.rowIs wo.heap.size 39 N (fun i => .int .u64 (if i < j then ent V i else 0))
  bel : Below wo.heap.size wo wq

theorem Fill.start (wo : World) (V : List Int) (N : Nat) : Fill wo V N 0 (wo.alloc (.cells (made N) 39)) :=
  ⟨(World.rowIs_made wo (.int .u64 0) N 39).congr (fun i _ => by simp), (Below.refl _ _).alloc (Nat.le_refl _) _⟩

theorem Fill.step {wo : World} {V : List Int} {N j : Nat} {wq : World} (h : Fill wo V N j wq) {z : Int} (hz : V[j]? = some z) : Fill wo V N (j + 1) (wq.setCell ⟨wo.heap.size, j, none⟩ (.int .u64 z)) := by
  refine ⟨(h.row.set j (.int .u64 z)).congr (fun i _ => ?_), h.bel.setCell (Nat.le_refl _) _⟩
  by_cases e : i = j
  · subst e
    rw [if_pos rfl, if_pos (by omega), ent_of hz]
  · rw [if_neg e]
    by_cases hl : i < j
    · rw [if_pos hl, if_pos (by omega)]
    · rw [if_neg hl, if_neg (by omega)]

theorem Fill.nums {wo : World} {V : List Int} {k : Nat} {wq : World} (h : Fill wo V (V.length + k) V.length wq) : Nums wq (some ⟨wo.heap.size, 0, none⟩) (pad V k) := fun i z hz => by
  have hi : i < V.length + k := by have := (List.getElem?_eq_some_iff.1 hz).1; rwa [pad_length] at this
  refine ⟨_, _, rfl, ?_⟩
  rw [Nat.zero_add, h.row.cell hi]
  have e := ent_of hz
  rw [ent_pad] at e
  by_cases hl : i < V.length
  · rw [if_pos hl, e]
  · rw [if_neg hl]
    rw [ent_past (by omega)] at e
    rw [e]

theorem mk22s (n k : Nat) (hn : n + k ≤ 1048576) (w : World) :
    (Instr.makeSlice 22 (.int .i64 ((n : Int) + (k : Int))) (.int .i64 ((n : Int) + (k : Int)))).run Try.prog w = .ok (.slice (some ⟨w.heap.size, 0, none⟩) (n + k) (n + k)) (w.alloc (.cells (made (n + k)) 39)) := by
  have := mk22 (n + k) hn w
  rwa [Int.natCast_add] at this

set_option maxHeartbeats 4000000 in
set_option maxRecDepth 100000 in
theorem walk7 (ao a1 : Option Addr) (cap c1 : Nat) (V W : List Int) (kk jj : Int) (w : World) (hV : Nums w ao V) (hW : Nums w a1 W) (pV : ∀ z ∈ V, 0 ≤ z) (pW : ∀ z ∈ W, 0 ≤ z) :
    Calls Try.prog 7 #[.slice ao V.length cap, .slice a1 W.length c1, .int .i64 kk, .int .i64 jj] w fun e w' => e = .returned (.bool true) ∧ Below w.heap.size w w' := by
  have HPV : Hid (∀ z ∈ V, 0 ≤ z) := pV
  have HPW : Hid (∀ z ∈ W, 0 ≤ z) := pW
  clear pV pW
  have hne := fun w a n c => run_neq_slice_nil_any (P := Try.prog) w 22 39 a n c 0 0 Try.underlying22
  go_enter Try.func7, Try.ntmps7
  go_wp2_with fail
  refine (zb24 _ _ _ _ _ _ _ _ _).mono ?_
  rintro e w' ⟨r, rfl, hr, rfl⟩
  cases r with
  | false =>
    go_wp2
    go_ret
    exact ⟨rfl, Below.refl _ _⟩
  | true =>
  obtain ⟨hVn, hWn⟩ := hr rfl
  clear hr
  by_cases g1 : (65536 : Int) < (V.length : Int)
  · go_wp2
    go_ret
    exact ⟨rfl, Below.refl _ _⟩
  by_cases g2 : (65536 : Int) < (W.length : Int)
  · go_wp2
    go_ret
    exact ⟨rfl, Below.refl _ _⟩
  by_cases g3 : kk < 0
  · go_wp2
    go_ret
    exact ⟨rfl, Below.refl _ _⟩
  by_cases g4 : 65536 < kk
  · go_wp2
    go_ret
    exact ⟨rfl, Below.refl _ _⟩
  by_cases g5 : jj < 0
  · go_wp2
    go_ret
    exact ⟨rfl, Below.refl _ _⟩
  by_cases g6 : 65536 < jj
  · go_wp2
    go_ret
    exact ⟨rfl, Below.refl _ _⟩
  obtain ⟨k, rfl⟩ := Int.eq_ofNat_of_zero_le (show 0 ≤ kk by omega)
  obtain ⟨j, rfl⟩ := Int.eq_ofNat_of_zero_le (show 0 ≤ jj by omega)
  go_upto_if 43 with fail
  go_cut [0, 9] (fun s0 _ wx => ∃ a' c', s0 = .slice a' V.length c' ∧ V.length ≤ c' ∧ Nums wx a' V ∧ Below w'.heap.size w' wx)
  case first =>
    have hmk := mk22 V.length hVn
    cases ao with
    | none =>
      have e0 := hV.none_le
      go_wp2
      go_meet
      case rel => exact ⟨_, _, rfl, by omega, hV, Below.refl _ _⟩
    | some a =>
      have hcp := copyEq w' a cap V hV
      go_wp2
      go_meet
      case rel => exact ⟨_, _, rfl, Nat.le_refl _, Nums.made _ _ _, (Below.refl _ _).alloc (Nat.le_refl _) _⟩
  case rest =>
    obtain ⟨a', c', rfl, kV, hV1, hb1⟩ := hcut
    obtain ⟨w1, e1⟩ : ∃ x, x = wc := ⟨_, rfl⟩
    subst e1
    have hW1 := hW.on hb1
    clear hV
    go_upto_if 52 with fail
    go_cut [1, 10] (fun s0 _ wx => ∃ a' c', s0 = .slice a' W.length c' ∧ W.length ≤ c' ∧ Nums wx a' W ∧ Below w1.heap.size w1 wx)
    case first =>
      have hmk := mk22 W.length hWn
      cases a1 with
      | none =>
        have e0 := hW.none_le
        go_wp2
        go_meet
        case rel => exact ⟨_, _, rfl, by omega, hW1, Below.refl _ _⟩
      | some a =>
        have hcp := copyEq w1 a c1 W hW1
        go_wp2
        go_meet
        case rel => exact ⟨_, _, rfl, Nat.le_refl _, Nums.made _ _ _, (Below.refl _ _).alloc (Nat.le_refl _) _⟩
    case rest =>
      obtain ⟨a1', c1', rfl, kW, hW2, hb2⟩ := hcut
      obtain ⟨w2, e2⟩ : ∃ x, x = wc := ⟨_, rfl⟩
      subst e2
      have hV2 := hV1.on hb2
      have B2 : Below w'.heap.size w' w2 := hb1.trans (hb2.mono hb1.size)
      clear hV1 hW1 hb1 hb2 hW
      go_wp2_with fail
      refine (cmp9 _ _ _ _ V W _ hV2 hW2 hVn hWn kV kW).mono ?_
      rintro e w3 ⟨rfl, rfl⟩
      have hmk := mk22s V.length k (by omega)
      go_wp2
      go_loopw [13] (fun i wr => ∃ p : Nat, p ≤ V.length ∧ i = .int .i64 p ∧ Fill w3 V (V.length + k) p wr) (fun i _ => V.length - (intOf i).toNat)
      case atStart => exact ⟨0, Nat.zero_le _, rfl, Fill.start _ _ _⟩
      case round =>
        obtain ⟨p, hp, rfl, hfill⟩ := hrel
        by_cases hlt : p < V.length
        · obtain ⟨z, hz⟩ := get_lt hlt
          obtain ⟨b, off, rfl, hc⟩ := hV2 p z hz
          have q1 := cell_on hc hfill.bel
          have q2 := hfill.row.cell (i := p) (by omega)
          have q3 := hfill.row.frozen p
          have ST := hfill.step hz
          have hpk : (p : Int) < (V.length : Int) + (k : Int) := by omega
          clear hz
          go_wp2
          go_roundw
          case rel => exact ⟨p + 1, by omega, by go_num, ST⟩
          case measure => simp [intOf]; omega
        · obtain rfl : p = V.length := by omega
          have hVP := hfill.nums
          have hV4 := hV2.on hfill.bel
          have hW4 := hW2.on hfill.bel
          have B4 := B2.trans (hfill.bel.mono B2.size)
          clear hV2 hW2 B2 hfill hmk
          obtain ⟨w4, e4⟩ : ∃ x, x = wr := ⟨_, rfl⟩
          subst e4
          have hmk := mk22s W.length j (by omega)
          go_wp2
          go_loopw [15] (fun i wr => ∃ p : Nat, p ≤ W.length ∧ i = .int .i64 p ∧ Fill w4 W (W.length + j) p wr) (fun i _ => W.length - (intOf i).toNat)
          case atStart => exact ⟨0, Nat.zero_le _, rfl, Fill.start _ _ _⟩
          case round =>
            obtain ⟨p, hp, rfl, hfill⟩ := hrel
            by_cases hlt : p < W.length
            · obtain ⟨z, hz⟩ := get_lt hlt
              obtain ⟨b, off, rfl, hc⟩ := hW4 p z hz
              have q1 := cell_on hc hfill.bel
              have q2 := hfill.row.cell (i := p) (by omega)
              have q3 := hfill.row.frozen p
              have ST := hfill.step hz
              have hpk : (p : Int) < (W.length : Int) + (j : Int) := by omega
              clear hz
              go_wp2
              go_roundw
              case rel => exact ⟨p + 1, by omega, by go_num, ST⟩
              case measure => simp [intOf]; omega
            · obtain rfl : p = W.length := by omega
              have hWP := hfill.nums
              have hV5 := hV4.on hfill.bel
              have hW5 := hW4.on hfill.bel
              have hVP5 := hVP.on hfill.bel
              have B5 := B4.trans (hfill.bel.mono B4.size)
              clear hV4 hW4 B4 hfill hmk hVP
              go_wp2_with fail
              refine (cmp9n _ _ _ _ _ _ (pad V k) (pad W j) _ (pad_length V k) (pad_length W j) hVP5 hWP (by rw [pad_length]; omega) (by rw [pad_length]; omega) (by rw [pad_length]; omega) (by rw [pad_length]; omega)).mono ?_
              rintro e w6 ⟨rfl, rfl⟩
              rw [lt_pad V W k j HPV.out, lt_pad W V j k HPW.out]
              go_wp2_with fail
              refine (cmp9 _ _ _ _ W V _ hW5 hV5 hWn hVn kW kV).mono ?_
              rintro e w7 ⟨rfl, rfl⟩
              generalize lt V W = lp
              generalize lt W V = gp
              go_wp2_with fail
              refine (vo12 _ _ _).mono ?_
              rintro e w8 ⟨rfl, rfl⟩
              go_wp2_with fail
              refine (ro13 _ _ _).mono ?_
              rintro e w9 ⟨rfl, rfl⟩
              go_wp2
              go_ret
              exact ⟨rfl, B5⟩

end Go.Proofs.Qxb6617139a.Nums
