/-
  THE WALKS of entryAt (23), zzBytes_FnCompareMatchesDominance (22), FnCompareMatchesDominance (6); copies of slices of uint64.
-/
import Derived.Test.Qxb6617139aCompare
import Derived.Deep.DeepCutAuto
namespace Go.Proofs.Qxb6617139a.Nums
open Go.RowKit

set_option maxHeartbeats 400000 in
theorem ea23 (ao : Option Addr) (cap : Nat) (Z : List Int) (i : Nat) (w : World) (h : Nums w ao Z) :
    Calls Try.prog 23 #[.slice ao Z.length cap, .int .i64 i] w fun e w' => e = .returned (.int .u64 (ent Z i)) ∧ w' = w := by
  by_cases hlt : i < Z.length
  · obtain ⟨z, hz⟩ := get_lt hlt
    obtain ⟨b, off, rfl, hc⟩ := h i z hz
    have E : Hid (ent Z i = z) := ent_of hz
    clear hz
    go_enter Try.func23, Try.ntmps23
    go_wp2
    go_ret
    exact ⟨by rw [E.out]; rfl, rfl⟩
  · have E : Hid (ent Z i = 0) := ent_past (by omega)
    go_enter Try.func23, Try.ntmps23
    go_wp2
    go_ret
    exact ⟨by rw [E.out]; rfl, rfl⟩

/-- 'It answers a bool, having read alone; if true, p.' -/
def Told (p : Prop) (w : World) (e : Ending) (w' : World) : Prop := ∃ r : Bool, e = .returned (.bool r) ∧ (r = true → p) ∧ w' = w
theorem Told.no {p : Prop} {w : World} : Told p w (.returned (.bool false)) w := ⟨false, rfl, (fun h => by cases h), rfl⟩
theorem Told.yes {p : Prop} {w : World} (h : p) : Told p w (.returned (.bool true)) w := ⟨true, rfl, fun _ => h, rfl⟩

set_option maxHeartbeats 400000 in
theorem zb22 (ao a1 : Option Addr) (n m cap c1 : Nat) (w : World) :
    Calls Try.prog 22 #[.slice ao n cap, .slice a1 m c1] w fun e w' => Told (n ≤ 1048576 ∧ m ≤ 1048576) w e w' := by
  by_cases g : (1048576 : Int) < (n : Int)
  · go_enter Try.func22, Try.ntmps22
    go_wp2
    go_ret
    exact Told.no
  by_cases g' : (1048576 : Int) < (m : Int)
  · go_enter Try.func22, Try.ntmps22
    go_wp2
    go_ret
    exact Told.no
  by_cases g'' : (1048576 : Int) < (n : Int) + (m : Int)
  · go_enter Try.func22, Try.ntmps22
    go_wp2
    go_ret
    exact Told.no
  go_enter Try.func22, Try.ntmps22
  go_wp2
  go_ret
  exact Told.yes (by omega)

/-! ### copies -/

/-- A made block of n numbers. -/
def made (n : Nat) : Array Value := madeCells #[.int .u64 0] n

theorem mk22 (n : Nat) (hn : n ≤ 1048576) (w : World) :
    (Instr.makeSlice 22 (.int .i64 n) (.int .i64 n)).run Try.prog w = .ok (.slice (some ⟨w.heap.size, 0, none⟩) n n) (w.alloc (.cells (made n) 39)) := by
  obtain ⟨i, hi, hz, hs, hb⟩ := info_parts info39
  have := run_make (P := Try.prog) w 22 39 i _ Try.underlying22 hi hz .i64 .i64 n n (by omega) (by omega) (by rw [hb]; omega) (by omega)
  rw [hs] at this
  simpa [made, Value.cells] using this

def cellsOf (Z : List Int) : Array Value := (Z.map (Value.int .u64)).toArray

theorem Nums.addr {w : World} {a : Addr} {Z : List Int} (h : Nums w (some a) Z) {j : Nat} {z : Int} (hz : Z[j]? = some z) : w.cell? (a.add j) = some (.int .u64 z) := by
  obtain ⟨b, off, e, hc⟩ := h j z hz
  cases e
  by_cases h0 : j = 0
  · subst h0; simpa [Addr.add] using hc
  · simpa [Addr.add, h0] using hc

theorem copyEq (w : World) (a : Addr) (cap : Nat) (Z : List Int) (h : Nums w (some a) Z) (ty : TypeId) :
    (Builtin.copy_ #[22, 22] ty #[.slice (some ⟨w.heap.size, 0, none⟩) Z.length Z.length, .slice (some a) Z.length cap]).run Try.prog (w.alloc (.cells (made Z.length) 39)) =
      .ok (goInt Z.length) (w.alloc (.cells (cellsOf Z) 39)) := by
  have hs : (Try.prog.info? 39).map (·.size) = some 1 := by
    obtain ⟨i, hi, hz, hs, hb⟩ := info_parts info39
    rw [hi]; simp [hs]
  have := run_copy_row (P := Try.prog) (w.alloc (.cells (made Z.length) 39)) 22 22 ty 39 w.heap.size 0 Z.length Z.length a Z.length cap (made Z.length) 39 (Z.map (Value.int .u64)) Try.underlying22 hs
    (heap_alloc_new w _) (by simp) (fun j v hv => by
      rw [List.getElem?_map] at hv
      cases e : Z[j]? with
      | none => rw [e] at hv; cases hv
      | some s =>
        rw [e] at hv; cases hv
        exact cell_on (h.addr e) ((Below.refl _ _).alloc (Nat.le_refl _) _)) (by simp [made, size_madeCells]) (fun v hv => by
      obtain ⟨s, _, rfl⟩ := List.mem_map.1 hv; rfl)
  rw [this, World.setRow_alloc_new]
  have e : (made Z.length).toList.drop (0 + (Z.map (Value.int .u64)).length) = [] := by
    apply List.drop_eq_nil_of_le; simp [made, size_madeCells]
  rw [e]
  simp [cellsOf]

theorem Nums.made (w : World) (Z : List Int) (t : TypeId) : Nums (w.alloc (.cells (cellsOf Z) t)) (some ⟨w.heap.size, 0, none⟩) Z := fun k z hz => by
  refine ⟨_, _, rfl, ?_⟩
  have hk : k < Z.length := (List.getElem?_eq_some_iff.1 hz).1
  have hr := World.rowIs_alloc w (cellsOf Z) t (fun i => ((cellsOf Z)[i]?).getD (.bool false)) (fun i hi => by rw [Array.getElem?_eq_getElem hi]; rfl)
  rw [Nat.zero_add, hr.cell (by simpa [cellsOf] using hk)]
  simp [cellsOf, hz]

theorem Nums.none_le {w : World} {Z : List Int} (h : Nums w none Z) : Z.length ≤ 0 := by
  match Z, h with
  | [], _ => simp
  | z :: r, h => obtain ⟨_, _, e, _⟩ := h 0 z rfl; cases e

set_option maxHeartbeats 4000000 in
set_option maxRecDepth 100000 in
theorem walk6 (ao a1 : Option Addr) (cap c1 : Nat) (V W : List Int) (w : World) (hV : Nums w ao V) (hW : Nums w a1 W) (pV : ∀ z ∈ V, 0 ≤ z) (pW : ∀ z ∈ W, 0 ≤ z) :
    Calls Try.prog 6 #[.slice ao V.length cap, .slice a1 W.length c1] w fun e w' => e = .returned (.bool true) ∧ Below w.heap.size w w' := by
  have HPV : Hid (∀ z ∈ V, 0 ≤ z) := pV
  have HPW : Hid (∀ z ∈ W, 0 ≤ z) := pW
  clear pV pW
  have hne := fun w a n c => run_neq_slice_nil_any (P := Try.prog) w 22 39 a n c 0 0 Try.underlying22
  go_enter Try.func6, Try.ntmps6
  go_wp2_with fail
  refine (zb22 _ _ _ _ _ _ _).mono ?_
  rintro e w' ⟨r, rfl, hr, rfl⟩
  cases r with
  | false =>
    go_wp2
    go_ret
    exact ⟨rfl, Below.refl _ _⟩
  | true =>
  obtain ⟨hVn, hWn⟩ := hr rfl
  clear hr
  by_cases g1 : (65536 : Int) < (V.length : Int)
  · go_wp2
    go_ret
    exact ⟨rfl, Below.refl _ _⟩
  by_cases g2 : (65536 : Int) < (W.length : Int)
  · go_wp2
    go_ret
    exact ⟨rfl, Below.refl _ _⟩
  go_upto_if 26 with fail
  go_cut [0, 5] (fun s0 _ wx => ∃ a' c', s0 = .slice a' V.length c' ∧ V.length ≤ c' ∧ Nums wx a' V ∧ Below w'.heap.size w' wx)
  case first =>
    have hmk := mk22 V.length hVn
    cases ao with
    | none =>
      have e0 := hV.none_le
      go_wp2
      go_meet
      case rel => exact ⟨_, _, rfl, by omega, hV, Below.refl _ _⟩
    | some a =>
      have hcp := copyEq w' a cap V hV
      go_wp2
      go_meet
      case rel => exact ⟨_, _, rfl, Nat.le_refl _, Nums.made _ _ _, (Below.refl _ _).alloc (Nat.le_refl _) _⟩
  case rest =>
    obtain ⟨a', c', rfl, kV, hV1, hb1⟩ := hcut
    obtain ⟨w1, e1⟩ : ∃ x, x = wc := ⟨_, rfl⟩
    subst e1
    have hW1 := hW.on hb1
    clear hV
    go_upto_if 35 with fail
    go_cut [1, 6] (fun s0 _ wx => ∃ a' c', s0 = .slice a' W.length c' ∧ W.length ≤ c' ∧ Nums wx a' W ∧ Below w1.heap.size w1 wx)
    case first =>
      have hmk := mk22 W.length hWn
      cases a1 with
      | none =>
        have e0 := hW.none_le
        go_wp2
        go_meet
        case rel => exact ⟨_, _, rfl, by omega, hW1, Below.refl _ _⟩
      | some a =>
        have hcp := copyEq w1 a c1 W hW1
        go_wp2
        go_meet
        case rel => exact ⟨_, _, rfl, Nat.le_refl _, Nums.made _ _ _, (Below.refl _ _).alloc (Nat.le_refl _) _⟩
    case rest =>
      obtain ⟨a1', c1', rfl, kW, hW2, hb2⟩ := hcut
      obtain ⟨w2, e2⟩ : ∃ x, x = wc := ⟨_, rfl⟩
      subst e2
      have hV2 := hV1.on hb2
      have B2 : Below w'.heap.size w' w2 := hb1.trans (hb2.mono hb1.size)
      clear hV1 hW1 hb1 hb2 hW
      go_wp2_with fail
      refine (cmp9 _ _ _ _ V W _ hV2 hW2 hVn hWn kV kW).mono ?_
      rintro e w3 ⟨rfl, rfl⟩
      obtain ⟨M, hM, hMV, hMW, hMn⟩ : ∃ M : Nat, Hid (M = if V.length < W.length then W.length else V.length) ∧ V.length ≤ M ∧ W.length ≤ M ∧ M ≤ 1048576 := by
        by_cases h : V.length < W.length
        · exact ⟨W.length, by simp [Hid, h], by omega, by omega, by omega⟩
        · exact ⟨V.length, by simp [Hid, h], by omega, by omega, by omega⟩
      have HM1 : Hid (lessTo W V M = lt W V) := lessTo_big HPW.out hMV
      have HM2 : Hid (lessTo V W M = lt V W) := lessTo_big HPV.out hMW
      go_upto_if 51 with fail
      go_cut [8] (fun s8 wx => s8 = .int .i64 M ∧ wx = w3)
      case first =>
        by_cases h : V.length < W.length
        · have e := hM.out
          rw [if_pos h] at e
          have H : Hid (M = W.length) := e
          clear e hM
          go_wp2
          go_meet
          case rel => exact ⟨by rw [H.out], rfl⟩
        · have e := hM.out
          rw [if_neg h] at e
          have H : Hid (M = V.length) := e
          clear e hM
          go_wp2
          go_meet
          case rel => exact ⟨by rw [H.out], rfl⟩
      case rest =>
        obtain ⟨rfl, rfl⟩ := hcut
        go_wp2
        go_loop [9, 10, 11] (fun p q i => ∃ k : Nat, k ≤ M ∧ i = .int .i64 k ∧ p = .bool (!lessTo W V k) ∧ q = .bool (!lessTo V W k)) (fun _ _ i => M - (intOf i).toNat)
        case atStart => exact ⟨0, Nat.zero_le _, rfl, rfl, rfl⟩
        case round =>
          obtain ⟨k, hk, rfl, rfl, rfl⟩ := hrel
          by_cases hlt : k < M
          · go_wp2_with fail
            refine (ea23 _ _ V k _ hV2).mono ?_
            rintro e w4 ⟨rfl, rfl⟩
            go_wp2_with fail
            refine (ea23 _ _ W k _ hW2).mono ?_
            rintro e w5 ⟨rfl, rfl⟩
            rcases Int.lt_trichotomy (ent V k) (ent W k) with hxy | hxy | hxy
            · have HA : Hid (lessTo W V (k + 1) = lessTo W V k) := lessTo_miss (by omega)
              have HB : Hid (lessTo V W (k + 1) = true) := lessTo_hit hxy
              go_wp2
              go_round
              case rel => exact ⟨k + 1, by omega, by go_num, by rw [HA.out], by rw [HB.out]; rfl⟩
              case measure => simp [intOf]; omega
            · have HA : Hid (lessTo W V (k + 1) = lessTo W V k) := lessTo_miss (by omega)
              have HB : Hid (lessTo V W (k + 1) = lessTo V W k) := lessTo_miss (by omega)
              go_wp2
              go_round
              case rel => exact ⟨k + 1, by omega, by go_num, by rw [HA.out], by rw [HB.out]⟩
              case measure => simp [intOf]; omega
            · have HA : Hid (lessTo W V (k + 1) = true) := lessTo_hit hxy
              have HB : Hid (lessTo V W (k + 1) = lessTo V W k) := lessTo_miss (by omega)
              go_wp2
              go_round
              case rel => exact ⟨k + 1, by omega, by go_num, by rw [HA.out]; rfl, by rw [HB.out]⟩
              case measure => simp [intOf]; omega
          · obtain rfl : k = M := by omega
            rw [HM1.out, HM2.out]
            clear HM1 HM2
            generalize lt V W = p
            generalize lt W V = q
            cases p <;> cases q
            all_goals
              simp only [ordI, if_true, if_false, Bool.false_eq_true]
              go_wp2
              go_ret
              exact ⟨rfl, B2⟩

end Go.Proofs.Qxb6617139a.Nums
