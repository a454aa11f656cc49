/-
  THE WALK of ZZInterested (15): entries of two cells in a new block, each party's interests in a new block of its own.
-/
import Derived.Test.Qxb6617112aAbst
namespace Go.Proofs.Qxb6617112a.Base
open Go.RowKit

theorem info52 : (Try.prog.info? 52).map (fun i => (i.zero, i.size, i.bytes)) = some (some (.agg #[.string ByteArray.empty, .slice none 0 0]), 2, 40) := by kernel_rfl

/-- '[][]string' that came in. -/
def Rws (w : World) (ao : Option Addr) (Ps : List (List ByteArray)) : Prop :=
  ∀ k P, Ps[k]? = some P → ∃ b off pv pc, ao = some ⟨b, off, none⟩ ∧ w.cell? ⟨b, off + k, none⟩ = some (.slice pv P.length pc) ∧ Strs w pv P ∧ P.length ≤ maxLen

theorem Rws.on {w w' : World} {ao : Option Addr} {Ps : List (List ByteArray)} (h : Rws w ao Ps) (hb : Below w.heap.size w w') : Rws w' ao Ps := fun k P hP => by
  obtain ⟨b, off, pv, pc, e, h1, h2, h3⟩ := h k P hP
  exact ⟨b, off, pv, pc, e, cell_on h1 hb, h2.on hb, h3⟩

theorem Rws.le {w : World} {ao : Option Addr} {Ps : List (List ByteArray)} (h : Rws w ao Ps) : ∀ P ∈ Ps, P.length ≤ maxLen := fun P hP => by
  obtain ⟨k, hk⟩ := List.getElem?_of_mem hP
  obtain ⟨_, _, _, _, _, _, _, h3⟩ := h k P hk
  exact h3

def made52 (n : Nat) : Array Value := madeCells #[.string ByteArray.empty, .slice none 0 0] (n * 2)

theorem mk34 (n : Nat) (hn : n ≤ 1048576) (w : World) :
    (Instr.makeSlice 34 (.int .i64 n) (.int .i64 n)).run Try.prog w = .ok (.slice (some ⟨w.heap.size, 0, none⟩) n n) (w.alloc (.cells (made52 n) 52)) := by
  obtain ⟨i, hi, hz, hs, hb⟩ := info_parts info52
  have := run_make (P := Try.prog) w 34 52 i _ Try.underlying34 hi hz .i64 .i64 n n (by omega) (by omega) (by rw [hb]; omega) (by omega)
  rw [hs] at this
  simpa [made52, Value.cells] using this

theorem mk28f (n : Nat) (hn : n ≤ 1048576) (w : World) :
    (Instr.makeSlice 28 (.int .i64 n) (.int .i64 n)).run Try.prog w = .ok (.slice (some ⟨w.heap.size, 0, none⟩) n n) (w.alloc (.cells (made1 n) 30)) := by
  obtain ⟨i, hi, hz, hs, hb⟩ := info_parts info30
  have := run_make (P := Try.prog) w 28 30 i _ Try.underlying28 hi hz .i64 .i64 n n (by omega) (by omega) (by rw [hb]; omega) (by omega)
  rw [hs] at this
  simpa [made1, Value.cells] using this

theorem made_row (w : World) (c : Array Value) (t : TypeId) : (w.alloc (.cells c t)).rowIs w.heap.size t c.size (fun i => (c[i]?).getD (.bool false)) :=
  World.rowIs_alloc w c t _ (fun i hi => by rw [Array.getElem?_eq_getElem hi]; rfl)

/-- The entries laid so far: k of them, in block g. -/
structure Lay (w : World) (g n k : Nat) (ids : List ByteArray) (Ps : List (List ByteArray)) (wr : World) (f : Nat → Value) : Prop where
  row : wr.rowIs g 52 (n * 2) f
  ent : ∀ j id P, j < k → ids[j]? = some id → Ps[j]? = some P → f (j * 2) = .string id ∧ ∃ av c, f (j * 2 + 1) = .slice av P.length c ∧ Strs wr av P ∧ ∀ a, av = some a → a.block ≠ g
  bel : Below w.heap.size w wr

theorem Strs.setOther {w : World} {ao : Option Addr} {S : List ByteArray} (h : Strs w ao S) {p : Addr} (hne : ∀ a, ao = some a → a.block ≠ p.block) (v : Value) : Strs (w.setCell p v) ao S := fun k s hs => by
  obtain ⟨b, off, e, hc⟩ := h k s hs
  refine ⟨b, off, e, ?_⟩
  have hb : b ≠ p.block := hne _ e
  rw [World.cell?_of_block (w := w) (a := ⟨b, off + k, none⟩) (Below.heap_setCell w p v b hb)]
  exact hc

theorem Lay.start (w : World) (n : Nat) (ids : List ByteArray) (Ps : List (List ByteArray)) : Lay w w.heap.size n 0 ids Ps (w.alloc (.cells (made52 n) 52)) (fun i => ((made52 n)[i]?).getD (.bool false)) := by
  refine ⟨?_, fun j id P hj => absurd hj (Nat.not_lt_zero _), (Below.refl _ _).alloc (Nat.le_refl _) _⟩
  have := made_row w (made52 n) 52
  rwa [show (made52 n).size = n * 2 from size_madeCells _ _] at this

theorem Lay.step {w : World} {g n k : Nat} {ids : List ByteArray} {Ps : List (List ByteArray)} {wr wq : World} {f : Nat → Value} (h : Lay w g n k ids Ps wr f) (hq : Below wr.heap.size wr wq) {id : ByteArray} {P : List ByteArray} {av : Option Addr} {c : Nat}
    (hid : ids[k]? = some id) (hP : Ps[k]? = some P) (hs : Strs wq av P) (hne : ∀ a, av = some a → a.block ≠ g) (hg : w.heap.size ≤ g) :
    ∃ f', Lay w g n (k + 1) ids Ps ((wq.setCell ⟨g, k * 2, none⟩ (.string id)).setCell ⟨g, k * 2 + 1, none⟩ (.slice av P.length c)) f' := by
  have hrow := h.row.of_block (w' := wq) (hq.block g h.row.lt)
  have hsz := h.bel.size
  refine ⟨_, (hrow.set (k * 2) (.string id)).set (k * 2 + 1) (.slice av P.length c), fun j id' P' hj hid' hP' => ?_, ((h.bel.trans (hq.mono hsz)).setCell hg _).setCell hg _⟩
  by_cases e : j = k
  · subst e
    rw [hid] at hid'; rw [hP] at hP'
    cases hid'; cases hP'
    refine ⟨by simp, av, c, by simp, (hs.setOther (by simpa using hne) _).setOther (by simpa using hne) _, hne⟩
  · obtain ⟨e1, av', c', e2, e3, e4⟩ := h.ent j id' P' (by omega) hid' hP'
    have n1 : ¬ j * 2 = k * 2 := by omega
    have n2 : ¬ j * 2 = k * 2 + 1 := by omega
    have n3 : ¬ j * 2 + 1 = k * 2 := by omega
    have n4 : ¬ j * 2 + 1 = k * 2 + 1 := by omega
    refine ⟨by simp only [n1, n2, if_false]; exact e1, av', c', by simp only [n3, n4, if_false]; exact e2, ((e3.on hq).setOther (by simpa using e4) _).setOther (by simpa using e4) _, e4⟩

theorem Lay.ents {w : World} {g n : Nat} {ids : List ByteArray} {Ps : List (List ByteArray)} {wr : World} {f : Nat → Value} (h : Lay w g n ids.length ids Ps wr f) (hn : ids.length ≤ n) : Ent wr false (some ⟨g, 0, none⟩) ids Ps := fun k id P hi hP => by
  have hk : k < ids.length := (List.getElem?_eq_some_iff.1 hi).1
  obtain ⟨e1, av, c, e2, e3, _⟩ := h.ent k id P hk hi hP
  refine ⟨g, 0, av, c, rfl, ?_, ?_, e3, fun h => by cases h⟩
  · rw [Nat.zero_add, h.row.cell (by omega), e1]
  · rw [Nat.zero_add, h.row.cell (by omega), e2]

/-- A party's interests, j of them copied into the new block. -/
structure Fill (wo : World) (P : List ByteArray) (j : Nat) (wq : World) (f : Nat → Value) : Prop where
  row : wq.rowIs wo.heap.size 30 P.length f
  val : ∀ i s, i < j → P[i]? = some s → f i = .string s
  bel : Below wo.heap.size wo wq

theorem Fill.start (wo : World) (P : List ByteArray) : Fill wo P 0 (wo.alloc (.cells (made1 P.length) 30)) (fun i => ((made1 P.length)[i]?).getD (.bool false)) := by
  refine ⟨?_, fun i s hi => absurd hi (Nat.not_lt_zero _), (Below.refl _ _).alloc (Nat.le_refl _) _⟩
  have := made_row wo (made1 P.length) 30
  rwa [show (made1 P.length).size = P.length from size_madeCells _ _] at this

theorem Fill.step {wo : World} {P : List ByteArray} {j : Nat} {wq : World} {f : Nat → Value} (h : Fill wo P j wq f) {s : ByteArray} (hs : P[j]? = some s) : ∃ f', Fill wo P (j + 1) (wq.setCell ⟨wo.heap.size, j, none⟩ (.string s)) f' := by
  refine ⟨_, h.row.set j (.string s), fun i s' hi hs' => ?_, h.bel.setCell (Nat.le_refl _) _⟩
  by_cases e : i = j
  · subst e; rw [hs] at hs'; cases hs'; simp
  · simp only [e, if_false]; exact h.val i s' (by omega) hs'

theorem Fill.strs {wo : World} {P : List ByteArray} {wq : World} {f : Nat → Value} (h : Fill wo P P.length wq f) : Strs wq (some ⟨wo.heap.size, 0, none⟩) P := fun k s hs => by
  have hk : k < P.length := (List.getElem?_eq_some_iff.1 hs).1
  exact ⟨_, _, rfl, by rw [Nat.zero_add, h.row.cell hk, h.val k s hk hs]⟩

set_option maxHeartbeats 1000000 in
set_option maxRecDepth 100000 in
theorem in15_some (a : Addr) (a1 : Option Addr) (cap c1 : Nat) (ids : List ByteArray) (Ps : List (List ByteArray)) (w : World) (hI : Strs w (some a) ids) (hR : Rws w a1 Ps) (hl : ids.length ≤ Ps.length) (hn : ids.length ≤ 1048576)
    (hP : ∀ P ∈ Ps, P.length ≤ 1048576) :
    Calls Try.prog 15 #[.slice (some a) ids.length cap, .slice a1 Ps.length c1] w fun e w' => ∃ g, e = .returned (.slice (some ⟨g, 0, none⟩) ids.length ids.length) ∧ Ent w' false (some ⟨g, 0, none⟩) ids Ps ∧ Below w.heap.size w w' := by
  have heq := fun w a n c => Lib.run_eql_slice_nil (P := Try.prog) w 23 9 a n c 0 0 Try.underlying23
  have hne := fun w a n c => run_neq_slice_nil_any (P := Try.prog) w 23 9 a n c 0 0 Try.underlying23
  have hmk := mk34 ids.length hn
  go_enter Try.func15, Try.ntmps15
  go_wp2
  go_loopw [6] (fun i wr => ∃ (k : Nat) (f : Nat → Value), k ≤ ids.length ∧ i = .int .i64 k ∧ Lay w w.heap.size ids.length k ids Ps wr f) (fun i _ => ids.length - (intOf i).toNat)
  case atStart => exact ⟨0, _, Nat.zero_le _, rfl, Lay.start _ _ _ _⟩
  case round =>
    obtain ⟨k, f, hk, rfl, hlay⟩ := hrel
    obtain ⟨wo, ewo⟩ : ∃ x, x = wr := ⟨_, rfl⟩
    subst ewo
    by_cases hlt : k < ids.length
    · obtain ⟨id, hid⟩ := get_lt hlt
      obtain ⟨P, hPk⟩ := get_lt (show k < Ps.length by omega)
      obtain ⟨b, off, ea, hc⟩ := hI k id hid
      cases ea
      obtain ⟨b1, off1, pv, pc, rfl, hc1, hsP, _⟩ := hR k P hPk
      have hPn := hP P (List.mem_of_getElem? hPk)
      have z1 := cell_on hc hlay.bel
      have z2 := cell_on hc1 hlay.bel
      have x1 := hlay.row.cell (i := k * 2) (by omega)
      have x2 := hlay.row.cell (i := k * 2 + 1) (by omega)
      have y1 := hlay.row.frozen (k * 2)
      have y2 := hlay.row.frozen (k * 2 + 1)
      cases pv with
      | none =>
        have e0 : P = [] := by
          match P, hsP with
          | [], _ => rfl
          | s :: r, h => obtain ⟨_, _, e, _⟩ := h 0 s rfl; cases e
        subst e0
        have ST := hlay.step (Below.refl _ _) hid hPk (av := none) (c := 0) (fun j s hs => by simp at hs) (fun a h => by cases h) (Nat.le_refl _)
        clear hid hPk
        go_wp2
        obtain ⟨f', r1⟩ := ST
        go_roundw
        case rel => exact ⟨k + 1, f', by omega, by go_num, r1⟩
        case measure => simp [intOf]; omega
      | some pa =>
        have HI : Hid (ids[k]? = some id) := hid
        have HP : Hid (Ps[k]? = some P) := hPk
        clear hid hPk
        have hmk2 := mk28f P.length hPn
        have x1' := fun o => cell_alloc x1 o
        have x2' := fun o => cell_alloc x2 o
        go_wp2
        go_loopw [8] (fun i wq => ∃ (j : Nat) (f2 : Nat → Value), j ≤ P.length ∧ i = .int .i64 j ∧ Fill wo P j wq f2) (fun i _ => P.length - (intOf i).toNat)
        case atStart => exact ⟨0, _, Nat.zero_le _, rfl, Fill.start _ _⟩
        case round =>
          obtain ⟨j, f2, hj, rfl, hfill⟩ := hrel
          have q1 := cell_on z1 hfill.bel
          have q2 := cell_on z2 hfill.bel
          have q3 := cell_on x1 hfill.bel
          have q4 := cell_on x2 hfill.bel
          have q5 : wr.frozen? ⟨w.heap.size, k * 2, none⟩ = false := (hlay.row.of_block (w' := wr) (hfill.bel.block _ hlay.row.lt)).frozen _
          have q6 : wr.frozen? ⟨w.heap.size, k * 2 + 1, none⟩ = false := (hlay.row.of_block (w' := wr) (hfill.bel.block _ hlay.row.lt)).frozen _
          by_cases hlt2 : j < P.length
          · obtain ⟨s, hs⟩ := get_lt hlt2
            obtain ⟨b2, off2, ep, hd⟩ := hsP j s hs
            cases ep
            have q7 := cell_on (cell_on hd hlay.bel) hfill.bel
            have q8 := hfill.row.cell (i := j) hlt2
            have q9 := hfill.row.frozen j
            have ST := hfill.step hs
            clear hs
            go_wp2
            obtain ⟨f', r1⟩ := ST
            go_roundw
            case rel => exact ⟨j + 1, f', by omega, by go_num, r1⟩
            case measure => simp [intOf]; omega
          · obtain rfl : j = P.length := by omega
            have hlt3 := hlay.row.lt
            have ST := hlay.step hfill.bel HI.out HP.out (c := P.length) hfill.strs (fun a h => by cases h; simp; omega) (Nat.le_refl _)
            go_wp2
            obtain ⟨f', r1⟩ := ST
            go_roundw
            case rel => exact ⟨k + 1, f', by omega, by go_num, r1⟩
            case measure => simp [intOf]; omega
    · obtain rfl : k = ids.length := by omega
      go_wp2
      go_ret
      exact ⟨_, rfl, hlay.ents (Nat.le_refl _), hlay.bel⟩

set_option maxHeartbeats 400000 in
theorem in15_none (a1 : Option Addr) (m cap c1 : Nat) (w : World) :
    Calls Try.prog 15 #[.slice none 0 cap, .slice a1 m c1] w fun e w' => e = .returned (.slice none 0 0) ∧ w' = w := by
  have heq := fun w a n c => Lib.run_eql_slice_nil (P := Try.prog) w 23 9 a n c 0 0 Try.underlying23
  go_enter Try.func15, Try.ntmps15
  go_wp2
  go_ret
  exact ⟨rfl, rfl⟩

theorem in15 (ao a1 : Option Addr) (cap c1 : Nat) (ids : List ByteArray) (Ps : List (List ByteArray)) (w : World) (hI : Strs w ao ids) (hR : Rws w a1 Ps) (hl : ids.length ≤ Ps.length) (hn : ids.length ≤ 1048576) (hP : ∀ P ∈ Ps, P.length ≤ 1048576) :
    Calls Try.prog 15 #[.slice ao ids.length cap, .slice a1 Ps.length c1] w fun e w' => ∃ ao', e = .returned (.slice ao' ids.length ids.length) ∧ Ent w' false ao' ids Ps ∧ Below w.heap.size w w' := by
  cases ao with
  | some a =>
    refine (in15_some a a1 cap c1 ids Ps w hI hR hl hn hP).mono ?_
    rintro e w' ⟨g, rfl, h2, h3⟩
    exact ⟨_, rfl, h2, h3⟩
  | none =>
    have e0 : ids = [] := by
      match ids, hI with
      | [], _ => rfl
      | s :: r, h => obtain ⟨_, _, e, _⟩ := h 0 s rfl; cases e
    subst e0
    refine (in15_none a1 Ps.length cap c1 w).mono ?_
    rintro e w' ⟨rfl, rfl⟩
    exact ⟨none, rfl, (fun k s t hs => by simp at hs), Below.refl _ _⟩

end Go.Proofs.Qxb6617112a.Base
