/-
  THE WALK of abstentions (25) and ZZAbstentions (16).
-/
import Derived.Test.Qxb6617112aOnce
namespace Go.Proofs.Qxb6617112a.Base
open Go.RowKit

theorem info39 : (Try.prog.info? 39).map (fun i => (i.zero, i.size, i.bytes)) = some (some (.agg #[.string ByteArray.empty, .slice none 0 0]), 2, 40) := by kernel_rfl

/-- The slice at 'ao' holds entries of two cells: an id, and a slice of the strings L. ('nn': nil just where L is empty.) -/
def Ent (w : World) (nn : Bool) (ao : Option Addr) (ids : List ByteArray) (Ls : List (List ByteArray)) : Prop :=
  ∀ k id L, ids[k]? = some id → Ls[k]? = some L → ∃ b off av c, ao = some ⟨b, off, none⟩ ∧ w.cell? ⟨b, off + k * 2, none⟩ = some (.string id) ∧ w.cell? ⟨b, off + k * 2 + 1, none⟩ = some (.slice av L.length c) ∧
    Strs w av L ∧ (nn = true → (av = none ↔ L = []))

theorem Ent.on {w w' : World} {nn : Bool} {ao : Option Addr} {ids : List ByteArray} {Ls : List (List ByteArray)} (h : Ent w nn ao ids Ls) (hb : Below w.heap.size w w') : Ent w' nn ao ids Ls := fun k id L hi hL => by
  obtain ⟨b, off, av, c, e, h1, h2, h3, h4⟩ := h k id L hi hL
  exact ⟨b, off, av, c, e, cell_on h1 hb, cell_on h2 hb, h3.on hb, h4⟩

/-- What the call owns of the answer: XS, the entries' cells. -/
def Abs (w : World) (B : Nat) (ids : List ByteArray) (Ls : List (List ByteArray)) (XS : List Value) : Prop :=
  ∀ k id L, ids[k]? = some id → Ls[k]? = some L → ∃ av c, XS[k * 2]? = some (.string id) ∧ XS[k * 2 + 1]? = some (.slice av L.length c) ∧ Own w B av c L

theorem cell_alloc {w : World} {a : Addr} {v : Value} (h : w.cell? a = some v) (o : Obj) : (w.alloc o).cell? a = some v := cell_on h ((Below.refl _ _).alloc (Nat.le_refl _) _)

/-- The two cells of a box. -/
def two (x y : Value) : Nat → Value := fun i => if i = 0 then x else y

theorem two_row (w : World) (x y : Value) (t : TypeId) : (w.alloc (.cells #[x, y] t)).rowIs w.heap.size t 2 (two x y) :=
  World.rowIs_alloc w #[x, y] t (two x y) (fun i hi => by
    match i, hi with
    | 0, _ => rfl
    | 1, _ => rfl)

theorem two_set {w : World} {b : Nat} {t : TypeId} {x y : Value} (h : w.rowIs b t 2 (two x y)) (z : Value) : (w.setCell ⟨b, 1, none⟩ z).rowIs b t 2 (two x z) :=
  (h.set 1 z).congr (fun i hi => by
    match i, hi with
    | 0, _ => rfl
    | 1, _ => rfl)

/-- The inner loop, j clauses behind it: the box of the abstention, the articles so far, all older memory as it was. -/
structure Inn (w1 : World) (ba : Nat) (id : ByteArray) (L : List ByteArray) (av : Option Addr) (c : Nat) (wq : World) : Prop where
  box : wq.rowIs ba 39 2 (two (.string id) (.slice av L.length c))
  own : Own wq (ba + 1) av c L
  bel : Below ba w1 wq

theorem Inn.start (w1 : World) (id : ByteArray) : Inn w1 w1.heap.size id [] none 0 (w1.alloc (.cells #[.string id, .slice none 0 0] 39)) :=
  ⟨two_row _ _ _ _, Own.none _ _, (Below.refl _ _).alloc (Nat.le_refl _) _⟩

theorem Inn.skip {w1 : World} {ba : Nat} {id : ByteArray} {L : List ByteArray} {av : Option Addr} {c : Nat} {wq : World} (h : Inn w1 ba id L av c wq) (o : Obj) : Inn w1 ba id L av c (wq.alloc o) :=
  ⟨h.box.alloc o, h.own.alloc o, h.bel.alloc (Nat.le_of_lt h.box.lt) o⟩

theorem Inn.step {w1 : World} {ba : Nat} {id : ByteArray} {L L' : List ByteArray} {av av' : Option Addr} {c c' : Nat} {wq w3 : World} (h : Inn w1 ba id L av c wq) (own : Own w3 (ba + 1) av' c' L') (hb : Below (ba + 1) wq w3) :
    Inn w1 ba id L' av' c' (w3.setCell ⟨ba, 1, none⟩ (.slice av' L'.length c')) :=
  ⟨two_set (h.box.of_block (hb.block ba (by omega))) _, own.setBelow (by simp) _, (h.bel.trans (hb.mono (by omega))).setCell (Nat.le_refl _) _⟩

theorem grown_of_below {w w' : World} (hb : Below w.heap.size w w') : w.grownBy w' none := ⟨hb.os, hb.tape, hb.output, hb.size, fun k hk _ => hb.block k hk⟩

theorem owns_on {w w' : World} {B : Nat} {e : TypeId} {size : Nat} {v : Value} {n : Nat} {xs : List Value} (h : w.ownsRow B e size v n xs) (hb : Below w.heap.size w w') : w'.ownsRow B e size v n xs :=
  h.kept (grown_of_below hb) (by cases hv : v.ownBlock <;> simp)

theorem owns_mono {w : World} {B B' : Nat} {e : TypeId} {size : Nat} {v : Value} {n : Nat} {xs : List Value} (h : w.ownsRow B e size v n xs) (hB : B' ≤ B) : w.ownsRow B' e size v n xs := by
  obtain ⟨h1, h2⟩ := h
  refine ⟨h1, ?_⟩
  rcases h2 with h2 | ⟨g, cap, cur, e1, e2, r⟩
  · exact .inl h2
  · exact .inr ⟨g, cap, cur, e1, by omega, r⟩

theorem Own.on {w w' : World} {B : Nat} {av : Option Addr} {c : Nat} {L : List ByteArray} (h : Own w B av c L) (hb : Below w.heap.size w w') : Own w' B av c L := ⟨owns_on h.row hb, h.nil⟩
theorem Own.mono {w : World} {B B' : Nat} {av : Option Addr} {c : Nat} {L : List ByteArray} (h : Own w B av c L) (hB : B' ≤ B) : Own w B' av c L := ⟨owns_mono h.row hB, h.nil⟩

/-- The articles' block is not the answer's: their elements are of two types. -/
theorem own_ne {w : World} {B B' : Nat} {av : Option Addr} {c : Nat} {L : List ByteArray} {v : Value} {n : Nat} {xs : List Value} (h : Own w B av c L) (k : w.ownsRow B' 39 2 v n xs) :
    (Value.slice av L.length c).ownBlock = none ∨ (Value.slice av L.length c).ownBlock ≠ v.ownBlock := by
  obtain ⟨_, h2⟩ := h.row
  obtain ⟨_, k2⟩ := k
  rcases h2 with ⟨e, _⟩ | ⟨g, cap, cur, e, _, hg, _⟩
  · left; rw [e]; rfl
  · right
    rw [e]
    rcases k2 with ⟨e', _⟩ | ⟨g', cap', cur', e', _, hg', _⟩
    · rw [e']; simp [Value.ownBlock]
    · rw [e']
      intro heq
      simp only [Value.ownBlock, Option.some.injEq] at heq
      subst heq
      rw [hg] at hg'
      simp at hg'

/-- What a round of the outer loop does. -/
theorem outer_step {w wo wr w4 : World} {k xc c n : Nat} {xa av : Option Addr} {XS : List Value} {ids : List ByteArray} {Ls : List (List ByteArray)} {id : ByteArray} {L : List ByteArray} {o : Obj} {v' : Value}
    (hb : Below w.heap.size w wo) (bq : Below wo.heap.size wo wr) (hown : wo.ownsRow w.heap.size 39 2 (.slice xa k xc) k XS) (habs : Abs wo w.heap.size (ids.take k) (Ls.take k) XS) (own : Own wr n av c L) (hn : w.heap.size ≤ n)
    (hid : ids[k]? = some id) (hL : Ls[k]? = some L)
    (hown4 : w4.ownsRow w.heap.size 39 2 v' (k + 1) (XS ++ [.string id, .slice av L.length c])) (hgrow : (wr.alloc o).grownBy w4 (Value.slice xa k xc).ownBlock) :
    ∃ g xc', v' = .slice (some ⟨g, 0, none⟩) (k + 1) xc' ∧ w4.ownsRow w.heap.size 39 2 (.slice (some ⟨g, 0, none⟩) (k + 1) xc') (k + 1) (XS ++ [.string id, .slice av L.length c]) ∧
      Abs w4 w.heap.size (ids.take (k + 1)) (Ls.take (k + 1)) (XS ++ [.string id, .slice av L.length c]) ∧ Below w.heap.size w w4 := by
  have hs1 := hb.size
  have hs2 := bq.size
  have hownr := (owns_on hown bq).alloc o
  have hlen : XS.length = k * 2 := hown.1
  have keep : ∀ {B : Nat} {av : Option Addr} {c : Nat} {L : List ByteArray}, Own (wr.alloc o) B av c L → Own w4 B av c L := fun h => ⟨h.row.kept hgrow (own_ne h hownr), h.nil⟩
  have hbel : Below w.heap.size w w4 := ((hb.trans (bq.mono hs1)).alloc (by omega) o).grown hgrow (by simp; omega) (fun x hx => (hown.lt x hx).1)
  have habs4 : Abs w4 w.heap.size (ids.take (k + 1)) (Ls.take (k + 1)) (XS ++ [.string id, .slice av L.length c]) := by
    intro j id' L' hj hj'
    by_cases e : j = k
    · subst e
      rw [List.getElem?_take, if_pos (by omega), hid] at hj
      rw [List.getElem?_take, if_pos (by omega), hL] at hj'
      cases hj; cases hj'
      refine ⟨av, c, ?_, ?_, keep ((own.mono hn).alloc o)⟩
      · rw [List.getElem?_append_right (by omega), hlen]; simp
      · rw [List.getElem?_append_right (by omega), hlen]; simp
    · rw [List.getElem?_take] at hj hj'
      split at hj
      · rename_i hlt
        rw [if_pos hlt] at hj'
        obtain ⟨av', c', h1, h2, h3⟩ := habs j id' L' (by rw [List.getElem?_take, if_pos (by omega)]; exact hj) (by rw [List.getElem?_take, if_pos (by omega)]; exact hj')
        have l1 : j * 2 < XS.length := (List.getElem?_eq_some_iff.1 h1).1
        have l2 : j * 2 + 1 < XS.length := (List.getElem?_eq_some_iff.1 h2).1
        exact ⟨av', c', by rw [List.getElem?_append_left l1]; exact h1, by rw [List.getElem?_append_left l2]; exact h2, keep ((h3.on bq).alloc o)⟩
      · cases hj
  have hk := hown4
  obtain ⟨_, h2⟩ := hk
  rcases h2 with ⟨_, h0⟩ | ⟨g, cap, cur, rfl, _⟩
  · omega
  · exact ⟨g, cap, rfl, hown4, habs4, hbel⟩

/-- The answer, off what is owned. -/
theorem ent_of_abs {w : World} {B : Nat} {n xc : Nat} {xa : Option Addr} {XS : List Value} {ids : List ByteArray} {Ls : List (List ByteArray)} (hown : w.ownsRow B 39 2 (.slice xa n xc) n XS) (habs : Abs w B ids Ls XS) (hlen : ids.length ≤ n) : Ent w true xa ids Ls := fun k id L hi hL => by
  obtain ⟨av, c, h1, h2, h3⟩ := habs k id L hi hL
  have hk : k < ids.length := (List.getElem?_eq_some_iff.1 hi).1
  obtain ⟨h0, hr⟩ := hown
  have hown : w.ownsRow B 39 2 (.slice xa n xc) n XS := ⟨h0, hr⟩
  rcases hr with ⟨_, hn⟩ | ⟨g, cap, cur, e, _⟩
  · omega
  · cases e
    refine ⟨g, 0, av, c, rfl, ?_, ?_, h3.strs, fun _ => h3.nil⟩
    · rw [Nat.zero_add, hown.cellAt _ (by omega)]; exact h1
    · rw [Nat.zero_add, hown.cellAt _ (by omega)]; exact h2

set_option maxHeartbeats 1000000 in
set_option maxRecDepth 100000 in
theorem ab25 (ao aC : Option Addr) (cap cc : Nat) (nn : Bool) (ids : List ByteArray) (Ps : List (List ByteArray)) (I A : List ByteArray) (w : World) (hR : Ent w nn ao ids Ps) (hC : Cls w aC I A)
    (hl : ids.length ≤ Ps.length) (hl2 : I.length ≤ A.length) (hn : ids.length ≤ 1048576) (hn2 : I.length ≤ 1048576) (hP : ∀ P ∈ Ps, P.length ≤ maxLen) :
    Calls Try.prog 25 #[.slice ao ids.length cap, .slice aC I.length cc] w fun e w' => ∃ xa xc, e = .returned (.slice xa ids.length xc) ∧ Ent w' true xa ids (Ps.map fun P => arts P (I.zip A)) ∧ (xa = none ↔ ids = []) ∧ Below w.heap.size w w' := by
  obtain ⟨i0, hi, hz0, hz1, hz2⟩ := info_parts info39
  go_enter Try.func25, Try.ntmps25
  go_wp2
  go_loopw [5, 13] (fun v i wr => ∃ (k : Nat) (xa : Option Addr) (xc : Nat) (XS : List Value), k ≤ ids.length ∧ i = .int .i64 k ∧ v = .slice xa k xc ∧ wr.ownsRow w.heap.size 39 2 (.slice xa k xc) k XS ∧
      (xa = none ↔ k = 0) ∧ Abs wr w.heap.size (ids.take k) ((Ps.map fun P => arts P (I.zip A)).take k) XS ∧ Below w.heap.size w wr) (fun _ i _ => ids.length - (intOf i).toNat)
  case atStart => exact ⟨0, none, 0, [], Nat.zero_le _, rfl, rfl, World.ownsRow_nil _ _ _ _, by simp, (fun k id L h => by simp at h), Below.refl _ _⟩
  case round =>
    obtain ⟨k, xa, xc, XS, hk, rfl, rfl, hown, hxn, habs, hb⟩ := hrel
    obtain ⟨wo, ewo⟩ : ∃ x, x = wr := ⟨_, rfl⟩
    subst ewo
    by_cases hlt : k < ids.length
    · obtain ⟨id, hid⟩ := get_lt hlt
      obtain ⟨P, hPk⟩ := get_lt (show k < Ps.length by omega)
      obtain ⟨b, off, pv, pc, rfl, hc1, hc2, hsP, _⟩ := hR k id P hid hPk
      have hPn := hP P (List.mem_of_getElem? hPk)
      have z1 := cell_on hc1 hb
      have z2 := cell_on hc2 hb
      have HI : Hid (ids[k]? = some id) := hid
      have HP : Hid (Ps[k]? = some P) := hPk
      have HX : Hid (xa = none ↔ k = 0) := hxn
      clear hid hPk hxn
      obtain ⟨w1, hw1⟩ : ∃ x, x = wo.alloc (.cells #[.string id, .slice pv P.length pc] 52) := ⟨_, rfl⟩
      have e1 : w1.heap.size = wo.heap.size + 1 := by rw [hw1]; simp
      have hb1 : Below wo.heap.size wo w1 := by rw [hw1]; exact (Below.refl _ _).alloc (Nat.le_refl _) _
      have zr : w1.rowIs wo.heap.size 52 2 (two (.string id) (.slice pv P.length pc)) := by rw [hw1]; exact two_row _ _ _ _
      have hst := Inn.start w1 id
      rw [e1, hw1] at hst
      have HW : Hid (w1 = wo.alloc (.cells #[.string id, .slice pv P.length pc] 52)) := hw1
      have HE : Hid (w1.heap.size = wo.heap.size + 1) := e1
      clear hw1 e1
      go_wp2
      go_loopw [22] (fun i wq => ∃ (j : Nat) (av : Option Addr) (c : Nat), j ≤ I.length ∧ i = .int .i64 j ∧ Inn w1 (wo.heap.size + 1) id (arts P ((I.zip A).take j)) av c wq) (fun i _ => I.length - (intOf i).toNat)
      case atStart =>
        rw [← HW.out] at hst ⊢
        exact ⟨0, none, 0, Nat.zero_le _, rfl, hst⟩
      case round =>
        obtain ⟨j, av, c, hj, rfl, hin⟩ := hrel
        obtain ⟨L, hL⟩ : ∃ L, L = arts P ((I.zip A).take j) := ⟨_, rfl⟩
        rw [← hL] at hin
        have hLn : L.length ≤ 1048576 := by
          rw [hL]
          have h1 := arts_le P ((I.zip A).take j)
          rw [List.length_take] at h1
          omega
        have HL : Hid (L = arts P ((I.zip A).take j)) := hL
        clear hL
        have bq : Below wo.heap.size wo wr := hb1.trans (hin.bel.mono (by omega))
        have bw : Below w.heap.size w wr := hb.trans (bq.mono hb.size)
        have x0 := (zr.of_block (hin.bel.block _ (by omega))).cell (i := 0) (by omega)
        have x1 := (zr.of_block (hin.bel.block _ (by omega))).cell (i := 1) (by omega)
        have y0 := hin.box.cell (i := 0) (by omega)
        have y1 := hin.box.cell (i := 1) (by omega)
        have hz : wo.heap.size + 1 < wr.heap.size := hin.box.lt
        simp only [two, if_pos, if_neg (show ¬ (1 = 0) by omega)] at x0 x1 y0 y1
        by_cases hlt2 : j < I.length
        · obtain ⟨s, hs⟩ := get_lt hlt2
          obtain ⟨t, ht⟩ := get_lt (show j < A.length by omega)
          obtain ⟨b2, off2, rfl, hd1, hd2⟩ := hC j s t hs ht
          have z3 := cell_on hd1 bw
          have z4 := cell_on hd2 bw
          have HZ : Hid ((I.zip A)[j]? = some (s, t)) := by simp [Hid, List.getElem?_zip_eq_some, hs, ht]
          clear hs ht
          have x0' := fun o => cell_alloc x0 o
          have x1' := fun o => cell_alloc x1 o
          have y0' := fun o => cell_alloc y0 o
          have y1' := fun o => cell_alloc y1 o
          go_wp2_with fail
          refine (has27 pv pc P s _ (hsP.on (bw.alloc (by have := bw.size; omega) _)) hPn).mono ?_
          rintro e w' ⟨rfl, rfl⟩
          cases hh : hasB P s with
          | false =>
            have R : Inn w1 (wo.heap.size + 1) id (arts P ((I.zip A).take (j + 1))) av c (wr.alloc (.cells #[.string s, .string t] 50)) := by
              rw [arts_snoc HZ.out, artStep, hh, ← HL.out]; exact hin.skip _
            go_wp2
            go_roundw
            case rel => exact ⟨j + 1, av, c, by omega, by go_num, R⟩
            case measure => simp [intOf]; omega
          | true =>
            go_wp2_with fail
            refine (once28 (wo.heap.size + 2) av c L t _ (hin.own.alloc _) hLn (by simp; omega)).mono ?_
            rintro e w3 ⟨av', c', rfl, own3, hb3⟩
            have hin' := hin.skip (.cells #[.string s, .string t] 50)
            have box3 := hin'.box.of_block (hb3.block (wo.heap.size + 1) (by omega))
            have q1 := box3.cell (i := 1) (by omega)
            have q2 := box3.frozen 1
            have R : Inn w1 (wo.heap.size + 1) id (arts P ((I.zip A).take (j + 1))) av' c' (w3.setCell ⟨wo.heap.size + 1, 1, none⟩ (.slice av' (once L t).length c')) := by
              rw [arts_snoc HZ.out, artStep, hh, ← HL.out]; exact hin'.step own3 hb3
            clear own3 hb3 hin hin' box3
            go_wp2
            go_roundw
            case rel => exact ⟨j + 1, av', c', by omega, by go_num, R⟩
            case measure => simp [intOf]; omega
        · obtain rfl : j = I.length := by omega
          have HLa : Hid ((Ps.map fun P => arts P (I.zip A))[k]? = some L) := by
            have e := HL.out
            rw [List.take_of_length_le (by rw [List.length_zip]; omega)] at e
            have e2 := HP.out
            simp [Hid, e2, e]
          have hownr := owns_on hown bq
          go_wp2_with (at_builtin; refine wpList_append_own _ rfl _ _ 36 rfl w.heap.size 39 i0 (.agg #[.string ByteArray.empty, .slice none 0 0]) 2 40 Try.underlying36 hi hz0 hz1 hz2 rfl (by decide) _ _ _ rfl (hownr.alloc _) ⟨wr.heap.size, 0, none⟩ 1 1 [.string id, .slice av L.length c] rfl rfl ?c1 ?c2 ?c3 ?c4 ?c5 ?_)
          case c1 =>
            intro j u hj
            match j, hj with
            | 0, hj => simp at hj; subst hj; simp [Addr.add]
            | 1, hj => simp at hj; subst hj; simp [Addr.add]
          case c2 => intro u hu; simp at hu; rcases hu with rfl | rfl <;> rfl
          case c3 => unfold maxLen; omega
          case c4 => omega
          case c5 => have := hb.size; simp; omega
          · intro v' w4 hown4 hgrow hnil
            obtain ⟨g, xc', rfl, r1, r2, r3⟩ := outer_step hb bq hown habs hin.own (by have := hb.size; omega) HI.out HLa.out hown4 hgrow
            clear hown4 hgrow hnil hown habs hownr hin
            go_wp2
            go_roundw
            case rel => exact ⟨k + 1, _, xc', _, by omega, by go_num, rfl, r1, by simp, r2, r3⟩
            case measure => simp [intOf]; omega
    · obtain rfl : k = ids.length := by omega
      go_wp2
      go_ret
      refine ⟨xa, xc, rfl, ?_, ?_, hb⟩
      · refine ent_of_abs hown (fun j id L hi hL => ?_) (Nat.le_refl _)
        have hj : j < ids.length := (List.getElem?_eq_some_iff.1 hi).1
        exact habs j id L (by rw [List.getElem?_take, if_pos hj]; exact hi) (by rw [List.getElem?_take, if_pos hj]; exact hL)
      · rw [hxn]; exact List.length_eq_zero_iff

set_option maxHeartbeats 400000 in
/-- ZZAbstentions; the lengths by other names. -/
theorem ab16 (ao aC : Option Addr) (n cap m cc : Nat) (nn : Bool) (ids : List ByteArray) (Ps : List (List ByteArray)) (I A : List ByteArray) (w : World) (hR : Ent w nn ao ids Ps) (hC : Cls w aC I A) (en : ids.length = n) (em : I.length = m)
    (hl : ids.length ≤ Ps.length) (hl2 : I.length ≤ A.length) (hn : ids.length ≤ 1048576) (hn2 : I.length ≤ 1048576) (hP : ∀ P ∈ Ps, P.length ≤ maxLen) :
    Calls Try.prog 16 #[.slice ao n cap, .slice aC m cc] w fun e w' => ∃ xa xc, e = .returned (.slice xa n xc) ∧ Ent w' true xa ids (Ps.map fun P => arts P (I.zip A)) ∧ (xa = none ↔ ids = []) ∧ Below w.heap.size w w' := by
  subst en; subst em
  go_enter Try.func16, Try.ntmps16
  go_wp2_with fail
  refine (ab25 ao aC cap cc nn ids Ps I A w hR hC hl hl2 hn hn2 hP).mono ?_
  rintro e w' ⟨xa, xc, rfl, h1, h2, h3⟩
  have H2 : Hid (xa = none ↔ ids = []) := h2
  clear h2
  go_wp2
  go_ret
  exact ⟨xa, xc, rfl, h1, H2.out, h3⟩

end Go.Proofs.Qxb6617112a.Base
