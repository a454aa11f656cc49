/-
  PLAIN FUNCTIONS ('once', 'arts'), WHAT AN ENTRY IS ('Ent'), AND THE WALK of appendOnce (28).
-/
import Derived.Test.Qxb6617112aCuts
namespace Go.Proofs.Qxb6617112a.Base
open Go.RowKit

/-- appendOnce. -/
def once (L : List ByteArray) (t : ByteArray) : List ByteArray := if hasB L t then L else L ++ [t]
/-- What one clause does to a party's articles. -/
def artStep (has : List ByteArray) (L : List ByteArray) (p : ByteArray × ByteArray) : List ByteArray := if hasB has p.1 then once L p.2 else L
/-- A party's articles. -/
def arts (has : List ByteArray) (C : List (ByteArray × ByteArray)) : List ByteArray := C.foldl (artStep has) []

theorem arts_snoc {has : List ByteArray} {C : List (ByteArray × ByteArray)} {k : Nat} {p : ByteArray × ByteArray} (h : C[k]? = some p) : arts has (C.take (k + 1)) = artStep has (arts has (C.take k)) p := by
  rw [take_snoc h]; simp [arts]

theorem once_le (L : List ByteArray) (t : ByteArray) : (once L t).length ≤ L.length + 1 := by
  unfold once; split <;> simp

theorem artStep_le (has L : List ByteArray) (p : ByteArray × ByteArray) : (artStep has L p).length ≤ L.length + 1 := by
  unfold artStep; split
  · exact once_le _ _
  · omega

theorem arts_le (has : List ByteArray) (C : List (ByteArray × ByteArray)) : (arts has C).length ≤ C.length := by
  have h : ∀ (C : List (ByteArray × ByteArray)) (L : List ByteArray), (C.foldl (artStep has) L).length ≤ L.length + C.length := by
    intro C
    induction C with
    | nil => intro L; simp
    | cons p r ih => intro L; have := ih (artStep has L p); have := artStep_le has L p; simp only [List.foldl_cons, List.length_cons]; omega
  simpa [arts] using h C []

/-- A slice of strings of the call's own, its block from B on; nil just where it is empty. -/
structure Own (w : World) (B : Nat) (av : Option Addr) (c : Nat) (L : List ByteArray) : Prop where
  row : w.ownsRow B 9 1 (.slice av L.length c) L.length (L.map Value.string)
  nil : av = none ↔ L = []

theorem Own.none (w : World) (B : Nat) : Own w B none 0 [] := ⟨World.ownsRow_nil _ _ _ _, by simp⟩

theorem Own.strs {w : World} {B : Nat} {av : Option Addr} {c : Nat} {L : List ByteArray} (h : Own w B av c L) : Strs w av L := fun k s hs => by
  have hk : k < L.length := (List.getElem?_eq_some_iff.1 hs).1
  cases av with
  | none => rw [h.nil.1 rfl] at hk; simp at hk
  | some a =>
    have hr := h.row
    obtain ⟨_, hr2⟩ := hr
    rcases hr2 with ⟨e, _⟩ | ⟨g, cap, cur, e, _⟩
    · cases e
    · cases e
      refine ⟨g, 0, rfl, ?_⟩
      rw [Nat.zero_add, h.row.cellAt k (by omega), List.getElem?_map, hs]
      rfl

theorem Own.lt {w : World} {B : Nat} {av : Option Addr} {c : Nat} {L : List ByteArray} (h : Own w B av c L) : ∀ k, (Value.slice av L.length c).ownBlock = some k → B ≤ k := fun k hk => (h.row.lt k hk).1

theorem Own.alloc {w : World} {B : Nat} {av : Option Addr} {c : Nat} {L : List ByteArray} (h : Own w B av c L) (o : Obj) : Own (w.alloc o) B av c L := ⟨h.row.alloc o, h.nil⟩

theorem Own.setBelow {w : World} {B : Nat} {av : Option Addr} {c : Nat} {L : List ByteArray} (h : Own w B av c L) {a : Addr} (ha : a.block < B) (u : Value) : Own (w.setCell a u) B av c L := ⟨ownsRow_setCell_below h.row ha u, h.nil⟩

/-- Behind the append. -/
theorem own_append {w w' w1 : World} {B : Nat} {av : Option Addr} {c : Nat} {L : List ByteArray} {t : ByteArray} {o : Obj} {v' : Value} (h : Own w B av c L) (hB : B ≤ w.heap.size) (ew : w' = w.alloc o)
    (hown : w1.ownsRow B 9 1 v' (L.length + 1) (L.map Value.string ++ [.string t])) (hgrow : w'.grownBy w1 (Value.slice av L.length c).ownBlock) :
    ∃ g c', v' = .slice (some ⟨g, 0, none⟩) (L ++ [t]).length c' ∧ Own w1 B (some ⟨g, 0, none⟩) c' (L ++ [t]) ∧ Below B w w1 := by
  subst ew
  have hb : Below B w w1 := ((Below.refl _ _).alloc hB _).grown hgrow (by simp; omega) (fun k hk => h.lt k hk)
  have hk := hown
  obtain ⟨_, h2⟩ := hk
  rcases h2 with ⟨_, h0⟩ | ⟨g, cap, cur, rfl, _⟩
  · omega
  · have e : (L ++ [t]).length = L.length + 1 := by simp
    have em : (L ++ [t]).map Value.string = L.map Value.string ++ [.string t] := by simp
    exact ⟨g, cap, by rw [e], ⟨by rw [e, em]; exact hown, by simp⟩, hb⟩

set_option maxHeartbeats 400000 in
theorem once28 (B : Nat) (av : Option Addr) (c : Nat) (L : List ByteArray) (t : ByteArray) (w : World) (h : Own w B av c L) (hL : L.length ≤ 1048576) (hB : B ≤ w.heap.size) :
    Calls Try.prog 28 #[.slice av L.length c, .string t] w fun e w' => ∃ av' c', e = .returned (.slice av' (once L t).length c') ∧ Own w' B av' c' (once L t) ∧ Below B w w' := by
  obtain ⟨i0, hi, hz0, hz1, hz2⟩ := info_parts info9
  have hstr := h.strs
  cases hh : hasB L t with
  | true =>
    have e1 : once L t = L := by simp [once, hh]
    rw [e1]
    clear e1
    go_enter Try.func28, Try.ntmps28
    go_wp2_with fail
    refine (has29 _ _ _ _ _ hstr (by unfold maxLen; omega)).mono ?_
    rintro e w' ⟨rfl, rfl⟩
    rw [hh]
    go_wp2
    go_ret
    exact ⟨_, _, rfl, h, Below.refl _ _⟩
  | false =>
    have e1 : once L t = L ++ [t] := by simp [once, hh]
    rw [e1]
    clear e1
    go_enter Try.func28, Try.ntmps28
    go_wp2_with fail
    refine (has29 _ _ _ _ _ hstr (by unfold maxLen; omega)).mono ?_
    rintro e w' ⟨rfl, rfl⟩
    rw [hh]
    go_wp2_with (at_builtin; refine wpList_append_own _ rfl _ _ 23 rfl B 9 i0 (.string ByteArray.empty) 1 16 Try.underlying23 hi hz0 hz1 hz2 rfl (by decide) _ _ _ rfl (h.row.alloc _) ⟨w'.heap.size, 0, none⟩ 1 1 [.string t] rfl rfl ?c1 ?c2 ?c3 ?c4 ?c5 ?_)
    case c1 =>
      intro j u hj
      match j, hj with
      | 0, hj => simp at hj; subst hj; simp [Addr.add]
    case c2 => intro u hu; simp at hu; subst hu; rfl
    case c3 => unfold maxLen; omega
    case c4 => omega
    case c5 => simp; omega
    · intro v' w1 hown' hgrow hnil
      obtain ⟨g, c', rfl, r1, r2⟩ := own_append h hB rfl hown' hgrow
      clear hown' hgrow hnil
      go_wp2
      go_ret
      exact ⟨_, _, rfl, r1, r2⟩

end Go.Proofs.Qxb6617112a.Base
