/-
  THE WALKS of '(bound).holdsAt' (22) and 'ZZHoldsAt' (8): each computes 'hat'.
-/
import Derived.Test.Qxb6617112aRows
import Derived.WalkKit
import Derived.ProofKit
namespace Go.Proofs.Qxb6617112a.Holds
open Go.RowKit

theorem grown_trans {a b c : World} (h : Grown a b) (k : Grown b c) : Grown a c :=
  ⟨World.keptBut_trans h.1 k.1, fun x => (k.2.1 x).trans (h.2.1 x), Nat.le_trans h.2.2 k.2.2⟩

/-- What 'holdsAt' computes. -/
def hat (a i : Bool) (c : Int) : Bool := if c = 0 then i else (decide (0 < c) == a)

set_option maxHeartbeats 400000 in
theorem at22 (a i : Bool) (c : Int) (w : World) :
    Calls Try.prog 22 #[.agg #[.bool a, .bool i], .int .i64 c] w fun e w' => e = .returned (.bool (hat a i c)) ∧ Grown w w' := by
  by_cases h : c = 0
  · subst h
    go_enter Try.func22, Try.ntmps22
    go_wp2
    go_ret
    exact ⟨rfl, by repeat (first | exact Grown.refl _ | apply Grown.drew | apply Grown.alloc)⟩
  · have hb : (c == 0) = false := by simpa using h
    have e : Hid (hat a i c = (decide (0 < c) == a)) := by simp [Hid, hat, h]
    clear h
    go_enter Try.func22, Try.ntmps22
    go_wp2
    go_ret
    exact ⟨by rw [e.out]; rfl, by repeat (first | exact Grown.refl _ | apply Grown.drew | apply Grown.alloc)⟩

set_option maxHeartbeats 400000 in
theorem at8 (a i : Bool) (c : Int) (w : World) :
    Calls Try.prog 8 #[.bool a, .bool i, .int .i64 c] w fun e w' => e = .returned (.bool (hat a i c)) ∧ Grown w w' := by
  go_enter Try.func8, Try.ntmps8
  go_wp2_with (go_at_call 22; refine (at22 _ _ _ _).mono ?_; rintro e w' ⟨rfl, hg⟩)
  go_ret
  exact ⟨rfl, hg⟩

theorem hat_compl (a i : Bool) (c : Int) : (hat (!a) (!i) c == hat a i c) = false := by
  unfold hat; cases a <;> cases i <;> by_cases h : c = 0 <;> by_cases g : 0 < c <;> simp [h, g]
theorem hat_mirror (a i : Bool) (c : Int) : (hat (!a) i (-c) != hat a i c) = false := by
  unfold hat
  by_cases h : c = 0
  · subst h; simp
  · have h' : -c ≠ 0 := by omega
    rw [if_neg h, if_neg h']
    by_cases g : 0 < c
    · cases a <;> simp [g] <;> omega
    · cases a <;> simp [g] <;> omega
theorem hat_strict0 (a : Bool) : hat a false 0 = false := rfl
theorem hat_strict (a : Bool) (c : Int) (h : c ≠ 0) : hat a false c = hat a true c := by unfold hat; simp [h]
theorem hat_up (i : Bool) (c : Int) (h : hat true i c = true) : hat true i (c + 1) = true := by
  unfold hat at *
  by_cases e : c = 0
  · subst e; simp
  · simp [e] at h
    have : c + 1 ≠ 0 := by omega
    simp [this]; omega
theorem hat_down (i : Bool) (c : Int) (h : hat false i c = true) : hat false i (c - 1) = true := by
  unfold hat at *
  by_cases e : c = 0
  · subst e; simp
  · simp [e] at h
    have : c - 1 ≠ 0 := by omega
    simp [this]; omega

/-! The ways on which the law would answer false: each is empty. -/
theorem no1 {a i : Bool} {c : Int} (h : (hat (!a) (!i) c == hat a i c) = true) : False := by rw [hat_compl] at h; cases h
theorem no2 {a i : Bool} {c : Int} (h : (!hat (!a) i (-c) == hat a i c) = true) : False := by
  have := hat_mirror a i c
  simp only [bne] at this
  rw [this] at h; cases h
theorem no3 {a : Bool} {c : Int} (g : hat a true c = true) (h : (!hat a false c == (c != 0)) = true) : False := by
  by_cases e : c = 0
  · subst e; simp [hat] at h
  · rw [hat_strict a c e, g] at h; simp [e] at h
theorem no4 {a : Bool} {c : Int} (g : ¬ hat a true c = true) (h : hat a false c = true) : False := by
  by_cases e : c = 0
  · subst e; simp [hat] at h
  · rw [hat_strict a c e] at h; exact g h
theorem no5 {a i : Bool} {c : Int} (ha : (!a) = true) (g : hat a i c = true) (h : (!hat a i (c - 1)) = true) : False := by
  have e : a = false := by simpa using ha
  subst e; rw [hat_down i c g] at h; cases h
theorem no6 {a i : Bool} {c : Int} (ha : (!a) = false) (g : hat a i c = true) (h : (!hat a i (c + 1)) = true) : False := by
  have e : a = true := by simpa using ha
  subst e; rw [hat_up i c g] at h; cases h

end Go.Proofs.Qxb6617112a.Holds
