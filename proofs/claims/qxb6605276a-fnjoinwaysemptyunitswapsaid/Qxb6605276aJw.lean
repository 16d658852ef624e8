/-
  THE CALLEES: 'capWayB1' (6), 'worthB1' (7), 'joinWays' (15), 'ZZJoinWays' (8): each computes a plain function on numbers.
-/
import Derived.Test.Qxb6605276aRows
import Derived.WalkKit
import Derived.WalkSpells
import Derived.WalkLawsBesides
namespace Go.Proofs.Qxb6605276a
open Go.RowKit

/-! ### THE PLAIN FUNCTIONS -/
def cap (x : Int) (f : Bool) : Int := if f = false ∧ 1 < x then 1 else x
def worth (x : Int) (al : Bool) (o : Int) : Int := if x = 2 ∧ al = false ∧ o ≠ 0 then 1 else x
def jwW (x y : Int) (aA bA : Bool) : Int := if x = 0 then y else if y = 0 then x else if aA = true ∧ x = 2 then 2 else if bA = true ∧ y = 2 then 2 else 1
def jwL (x y : Int) (aA bA : Bool) : Int := if x = 0 then 1 else if y = 0 then 0 else if aA = true ∧ x = 2 then 0 else if bA = true ∧ y = 2 then 1 else 0

theorem three (a : Int) (h0 : 0 ≤ a) (h2 : a ≤ 2) : a = 0 ∨ a = 1 ∨ a = 2 := by omega

/-! ### THE WALKS -/
set_option maxHeartbeats 400000 in
theorem cap_any (x : Int) (f : Bool) (w : World) :
    Calls Try.prog 6 #[.int .u8 x, .bool f] w fun e w' => e = .returned (.int .u8 (cap x f)) ∧ w' = w := by
  cases f
  · by_cases h : 1 < x
    · go_enter Try.func6, Try.ntmps6
      go_wp2
      go_ret
      exact ⟨by simp [cap, h], rfl⟩
    · have e : cap x false = x := by simp [cap, h]
      rw [e]; clear e
      go_enter Try.func6, Try.ntmps6
      go_wp2
      go_ret
      exact ⟨rfl, rfl⟩
  · go_enter Try.func6, Try.ntmps6
    go_wp2
    go_ret
    exact ⟨by simp [cap], rfl⟩

set_option maxHeartbeats 400000 in
theorem worth_any (x : Int) (al : Bool) (o : Int) (w : World) :
    Calls Try.prog 7 #[.int .u8 x, .bool al, .int .u8 o] w fun e w' => e = .returned (.int .u8 (worth x al o)) ∧ w' = w := by
  by_cases h : x = 2
  · subst h
    cases al
    · by_cases ho : o = 0
      · subst ho
        go_enter Try.func7, Try.ntmps7
        go_wp2
        go_ret
        exact ⟨by simp [worth], rfl⟩
      · have e : worth 2 false o = 1 := by simp [worth, ho]
        rw [e]; clear e
        have ho' : (o != 0) = true := by simp [ho]
        clear ho
        go_enter Try.func7, Try.ntmps7
        go_wp2
        go_ret
        exact ⟨rfl, rfl⟩
    · go_enter Try.func7, Try.ntmps7
      go_wp2
      go_ret
      exact ⟨by simp [worth], rfl⟩
  · have e : worth x al o = x := by simp [worth, h]
    rw [e]; clear e
    have h' : (x == 2) = false := by simp [h]
    clear h
    go_enter Try.func7, Try.ntmps7
    go_wp2
    go_ret
    exact ⟨rfl, rfl⟩

set_option maxHeartbeats 4000000 in
theorem jw_any (a b : Int) (aA bA f0 f1 : Bool) (w : World) (ha0 : 0 ≤ a) (ha2 : a ≤ 2) (hb0 : 0 ≤ b) (hb2 : b ≤ 2) :
    Calls Try.prog 15 #[.int .u8 a, .int .u8 b, .bool aA, .bool bA, .agg #[.bool f0, .bool f1]] w fun e w' => e = .returned (.tuple #[.int .u8 (jwW (cap a f0) (cap b f1) aA bA), .int .i64 (jwL (cap a f0) (cap b f1) aA bA)]) ∧ Below w.heap.size w w' := by
  rcases three a ha0 ha2 with rfl | rfl | rfl <;> rcases three b hb0 hb2 with rfl | rfl | rfl <;> clear ha0 ha2 hb0 hb2 <;> cases f0 <;> cases f1 <;> cases aA <;> cases bA
  all_goals
    go_enter Try.func15, Try.ntmps15
    go_wp2
    go_ret2
    exact ⟨rfl, (Below.refl _ _).alloc (Nat.le_refl _) _⟩

set_option maxHeartbeats 400000 in
theorem zj_any (a b : Int) (aA bA f0 f1 : Bool) (w : World) (ha0 : 0 ≤ a) (ha2 : a ≤ 2) (hb0 : 0 ≤ b) (hb2 : b ≤ 2) :
    Calls Try.prog 8 #[.int .u8 a, .int .u8 b, .bool aA, .bool bA, .agg #[.bool f0, .bool f1]] w fun e w' => e = .returned (.tuple #[.int .u8 (jwW (cap a f0) (cap b f1) aA bA), .int .i64 (jwL (cap a f0) (cap b f1) aA bA)]) ∧ Below w.heap.size w w' := by
  go_enter Try.func8, Try.ntmps8
  go_wp2_with (go_at_call 15; refine (jw_any a b aA bA f0 f1 _ ha0 ha2 hb0 hb2).mono ?_; rintro e w1 ⟨rfl, hb⟩)
  go_ret2
  exact ⟨rfl, ((Below.refl _ _).alloc (Nat.le_refl _) _).trans (hb.mono (by simp))⟩
end Go.Proofs.Qxb6605276a
