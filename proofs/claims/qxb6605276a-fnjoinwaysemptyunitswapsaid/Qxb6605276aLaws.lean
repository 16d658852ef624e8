/-
  THE TWO LAWS: the plain facts on the plain functions, and the walks of 'FnJoinWaysBestWorth' (3) and 'FnJoinWaysEmptyUnitSwap' (4).
-/
import Derived.Test.Qxb6605276aJw
namespace Go.Proofs.Qxb6605276a
open Go.RowKit

/-! ### THE PLAIN LAW: no Go in sight -/
theorem cap_bd (x : Int) (f : Bool) (h0 : 0 ≤ x) (h2 : x ≤ 2) : 0 ≤ cap x f ∧ cap x f ≤ 2 := by
  unfold cap; split <;> omega
theorem jwW_swap (x y : Int) (p q : Bool) : jwW x y p q = jwW y x q p := by
  unfold jwW
  cases p <;> cases q <;> simp <;> (repeat split) <;> omega
theorem best_more (x y : Int) (p q : Bool) (hx0 : 0 ≤ x) (hx : x ≤ 2) (hy0 : 0 ≤ y) (hy : y ≤ 2) (h : worth x p y < worth y q x) : jwW x y p q = worth y q x ∧ jwL x y p q = 1 := by
  rcases three x hx0 hx with rfl | rfl | rfl <;> rcases three y hy0 hy with rfl | rfl | rfl <;> cases p <;> cases q <;> revert h <;> decide
theorem best_less (x y : Int) (p q : Bool) (hx0 : 0 ≤ x) (hx : x ≤ 2) (hy0 : 0 ≤ y) (hy : y ≤ 2) (h : ¬ worth x p y < worth y q x) : jwW x y p q = worth x p y ∧ jwL x y p q = if x = 0 ∧ y = 0 then 1 else 0 := by
  rcases three x hx0 hx with rfl | rfl | rfl <;> rcases three y hy0 hy with rfl | rfl | rfl <;> cases p <;> cases q <;> revert h <;> decide
theorem unit_left (y : Int) (p q : Bool) : jwW 0 y p q = y ∧ jwL 0 y p q = 1 := by simp [jwW, jwL]
theorem unit_right (x : Int) (p q : Bool) (h : x ≠ 0) : jwW x 0 p q = x ∧ jwL x 0 p q = 0 := by simp [jwW, jwL, h]
theorem cap_zero (f : Bool) : cap 0 f = 0 := by simp [cap]
theorem cap_pos (x : Int) (f : Bool) (h : x ≠ 0) : cap x f ≠ 0 := by unfold cap; split <;> omega
theorem both (x y : Int) (p q : Bool) (hx0 : 0 ≤ x) (hx : x ≤ 2) (hy0 : 0 ≤ y) (hy : y ≤ 2) (nx : x ≠ 0) (ny : y ≠ 0) :
    jwW x y p q ≠ 0 ∧ ((jwW x y p q = 2 ∧ jwL x y p q = 0 ∧ x = 2 ∧ p = true) ∨ (jwW x y p q = 2 ∧ jwL x y p q = 1 ∧ y = 2 ∧ q = true) ∨ (jwW x y p q ≠ 2 ∧ jwL x y p q = 0)) := by
  rcases three x hx0 hx with rfl | rfl | rfl <;> rcases three y hy0 hy with rfl | rfl | rfl <;> cases p <;> cases q <;> revert nx ny <;> decide

/-! ### THE WALKS -/
set_option maxHeartbeats 1000000 in
theorem best_core (a b : Int) (aA bA f0 f1 : Bool) (w : World) (ha0 : 0 ≤ a) (ha2 : a ≤ 2) (hb0 : 0 ≤ b) (hb2 : b ≤ 2) :
    Calls Try.prog 3 #[.int .u8 a, .int .u8 b, .bool aA, .bool bA, .agg #[.bool f0, .bool f1]] w fun e w' => e = .returned (.bool true) ∧ Below w.heap.size w w' := by
  obtain ⟨x0, x2⟩ := cap_bd a f0 ha0 ha2
  obtain ⟨y0, y2⟩ := cap_bd b f1 hb0 hb2
  by_cases h : worth (cap a f0) aA (cap b f1) < worth (cap b f1) bA (cap a f0)
  · obtain ⟨e1, e2⟩ := best_more _ _ aA bA x0 x2 y0 y2 h
    have g1 : (jwW (cap a f0) (cap b f1) aA bA == worth (cap b f1) bA (cap a f0)) = true := by simp [e1]
    have g2 : (jwL (cap a f0) (cap b f1) aA bA == 1) = true := by simp [e2]
    clear e1 e2 x0 x2 y0 y2
    go_enter Try.func3, Try.ntmps3
    go_wp2_with (first | (go_at_call 6; refine (cap_any _ _ _).mono ?_; rintro e w' ⟨rfl, rfl⟩) | (go_at_call 7; refine (worth_any _ _ _ _).mono ?_; rintro e w' ⟨rfl, rfl⟩) | (go_at_call 8; refine (zj_any a b aA bA f0 f1 _ ha0 ha2 hb0 hb2).mono ?_; rintro e w1 ⟨rfl, hb⟩))
    go_ret
    exact ⟨rfl, ((Below.refl _ _).alloc (Nat.le_refl _) _).trans (hb.mono (by simp))⟩
  · obtain ⟨e1, e2⟩ := best_less _ _ aA bA x0 x2 y0 y2 h
    have g1 : (jwW (cap a f0) (cap b f1) aA bA == worth (cap a f0) aA (cap b f1)) = true := by simp [e1]
    by_cases hz : cap a f0 = 0
    · by_cases hz' : cap b f1 = 0
      · have g2 : (jwL (cap a f0) (cap b f1) aA bA == 1) = true := by rw [e2]; simp [hz, hz']
        have g3 : (cap a f0 == 0) = true := by simp [hz]
        have g4 : (cap b f1 == 0) = true := by simp [hz']
        clear e1 e2 x0 x2 y0 y2 hz hz'
        go_enter Try.func3, Try.ntmps3
        go_wp2_with (first | (go_at_call 6; refine (cap_any _ _ _).mono ?_; rintro e w' ⟨rfl, rfl⟩) | (go_at_call 7; refine (worth_any _ _ _ _).mono ?_; rintro e w' ⟨rfl, rfl⟩) | (go_at_call 8; refine (zj_any a b aA bA f0 f1 _ ha0 ha2 hb0 hb2).mono ?_; rintro e w1 ⟨rfl, hb⟩))
        go_ret
        exact ⟨rfl, ((Below.refl _ _).alloc (Nat.le_refl _) _).trans (hb.mono (by simp))⟩
      · have g2 : (jwL (cap a f0) (cap b f1) aA bA == 0) = true := by simp [e2, hz']
        have g3 : (cap a f0 == 0) = true := by simp [hz]
        have g4 : (cap b f1 == 0) = false := by simp [hz']
        clear e1 e2 x0 x2 y0 y2 hz hz'
        go_enter Try.func3, Try.ntmps3
        go_wp2_with (first | (go_at_call 6; refine (cap_any _ _ _).mono ?_; rintro e w' ⟨rfl, rfl⟩) | (go_at_call 7; refine (worth_any _ _ _ _).mono ?_; rintro e w' ⟨rfl, rfl⟩) | (go_at_call 8; refine (zj_any a b aA bA f0 f1 _ ha0 ha2 hb0 hb2).mono ?_; rintro e w1 ⟨rfl, hb⟩))
        go_ret
        exact ⟨rfl, ((Below.refl _ _).alloc (Nat.le_refl _) _).trans (hb.mono (by simp))⟩
    · have g2 : (jwL (cap a f0) (cap b f1) aA bA == 0) = true := by simp [e2, hz]
      have g3 : (cap a f0 == 0) = false := by simp [hz]
      clear e1 e2 x0 x2 y0 y2 hz
      go_enter Try.func3, Try.ntmps3
      go_wp2_with (first | (go_at_call 6; refine (cap_any _ _ _).mono ?_; rintro e w' ⟨rfl, rfl⟩) | (go_at_call 7; refine (worth_any _ _ _ _).mono ?_; rintro e w' ⟨rfl, rfl⟩) | (go_at_call 8; refine (zj_any a b aA bA f0 f1 _ ha0 ha2 hb0 hb2).mono ?_; rintro e w1 ⟨rfl, hb⟩))
      go_ret
      exact ⟨rfl, ((Below.refl _ _).alloc (Nat.le_refl _) _).trans (hb.mono (by simp))⟩

set_option maxHeartbeats 1000000 in
theorem best_walk (a b : Int) (aA bA f0 f1 : Bool) (w : World) (ha0 : 0 ≤ a) (hb0 : 0 ≤ b) :
    Calls Try.prog 3 #[.int .u8 a, .int .u8 b, .bool aA, .bool bA, .agg #[.bool f0, .bool f1]] w fun e w' => e = .returned (.bool true) ∧ Below w.heap.size w w' := by
  by_cases ha2 : a ≤ 2
  · by_cases hb2 : b ≤ 2
    · exact best_core a b aA bA f0 f1 w ha0 ha2 hb0 hb2
    · go_enter Try.func3, Try.ntmps3
      go_wp2
      go_ret
      exact ⟨rfl, (Below.refl _ _).alloc (Nat.le_refl _) _⟩
  · go_enter Try.func3, Try.ntmps3
    go_wp2
    go_ret
    exact ⟨rfl, (Below.refl _ _).alloc (Nat.le_refl _) _⟩

theorem bcell {W w1 : World} (hb : Below W.heap.size W w1) : (∀ b o, b < W.heap.size → w1.cell? ⟨b, o, none⟩ = W.cell? ⟨b, o, none⟩) ∧ (∀ b o, b < W.heap.size → w1.frozen? ⟨b, o, none⟩ = W.frozen? ⟨b, o, none⟩) :=
  ⟨fun b o h => hb.cell (p := ⟨b, o, none⟩) h, fun b o h => hb.frozen (p := ⟨b, o, none⟩) h⟩

theorem below_two {w w1 w2 : World} {o o' : Obj} (hb : Below (w.alloc o).heap.size (w.alloc o) w1) (hd : Below (w1.alloc o').heap.size (w1.alloc o') w2) : Below w.heap.size w w2 := by
  have hz := hb.size
  have hz' : w.heap.size ≤ (w.alloc o).heap.size := by simp
  have a1 : Below w.heap.size w w1 := ((Below.refl _ _).alloc (Nat.le_refl _) _).trans (hb.mono hz')
  have a2 : Below w1.heap.size w1 w2 := ((Below.refl _ _).alloc (Nat.le_refl _) _).trans (hd.mono (by simp))
  exact a1.trans (a2.mono (by omega))

set_option maxHeartbeats 1000000 in
/-- the first list is empty -/
theorem swap_left (b : Int) (aA bA f0 f1 : Bool) (w : World) (hb0 : 0 ≤ b) (hb2 : b ≤ 2) :
    Calls Try.prog 4 #[.int .u8 0, .int .u8 b, .bool aA, .bool bA, .agg #[.bool f0, .bool f1]] w fun e w' => e = .returned (.bool true) ∧ Below w.heap.size w w' := by
  have g0 : (jwW (cap 0 f0) (cap b f1) aA bA != jwW (cap b f1) (cap 0 f0) bA aA) = false := by rw [jwW_swap]; simp
  have g1 : (jwW (cap 0 f0) (cap b f1) aA bA == cap b f1) = true := by rw [cap_zero, (unit_left _ _ _).1]; simp
  have g2 : (jwL (cap 0 f0) (cap b f1) aA bA == 1) = true := by rw [cap_zero, (unit_left _ _ _).2]; simp
  go_enter Try.func4, Try.ntmps4
  go_wp2_with fail
  refine (zj_any 0 b aA bA f0 f1 _ (by omega) (by omega) hb0 hb2).mono ?_
  rintro e w1 ⟨rfl, hb⟩
  obtain ⟨hc, hf⟩ := bcell hb
  have hz1 : w.heap.size < w1.heap.size := by have := hb.size; simp at this; omega
  go_wp2_with fail
  refine (zj_any b 0 bA aA f1 f0 _ hb0 hb2 (by omega) (by omega)).mono ?_
  rintro e w2 ⟨rfl, hd⟩
  obtain ⟨hc2, hf2⟩ := bcell hd
  have hz2 : w1.heap.size < w2.heap.size := by have := hd.size; simp at this; omega
  go_wp2_with (go_at_call 6; refine (cap_any _ _ _).mono ?_; rintro e w' ⟨rfl, rfl⟩)
  go_ret
  exact ⟨rfl, below_two hb hd⟩

set_option maxHeartbeats 1000000 in
/-- the second list alone is empty -/
theorem swap_right (a : Int) (aA bA f0 f1 : Bool) (w : World) (ha0 : 0 ≤ a) (ha2 : a ≤ 2) (hn : (a == 0) = false) :
    Calls Try.prog 4 #[.int .u8 a, .int .u8 0, .bool aA, .bool bA, .agg #[.bool f0, .bool f1]] w fun e w' => e = .returned (.bool true) ∧ Below w.heap.size w w' := by
  have hp : cap a f0 ≠ 0 := cap_pos a f0 (by simpa using hn)
  have g0 : (jwW (cap a f0) (cap 0 f1) aA bA != jwW (cap 0 f1) (cap a f0) bA aA) = false := by rw [jwW_swap]; simp
  have g1 : (jwW (cap a f0) (cap 0 f1) aA bA == cap a f0) = true := by rw [cap_zero, (unit_right _ _ _ hp).1]; simp
  have g2 : (jwL (cap a f0) (cap 0 f1) aA bA == 0) = true := by rw [cap_zero, (unit_right _ _ _ hp).2]; simp
  clear hp
  go_enter Try.func4, Try.ntmps4
  go_wp2_with fail
  refine (zj_any a 0 aA bA f0 f1 _ ha0 ha2 (by omega) (by omega)).mono ?_
  rintro e w1 ⟨rfl, hb⟩
  obtain ⟨hc, hf⟩ := bcell hb
  have hz1 : w.heap.size < w1.heap.size := by have := hb.size; simp at this; omega
  go_wp2_with fail
  refine (zj_any 0 a bA aA f1 f0 _ (by omega) (by omega) ha0 ha2).mono ?_
  rintro e w2 ⟨rfl, hd⟩
  obtain ⟨hc2, hf2⟩ := bcell hd
  have hz2 : w1.heap.size < w2.heap.size := by have := hd.size; simp at this; omega
  go_wp2_with (go_at_call 6; refine (cap_any _ _ _).mono ?_; rintro e w' ⟨rfl, rfl⟩)
  go_ret
  exact ⟨rfl, below_two hb hd⟩

set_option maxHeartbeats 2000000 in
/-- both lists have readings -/
theorem swap_both (a b : Int) (aA bA f0 f1 : Bool) (w : World) (ha0 : 0 ≤ a) (ha2 : a ≤ 2) (hb0 : 0 ≤ b) (hb2 : b ≤ 2) (hn : (a == 0) = false) (hm : (b == 0) = false) :
    Calls Try.prog 4 #[.int .u8 a, .int .u8 b, .bool aA, .bool bA, .agg #[.bool f0, .bool f1]] w fun e w' => e = .returned (.bool true) ∧ Below w.heap.size w w' := by
  have hp : cap a f0 ≠ 0 := cap_pos a f0 (by simpa using hn)
  have hq : cap b f1 ≠ 0 := cap_pos b f1 (by simpa using hm)
  have g0 : (jwW (cap a f0) (cap b f1) aA bA != jwW (cap b f1) (cap a f0) bA aA) = false := by rw [jwW_swap]; simp
  obtain ⟨x0, x2⟩ := cap_bd a f0 ha0 ha2
  obtain ⟨y0, y2⟩ := cap_bd b f1 hb0 hb2
  obtain ⟨n0, hor⟩ := both _ _ aA bA x0 x2 y0 y2 hp hq
  have g1 : (jwW (cap a f0) (cap b f1) aA bA == 0) = false := by simp [n0]
  clear hp hq x0 x2 y0 y2 n0
  rcases hor with ⟨e1, e2, e3, rfl⟩ | ⟨e1, e2, e3, rfl⟩ | ⟨e1, e2⟩
  · have g2 : (jwW (cap a f0) (cap b f1) true bA == 2) = true := by simp [e1]
    have g3 : (jwL (cap a f0) (cap b f1) true bA == 0) = true := by simp [e2]
    have g4 : (cap a f0 == 2) = true := by simp [e3]
    clear e1 e2 e3
    go_enter Try.func4, Try.ntmps4
    go_wp2_with fail
    refine (zj_any a b true bA f0 f1 _ ha0 ha2 hb0 hb2).mono ?_
    rintro e w1 ⟨rfl, hb⟩
    obtain ⟨hc, hf⟩ := bcell hb
    have hz1 : w.heap.size < w1.heap.size := by have := hb.size; simp at this; omega
    go_wp2_with fail
    refine (zj_any b a bA true f1 f0 _ hb0 hb2 ha0 ha2).mono ?_
    rintro e w2 ⟨rfl, hd⟩
    obtain ⟨hc2, hf2⟩ := bcell hd
    have hz2 : w1.heap.size < w2.heap.size := by have := hd.size; simp at this; omega
    go_wp2_with (go_at_call 6; refine (cap_any _ _ _).mono ?_; rintro e w' ⟨rfl, rfl⟩)
    go_ret
    exact ⟨rfl, below_two hb hd⟩
  · have g2 : (jwW (cap a f0) (cap b f1) aA true == 2) = true := by simp [e1]
    have g3 : (jwL (cap a f0) (cap b f1) aA true == 1) = true := by simp [e2]
    have g3' : (jwL (cap a f0) (cap b f1) aA true == 0) = false := by simp [e2]
    have g4 : (cap b f1 == 2) = true := by simp [e3]
    clear e1 e2 e3
    go_enter Try.func4, Try.ntmps4
    go_wp2_with fail
    refine (zj_any a b aA true f0 f1 _ ha0 ha2 hb0 hb2).mono ?_
    rintro e w1 ⟨rfl, hb⟩
    obtain ⟨hc, hf⟩ := bcell hb
    have hz1 : w.heap.size < w1.heap.size := by have := hb.size; simp at this; omega
    go_wp2_with fail
    refine (zj_any b a true aA f1 f0 _ hb0 hb2 ha0 ha2).mono ?_
    rintro e w2 ⟨rfl, hd⟩
    obtain ⟨hc2, hf2⟩ := bcell hd
    have hz2 : w1.heap.size < w2.heap.size := by have := hd.size; simp at this; omega
    go_wp2_with (go_at_call 6; refine (cap_any _ _ _).mono ?_; rintro e w' ⟨rfl, rfl⟩)
    go_ret
    exact ⟨rfl, below_two hb hd⟩
  · have g2 : (jwW (cap a f0) (cap b f1) aA bA == 2) = false := by simp [e1]
    have g3 : (jwL (cap a f0) (cap b f1) aA bA == 0) = true := by simp [e2]
    clear e1 e2
    go_enter Try.func4, Try.ntmps4
    go_wp2_with fail
    refine (zj_any a b aA bA f0 f1 _ ha0 ha2 hb0 hb2).mono ?_
    rintro e w1 ⟨rfl, hb⟩
    obtain ⟨hc, hf⟩ := bcell hb
    have hz1 : w.heap.size < w1.heap.size := by have := hb.size; simp at this; omega
    go_wp2_with fail
    refine (zj_any b a bA aA f1 f0 _ hb0 hb2 ha0 ha2).mono ?_
    rintro e w2 ⟨rfl, hd⟩
    obtain ⟨hc2, hf2⟩ := bcell hd
    have hz2 : w1.heap.size < w2.heap.size := by have := hd.size; simp at this; omega
    go_wp2_with (go_at_call 6; refine (cap_any _ _ _).mono ?_; rintro e w' ⟨rfl, rfl⟩)
    go_ret
    exact ⟨rfl, below_two hb hd⟩

set_option maxHeartbeats 1000000 in
theorem swap_walk (a b : Int) (aA bA f0 f1 : Bool) (w : World) (ha0 : 0 ≤ a) (hb0 : 0 ≤ b) :
    Calls Try.prog 4 #[.int .u8 a, .int .u8 b, .bool aA, .bool bA, .agg #[.bool f0, .bool f1]] w fun e w' => e = .returned (.bool true) ∧ Below w.heap.size w w' := by
  by_cases ha2 : a ≤ 2
  · by_cases hb2 : b ≤ 2
    · by_cases hn : a = 0
      · subst hn; exact swap_left b aA bA f0 f1 w hb0 hb2
      · by_cases hm : b = 0
        · subst hm; exact swap_right a aA bA f0 f1 w ha0 ha2 (by simpa using hn)
        · exact swap_both a b aA bA f0 f1 w ha0 ha2 hb0 hb2 (by simpa using hn) (by simpa using hm)
    · go_enter Try.func4, Try.ntmps4
      go_wp2
      go_ret
      exact ⟨rfl, (Below.refl _ _).alloc (Nat.le_refl _) _⟩
  · go_enter Try.func4, Try.ntmps4
    go_wp2
    go_ret
    exact ⟨rfl, (Below.refl _ _).alloc (Nat.le_refl _) _⟩
end Go.Proofs.Qxb6605276a
