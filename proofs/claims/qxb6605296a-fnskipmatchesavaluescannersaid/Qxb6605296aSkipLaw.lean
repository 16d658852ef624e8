/-
  THE WALK OF 'FnSkipMatchesAValueScanner' (6).
-/
import Derived.Test.Qxb6605296aArg
import Derived.Test.Qxb6605296aSkipModel
import Derived.Test.Qxb6605296aSkipWalk
namespace Go.Proofs.Qxb6605296a
open Go.RowKit

set_option maxHeartbeats 1000000 in
theorem zb18 (a : Option Addr) (n c : Nat) (p : Int) (w : World) (hn : n ≤ 1048576) :
    Calls Try.prog 18 #[.slice a n c, .int .i64 p] w fun e w' => e = .returned (.bool true) ∧ w' = w := by
  have d1 : decide ((1048576 : Int) < n) = false := by simp; omega
  go_enter Try.func18, Try.ntmps18
  go_wp2
  go_ret
  exact ⟨rfl, rfl⟩

set_option maxHeartbeats 1000000 in
theorem zb18_no (a : Option Addr) (n c : Nat) (p : Int) (w : World) (hn : 1048576 < n) :
    Calls Try.prog 18 #[.slice a n c, .int .i64 p] w fun e w' => e = .returned (.bool false) ∧ w' = w := by
  have d1 : decide ((1048576 : Int) < n) = true := by simp; omega
  go_enter Try.func18, Try.ntmps18
  go_wp2
  go_ret
  exact ⟨rfl, rfl⟩

set_option maxHeartbeats 1000000 in
theorem skip_law (a : Option Addr) (n c : Nat) (x : Int) (Z : Nat → Int) (w : World) (hx : x ≤ 9223372036854775807) (ha : a = none → n = 0) (hB : Bts w a n Z) :
    Calls Try.prog 6 #[.slice a n c, .int .i64 x] w fun e w' => e = .returned (.bool true) ∧ Below w.heap.size w w' := by
  by_cases hn : n ≤ 1048576
  · have d1 : decide ((1048576 : Int) < n) = false := by simp; omega
    by_cases h0 : x < 0
    · go_enter Try.func6, Try.ntmps6
      go_wp2_with (go_at_call 18; refine (zb18 _ _ _ _ _ hn).mono ?_; rintro e w' ⟨rfl, rfl⟩)
      go_ret
      exact ⟨rfl, Below.refl _ _⟩
    · obtain ⟨p, rfl⟩ := Int.eq_ofNat_of_zero_le (show 0 ≤ x by omega)
      go_enter Try.func6, Try.ntmps6
      go_wp2_with fail
      refine (zb18 _ _ _ _ _ hn).mono ?_
      rintro e w' ⟨rfl, rfl⟩
      go_wp2_with fail
      refine (clone_bts a n c Z _ hn ha hB).mono ?_
      rintro e w1 ⟨a1, rfl, hb1, hB1⟩
      clear hB ha
      go_wp2_with fail
      refine (skipModel_any a1 n n p Z _ hn (by omega) hB1).mono ?_
      rintro e w2 ⟨rfl, rfl⟩
      go_wp2_with fail
      refine (zskip_any a1 n n p Z _ hn hB1).mono ?_
      rintro e w3 ⟨rfl, hb3⟩
      go_wp2
      go_ret
      exact ⟨by simp, hb1.trans (hb3.mono hb1.size)⟩
  · have hn' : 1048576 < n := by omega
    go_enter Try.func6, Try.ntmps6
    go_wp2_with (go_at_call 18; refine (zb18_no _ _ _ _ _ hn').mono ?_; rintro e w' ⟨rfl, rfl⟩)
    go_ret
    exact ⟨rfl, Below.refl _ _⟩
end Go.Proofs.Qxb6605296a
