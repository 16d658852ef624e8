/-
  'skipModel' (19) computes 'skipP'.
-/
import Derived.Test.Qxb6605296aTests
import Derived.Test.Qxb6605296aStrModel
namespace Go.Proofs.Qxb6605296a
open Go.RowKit

/-- the scanner's state: outside a string, or inside one with a run of r backslashes -/
def stOf (s : Bool) (r : Nat) : Option Bool := if s then some (odd r) else none

section
variable {n : Nat} {Z : Nat → Int} {j r : Nat} {d : Int} {X : Bool × Nat}
theorem sk_in_close (h : j < n) (hq : Z j = 34) (he : r % 2 = 0) (hr : skS n Z j d (stOf true r) = X) : skS n Z (j + 1) d (stOf false r) = X := by
  have e : odd r = false := by simp [odd]; omega
  rw [← hr]; simp only [stOf, e, if_true, Bool.false_eq_true, if_false]; exact (skS_in_close h hq).symm
theorem sk_in_other (h : j < n) (hb : Z j ≠ 92) (hq : Z j = 34 → r % 2 = 1) (hr : skS n Z j d (stOf true r) = X) : skS n Z (j + 1) d (stOf true 0) = X := by
  rw [← hr]
  simp only [stOf, if_true]
  rw [skS_in_step h (fun ⟨h1, h2⟩ => by have := hq h1; simp [odd] at h2; omega)]
  simp [hb, odd]
theorem sk_in_back (h : j < n) (hb : Z j = 92) (hr : skS n Z j d (stOf true r) = X) : skS n Z (j + 1) d (stOf true (r + 1)) = X := by
  rw [← hr]
  simp only [stOf, if_true]
  rw [skS_in_step h (fun ⟨h1, _⟩ => by omega)]
  have e : odd (r + 1) = (decide (Z j = 92) && !odd r) := by
    simp only [hb, odd, decide_true, Bool.true_and]
    rw [← decide_not, decide_eq_decide]
    omega
  rw [e]
theorem sk_quote (h : j < n) (hq : Z j = 34) (hr : skS n Z j d (stOf false r) = X) : skS n Z (j + 1) d (stOf true 0) = X := by
  rw [← hr]; simp only [stOf, if_true, Bool.false_eq_true, if_false]; rw [skS_quote h hq]; rfl
theorem sk_open (h : j < n) (hq : Z j = 123 ∨ Z j = 91) (hr : skS n Z j d (stOf false r) = X) : skS n Z (j + 1) (d + 1) (stOf false r) = X := by
  rw [← hr]; simp only [stOf, Bool.false_eq_true, if_false]; exact (skS_open h hq).symm
theorem sk_close (h : j < n) (hq : Z j = 125 ∨ Z j = 93) (hd : d - 1 ≠ 0) (hr : skS n Z j d (stOf false r) = X) : skS n Z (j + 1) (d - 1) (stOf false r) = X := by
  rw [← hr]; simp only [stOf, Bool.false_eq_true, if_false]; rw [skS_close h hq, if_neg hd]
theorem sk_last (h : j < n) (hq : Z j = 125 ∨ Z j = 93) (hd : d - 1 = 0) (hr : skS n Z j d (stOf false r) = X) : X = (true, j + 1) := by
  rw [← hr]; simp only [stOf, Bool.false_eq_true, if_false]; rw [skS_close h hq, if_pos hd]
theorem sk_other (h : j < n) (h1 : Z j ≠ 34) (h2 : Z j ≠ 123) (h3 : Z j ≠ 91) (h4 : Z j ≠ 125) (h5 : Z j ≠ 93) (hr : skS n Z j d (stOf false r) = X) : skS n Z (j + 1) d (stOf false r) = X := by
  rw [← hr]; simp only [stOf, Bool.false_eq_true, if_false]; exact (skS_other h h1 h2 h3 h4 h5).symm
theorem sk_end_odd (he : r % 2 = 1) (hr : skS n Z n d (stOf true r) = X) : X = (false, n + 1) := by
  have e : odd r = true := by simp [odd]; omega
  rw [← hr, skS_end]; simp [stOf, e]
theorem sk_end_even (he : r % 2 = 0) (hr : skS n Z n d (stOf true r) = X) : X = (false, n) := by
  have e : odd r = false := by simp [odd]; omega
  rw [← hr, skS_end]; simp [stOf, e]
theorem sk_end_out (hr : skS n Z n d (stOf false r) = X) : X = (false, n) := by
  rw [← hr, skS_end]; simp [stOf]
end

theorem ret_num {m m' : Nat} {b : Bool} (h : m = m') : Ending.returned (.tuple #[.bool b, .int .i64 (m' : Int)]) = .returned (.tuple #[.bool b, .int .i64 (m : Int)]) := by rw [h]

set_option maxHeartbeats 4000000 in
set_option maxRecDepth 100000 in
/-- a container -/
theorem model_box (b off n c p : Nat) (Z : Nat → Int) (w : World) (hn : n ≤ 1048576) (hpn : p < n) (hc : ∀ i, i < n → w.cell? ⟨b, off + i, none⟩ = some (.int .u8 (Z i))) (hq : Z p = 123 ∨ Z p = 91) :
    Calls Try.prog 19 #[.slice (some ⟨b, off, none⟩) n c, .int .i64 p] w fun e w' => e = .returned (.tuple #[.bool (skS n Z p 0 none).1, .int .i64 (skS n Z p 0 none).2]) ∧ w' = w := by
  have gp : w.cell? ⟨b, off + p, none⟩ = some (.int .u8 (Z p)) := hc p hpn
  have v0 : decide ((n : Int) ≤ (p : Int)) = false := by simp; omega
  have v1 : (Z p == 34) = false := by simp; omega
  have hor : ((Z p == 123) = true) ∨ ((Z p == 123) = false ∧ (Z p == 91) = true) := by
    rcases hq with h | h
    · exact .inl (by simp [h])
    · exact .inr ⟨by simp [h], by simp [h]⟩
  clear hq
  rcases hor with v2 | ⟨v2, v3⟩
  all_goals
    go_enter Try.func19, Try.ntmps19
    go_wp2
    clear gp
    go_loopg [7, 8, 9, 10] (n - p) (fun gk dep ins run i wr => ∃ (j r : Nat) (d : Int) (s : Bool), p ≤ j ∧ j ≤ n ∧ gk = n - j ∧ r ≤ j ∧ -(j : Int) ≤ d ∧ d ≤ j ∧ dep = .int .i64 d ∧ ins = .bool s ∧ run = .int .i64 r ∧ i = .int .i64 j ∧ skS n Z j d (stOf s r) = skS n Z p 0 none ∧ wr = w)
    case atStart => exact ⟨p, 0, 0, false, Nat.le_refl _, by omega, rfl, by omega, by omega, by omega, rfl, rfl, rfl, rfl, rfl, rfl⟩
    case round =>
      obtain ⟨j, r, d, s, hj1, hj2, rfl, hr, hd1, hd2, rfl, rfl, rfl, rfl, hrel0, rfl⟩ := hrel
      have HR : Hid (skS n Z j d (stOf s r) = skS n Z p 0 none) := hrel0
      clear hrel0
      by_cases hlt : j < n
      · have gj : wr.cell? ⟨b, off + j, none⟩ = some (.int .u8 (Z j)) := hc j hlt
        clear hc
        cases s with
        | true =>
          by_cases hq : Z j = 34
          · have u1 : (Z j == 34) = true := by simp [hq]
            have u2 : (Z j == 92) = false := by simp [hq]
            by_cases he : r % 2 = 0
            · have u3 : ((r : Int) % 2 == 0) = true := by simp; omega
              have HA : Hid (skS n Z (j + 1) d (stOf false r) = skS n Z p 0 none) := sk_in_close hlt hq he HR.out
              clear hq HR he
              go_wp2
              go_roundg (n - (j + 1))
              case measure => omega
              case rel => exact ⟨j + 1, r, d, false, by omega, by omega, rfl, by omega, by omega, by omega, rfl, rfl, rfl, by go_num, HA.out, rfl⟩
            · have u3 : ((r : Int) % 2 == 0) = false := by simp; omega
              have HA : Hid (skS n Z (j + 1) d (stOf true 0) = skS n Z p 0 none) := sk_in_other hlt (by omega) (fun _ => by omega) HR.out
              clear hq HR he
              go_wp2
              go_roundg (n - (j + 1))
              case measure => omega
              case rel => exact ⟨j + 1, 0, d, true, by omega, by omega, rfl, by omega, by omega, by omega, rfl, rfl, rfl, by go_num, HA.out, rfl⟩
          · have u1 : (Z j == 34) = false := by simp [hq]
            by_cases hb : Z j = 92
            · have u2 : (Z j == 92) = true := by simp [hb]
              have HA : Hid (skS n Z (j + 1) d (stOf true (r + 1)) = skS n Z p 0 none) := sk_in_back hlt hb HR.out
              clear hq HR hb
              go_wp2
              go_roundg (n - (j + 1))
              case measure => omega
              case rel => exact ⟨j + 1, r + 1, d, true, by omega, by omega, rfl, by omega, by omega, by omega, rfl, rfl, by go_num, by go_num, HA.out, rfl⟩
            · have u2 : (Z j == 92) = false := by simp [hb]
              have HA : Hid (skS n Z (j + 1) d (stOf true 0) = skS n Z p 0 none) := sk_in_other hlt hb (fun h => absurd h hq) HR.out
              clear hq HR hb
              go_wp2
              go_roundg (n - (j + 1))
              case measure => omega
              case rel => exact ⟨j + 1, 0, d, true, by omega, by omega, rfl, by omega, by omega, by omega, rfl, rfl, rfl, by go_num, HA.out, rfl⟩
        | false =>
          by_cases hq : Z j = 34
          · have u1 : (Z j == 34) = true := by simp [hq]
            have HA : Hid (skS n Z (j + 1) d (stOf true 0) = skS n Z p 0 none) := sk_quote hlt hq HR.out
            clear hq HR
            go_wp2
            go_roundg (n - (j + 1))
            case measure => omega
            case rel => exact ⟨j + 1, 0, d, true, by omega, by omega, rfl, by omega, by omega, by omega, rfl, rfl, rfl, by go_num, HA.out, rfl⟩
          · have u1 : (Z j == 34) = false := by simp [hq]
            by_cases h2 : Z j = 123
            · have u2 : (Z j == 123) = true := by simp [h2]
              have HA : Hid (skS n Z (j + 1) (d + 1) (stOf false r) = skS n Z p 0 none) := sk_open hlt (.inl h2) HR.out
              clear hq HR h2
              go_wp2
              go_roundg (n - (j + 1))
              case measure => omega
              case rel => exact ⟨j + 1, r, d + 1, false, by omega, by omega, rfl, by omega, by omega, by omega, by go_num, rfl, rfl, by go_num, HA.out, rfl⟩
            · have u2 : (Z j == 123) = false := by simp [h2]
              by_cases h3 : Z j = 91
              · have u3 : (Z j == 91) = true := by simp [h3]
                have HA : Hid (skS n Z (j + 1) (d + 1) (stOf false r) = skS n Z p 0 none) := sk_open hlt (.inr h3) HR.out
                clear hq HR h2 h3
                go_wp2
                go_roundg (n - (j + 1))
                case measure => omega
                case rel => exact ⟨j + 1, r, d + 1, false, by omega, by omega, rfl, by omega, by omega, by omega, by go_num, rfl, rfl, by go_num, HA.out, rfl⟩
              · have u3 : (Z j == 91) = false := by simp [h3]
                by_cases h4 : Z j = 125
                · have u4 : (Z j == 125) = true := by simp [h4]
                  by_cases hd : d - 1 = 0
                  · have u5 : (d - 1 == 0) = true := by simp [hd]
                    have HA : Hid (skS n Z p 0 none = (true, j + 1)) := sk_last hlt (.inl h4) hd HR.out
                    clear hq HR h2 h3 h4 hd
                    go_wp2
                    go_ret2
                    exact ⟨ret_pair HA.out (by omega), rfl⟩
                  · have u5 : (d - 1 == 0) = false := by simp [hd]
                    have HA : Hid (skS n Z (j + 1) (d - 1) (stOf false r) = skS n Z p 0 none) := sk_close hlt (.inl h4) hd HR.out
                    clear hq HR h2 h3 h4 hd
                    go_wp2
                    go_roundg (n - (j + 1))
                    case measure => omega
                    case rel => exact ⟨j + 1, r, d - 1, false, by omega, by omega, rfl, by omega, by omega, by omega, by go_num, rfl, rfl, by go_num, HA.out, rfl⟩
                · have u4 : (Z j == 125) = false := by simp [h4]
                  by_cases h5 : Z j = 93
                  · have u6 : (Z j == 93) = true := by simp [h5]
                    by_cases hd : d - 1 = 0
                    · have u5 : (d - 1 == 0) = true := by simp [hd]
                      have HA : Hid (skS n Z p 0 none = (true, j + 1)) := sk_last hlt (.inr h5) hd HR.out
                      clear hq HR h2 h3 h4 h5 hd
                      go_wp2
                      go_ret2
                      exact ⟨ret_pair HA.out (by omega), rfl⟩
                    · have u5 : (d - 1 == 0) = false := by simp [hd]
                      have HA : Hid (skS n Z (j + 1) (d - 1) (stOf false r) = skS n Z p 0 none) := sk_close hlt (.inr h5) hd HR.out
                      clear hq HR h2 h3 h4 h5 hd
                      go_wp2
                      go_roundg (n - (j + 1))
                      case measure => omega
                      case rel => exact ⟨j + 1, r, d - 1, false, by omega, by omega, rfl, by omega, by omega, by omega, by go_num, rfl, rfl, by go_num, HA.out, rfl⟩
                  · have u6 : (Z j == 93) = false := by simp [h5]
                    have HA : Hid (skS n Z (j + 1) d (stOf false r) = skS n Z p 0 none) := sk_other hlt hq h2 h3 h4 h5 HR.out
                    clear hq HR h2 h3 h4 h5
                    go_wp2
                    go_roundg (n - (j + 1))
                    case measure => omega
                    case rel => exact ⟨j + 1, r, d, false, by omega, by omega, rfl, by omega, by omega, by omega, rfl, rfl, rfl, by go_num, HA.out, rfl⟩
      · have hjn : j = n := by omega
        subst hjn
        clear hc
        cases s with
        | true =>
          by_cases he : r % 2 = 1
          · have u3 : ((r : Int) % 2 == 1) = true := by simp; omega
            have HA : Hid (skS j Z p 0 none = (false, j + 1)) := sk_end_odd he HR.out
            clear HR he
            go_wp2
            go_ret2
            exact ⟨ret_pair HA.out (by omega), rfl⟩
          · have u3 : ((r : Int) % 2 == 1) = false := by simp; omega
            have HA : Hid (skS j Z p 0 none = (false, j)) := sk_end_even (by omega) HR.out
            clear HR he
            go_wp2
            go_ret2
            exact ⟨ret_pair HA.out (by omega), rfl⟩
        | false =>
          have HA : Hid (skS j Z p 0 none = (false, j)) := sk_end_out HR.out
          clear HR
          go_wp2
          go_ret2
          exact ⟨ret_pair HA.out (by omega), rfl⟩

set_option maxHeartbeats 2000000 in
set_option maxRecDepth 100000 in
/-- a number or a literal -/
theorem model_num (b off n c p : Nat) (Z : Nat → Int) (w : World) (hn : n ≤ 1048576) (hpn : p < n) (hc : ∀ i, i < n → w.cell? ⟨b, off + i, none⟩ = some (.int .u8 (Z i))) (h1 : Z p ≠ 34) (h2 : Z p ≠ 123) (h3 : Z p ≠ 91) :
    Calls Try.prog 19 #[.slice (some ⟨b, off, none⟩) n c, .int .i64 p] w fun e w' => e = .returned (.tuple #[.bool true, .int .i64 (numS n Z p)]) ∧ w' = w := by
  have gp : w.cell? ⟨b, off + p, none⟩ = some (.int .u8 (Z p)) := hc p hpn
  have v0 : decide ((n : Int) ≤ (p : Int)) = false := by simp; omega
  have v0' : decide (n ≤ p) = false := by simp; omega
  have v1 : (Z p == 34) = false := by simp [h1]
  have v2 : (Z p == 123) = false := by simp [h2]
  have v3 : (Z p == 91) = false := by simp [h3]
  clear h1 h2 h3
  go_enter Try.func19, Try.ntmps19
  go_wp2
  clear gp
  go_loopg [12] (n - p) (fun gk i wr => ∃ j : Nat, p ≤ j ∧ j ≤ n ∧ gk = n - j ∧ i = .int .i64 j ∧ numS n Z j = numS n Z p ∧ wr = w)
  case atStart => exact ⟨p, Nat.le_refl _, by omega, rfl, rfl, rfl, rfl⟩
  case round =>
    obtain ⟨j, hj1, hj2, rfl, rfl, hrel0, rfl⟩ := hrel
    have HR : Hid (numS n Z j = numS n Z p) := hrel0
    clear hrel0
    by_cases hlt : j < n
    · have gj : wr.cell? ⟨b, off + j, none⟩ = some (.int .u8 (Z j)) := hc j hlt
      clear hc
      cases hs : spB (Z j) with
      | true =>
        have HA : Hid (numS n Z p = j) := HR.out.symm.trans (numS_stop hlt (by simp [hs]))
        clear HR
        go_wp2_with (first | (go_at_call 21; refine (jspace_any _ _).mono ?_; rintro e w' ⟨rfl, rfl⟩) | (go_at_call 22; refine (vend_any _ _).mono ?_; rintro e w' ⟨rfl, rfl⟩))
        go_ret2
        exact ⟨ret_num HA.out, rfl⟩
      | false =>
        cases hd : dlB (Z j) with
        | true =>
          have HA : Hid (numS n Z p = j) := HR.out.symm.trans (numS_stop hlt (by simp [hd]))
          clear HR
          go_wp2_with (first | (go_at_call 21; refine (jspace_any _ _).mono ?_; rintro e w' ⟨rfl, rfl⟩) | (go_at_call 22; refine (vend_any _ _).mono ?_; rintro e w' ⟨rfl, rfl⟩))
          go_ret2
          exact ⟨ret_num HA.out, rfl⟩
        | false =>
          have HA : Hid (numS n Z (j + 1) = numS n Z p) := (numS_step hlt (by simp [hs, hd])).symm.trans HR.out
          clear HR
          go_wp2_with (first | (go_at_call 21; refine (jspace_any _ _).mono ?_; rintro e w' ⟨rfl, rfl⟩) | (go_at_call 22; refine (vend_any _ _).mono ?_; rintro e w' ⟨rfl, rfl⟩))
          go_roundg (n - (j + 1))
          case measure => omega
          case rel => exact ⟨j + 1, by omega, by omega, rfl, by go_num, HA.out, rfl⟩
    · have hjn : j = n := by omega
      subst hjn
      have HA : Hid (numS j Z p = j) := HR.out.symm.trans numS_end
      clear HR hc
      go_wp2_with fail
      go_ret2
      exact ⟨ret_num HA.out, rfl⟩

set_option maxHeartbeats 1000000 in
theorem skipModel_any (a : Option Addr) (n c p : Nat) (Z : Nat → Int) (w : World) (hn : n ≤ 1048576) (hp : p ≤ 9223372036854775807) (hB : Bts w a n Z) :
    Calls Try.prog 19 #[.slice a n c, .int .i64 p] w fun e w' => e = .returned (.tuple #[.bool (skipP n Z p).1, .int .i64 (skipP n Z p).2]) ∧ w' = w := by
  by_cases hpn : p < n
  · have hB' := hB
    rcases hB with h0 | ⟨b, off, rfl, hbl, hc⟩
    · omega
    by_cases h1 : Z p = 34
    · have E : skipP n Z p = strP n Z p := by simp [skipP, hpn, h1]
      rw [E]
      have gp : w.cell? ⟨b, off + p, none⟩ = some (.int .u8 34) := by rw [← h1]; exact hc p hpn
      have v0 : decide ((n : Int) ≤ (p : Int)) = false := by simp; omega
      clear E h1 hc
      go_enter Try.func19, Try.ntmps19
      go_wp2_with fail
      refine (strModel_any _ n c p Z w hn hp hB').mono ?_
      rintro e w' ⟨rfl, rfl⟩
      go_wp2
      go_ret2
      exact ⟨rfl, rfl⟩
    · by_cases h2 : Z p = 123 ∨ Z p = 91
      · have E : skipP n Z p = skS n Z p 0 none := by simp [skipP, hpn, h1, h2]
        rw [E]
        exact model_box b off n c p Z w hn hpn hc h2
      · have E : skipP n Z p = (true, numS n Z p) := by simp [skipP, hpn, h1, h2]
        rw [E]
        exact model_num b off n c p Z w hn hpn hc h1 (by omega) (by omega)
  · have E : skipP n Z p = (false, p) := by simp [skipP, hpn]
    rw [E]
    have v0 : decide ((n : Int) ≤ (p : Int)) = true := by simp; omega
    clear E
    go_enter Try.func19, Try.ntmps19
    go_wp2
    go_ret2
    exact ⟨rfl, rfl⟩
end Go.Proofs.Qxb6605296a
