/-
  'strModel' (13) computes 'strP'.
-/
import Derived.Test.Qxb6605296aClone
import Derived.Test.Qxb6605296aStrPlain
import Derived.Deep.QuietTactic
import Derived.BigQuiet
namespace Go.Proofs.Qxb6605296a
open Go.RowKit

def strS (n : Nat) (Z : Nat → Int) (j : Nat) (e : Bool) : Bool × Nat := strL n Z (n - j) j e
theorem strS_quote {n : Nat} {Z : Nat → Int} {j : Nat} (h : j < n) (hq : Z j = 34) : strS n Z j false = (true, j + 1) := by
  obtain ⟨f, hf⟩ : ∃ f, n - j = f + 1 := ⟨n - j - 1, by omega⟩
  simp [strS, hf, strL, hq]
theorem strS_step {n : Nat} {Z : Nat → Int} {j : Nat} {e : Bool} (h : j < n) (hq : ¬ (Z j = 34 ∧ e = false)) : strS n Z j e = strS n Z (j + 1) (decide (Z j = 92) && !e) := by
  obtain ⟨f, hf⟩ : ∃ f, n - j = f + 1 := ⟨n - j - 1, by omega⟩
  unfold strS
  rw [hf, show n - (j + 1) = f by omega, strL, if_neg hq]
theorem strS_end {n : Nat} {Z : Nat → Int} {e : Bool} : strS n Z n e = (false, if e then n + 1 else n) := by
  simp [strS, strL]
theorem strW_S {n : Nat} {Z : Nat → Int} {j : Nat} (h : j ≤ n) : strW n Z j = strS n Z j false := by simp [strW, strS, h]

def odd (r : Nat) : Bool := decide (r % 2 = 1)

theorem ret_pair {X : Bool × Nat} {b : Bool} {m : Nat} {x : Int} (h : X = (b, m)) (hx : x = m) : Ending.returned (.tuple #[.bool b, .int .i64 x]) = .returned (.tuple #[.bool X.1, .int .i64 X.2]) := by rw [h, hx]
theorem fin_quote {n : Nat} {Z : Nat → Int} {j r : Nat} {X : Bool × Nat} (h : j < n) (hq : Z j = 34) (he : r % 2 = 0) (hr : strS n Z j (odd r) = X) : X = (true, j + 1) := by
  have e : odd r = false := by simp [odd]; omega
  rw [← hr, e, strS_quote h hq]
theorem step_other {n : Nat} {Z : Nat → Int} {j r : Nat} {X : Bool × Nat} (h : j < n) (hb : Z j ≠ 92) (hq : Z j = 34 → r % 2 = 1) (hr : strS n Z j (odd r) = X) : strS n Z (j + 1) (odd 0) = X := by
  rw [← hr, strS_step (e := odd r) h (fun ⟨h1, h2⟩ => by have := hq h1; simp [odd] at h2; omega)]
  simp [hb, odd]
theorem step_back {n : Nat} {Z : Nat → Int} {j r : Nat} {X : Bool × Nat} (h : j < n) (hb : Z j = 92) (hr : strS n Z j (odd r) = X) : strS n Z (j + 1) (odd (r + 1)) = X := by
  rw [← hr, strS_step (e := odd r) h (fun ⟨h1, _⟩ => by omega)]
  have e : odd (r + 1) = (decide (Z j = 92) && !odd r) := by
    simp only [hb, odd, decide_true, Bool.true_and]
    rw [← decide_not, decide_eq_decide]
    omega
  rw [e]
theorem fin_odd {n : Nat} {Z : Nat → Int} {r : Nat} {X : Bool × Nat} (he : r % 2 = 1) (hr : strS n Z n (odd r) = X) : X = (false, n + 1) := by
  have e : odd r = true := by simp [odd]; omega
  rw [← hr, e, strS_end]; simp
theorem fin_even {n : Nat} {Z : Nat → Int} {r : Nat} {X : Bool × Nat} (he : r % 2 = 0) (hr : strS n Z n (odd r) = X) : X = (false, n) := by
  have e : odd r = false := by simp [odd]; omega
  rw [← hr, e, strS_end]; simp

set_option maxHeartbeats 1000000 in
theorem strModel_any (a : Option Addr) (n c p : Nat) (Z : Nat → Int) (w : World) (hn : n ≤ 1048576) (hp : p ≤ 9223372036854775807) (hB : Bts w a n Z) :
    Calls Try.prog 13 #[.slice a n c, .int .i64 p] w fun e w' => e = .returned (.tuple #[.bool (strP n Z p).1, .int .i64 (strP n Z p).2]) ∧ w' = w := by
  by_cases hpn : p < n
  · rcases hB with h0 | ⟨b, off, rfl, hbl, hc⟩
    · omega
    have gp : w.cell? ⟨b, off + p, none⟩ = some (.int .u8 (Z p)) := hc p hpn
    by_cases hq : Z p = 34
    · have u1 : (Z p != 34) = false := by simp [hq]
      have E : strP n Z p = strW n Z (p + 1) := by simp [strP, hpn, hq]
      rw [E, strW_S (by omega)]
      clear E hq
      go_enter Try.func13, Try.ntmps13
      go_wp2
      go_loopg [6, 7] (n - (p + 1)) (fun gk run i wr => ∃ j r : Nat, p + 1 ≤ j ∧ j ≤ n ∧ gk = n - j ∧ r ≤ j ∧ run = .int .i64 r ∧ i = .int .i64 j ∧ strS n Z j (odd r) = strS n Z (p + 1) false ∧ wr = w)
      case atStart => exact ⟨p + 1, 0, Nat.le_refl _, by omega, rfl, by omega, rfl, by go_num, rfl, rfl⟩
      case round =>
        obtain ⟨j, r, hj1, hj2, rfl, hr, rfl, rfl, hrel0, rfl⟩ := hrel
        have HR : Hid (strS n Z j (odd r) = strS n Z (p + 1) false) := hrel0
        clear hrel0
        by_cases hlt : j < n
        · have gj : wr.cell? ⟨b, off + j, none⟩ = some (.int .u8 (Z j)) := hc j hlt
          by_cases hq : Z j = 34
          · have u2 : (Z j == 34) = true := by simp [hq]
            have u4 : (Z j == 92) = false := by simp [hq]
            by_cases he : r % 2 = 0
            · have u3 : ((r : Int) % 2 == 0) = true := by simp; omega
              have HA : Hid (strS n Z (p + 1) false = (true, j + 1)) := fin_quote hlt hq he HR.out
              clear hc hq HR he
              go_wp2
              go_ret2
              exact ⟨ret_pair HA.out (by omega), rfl⟩
            · have u3 : ((r : Int) % 2 == 0) = false := by simp; omega
              have HA : Hid (strS n Z (j + 1) (odd 0) = strS n Z (p + 1) false) := step_other hlt (by omega) (fun h => by omega) HR.out
              clear hc hq HR he
              go_wp2
              go_roundg (n - (j + 1))
              case measure => omega
              case rel => exact ⟨j + 1, 0, by omega, by omega, rfl, by omega, rfl, by go_num, HA.out, rfl⟩
          · have u2 : (Z j == 34) = false := by simp [hq]
            by_cases hb : Z j = 92
            · have u4 : (Z j == 92) = true := by simp [hb]
              have HA : Hid (strS n Z (j + 1) (odd (r + 1)) = strS n Z (p + 1) false) := step_back hlt hb HR.out
              clear hc hq HR hb
              go_wp2
              go_roundg (n - (j + 1))
              case measure => omega
              case rel => exact ⟨j + 1, r + 1, by omega, by omega, rfl, by omega, by go_num, by go_num, HA.out, rfl⟩
            · have u4 : (Z j == 92) = false := by simp [hb]
              have HA : Hid (strS n Z (j + 1) (odd 0) = strS n Z (p + 1) false) := step_other hlt hb (fun h => absurd h hq) HR.out
              clear hc hq HR hb
              go_wp2
              go_roundg (n - (j + 1))
              case measure => omega
              case rel => exact ⟨j + 1, 0, by omega, by omega, rfl, by omega, rfl, by go_num, HA.out, rfl⟩
        · have hjn : j = n := by omega
          subst hjn
          by_cases he : r % 2 = 1
          · have u3 : ((r : Int) % 2 == 1) = true := by simp; omega
            have HA : Hid (strS j Z (p + 1) false = (false, j + 1)) := fin_odd he HR.out
            clear hc HR he
            go_wp2
            go_ret2
            exact ⟨ret_pair HA.out (by omega), rfl⟩
          · have u3 : ((r : Int) % 2 == 1) = false := by simp; omega
            have HA : Hid (strS j Z (p + 1) false = (false, j)) := fin_even (by omega) HR.out
            clear hc HR he
            go_wp2
            go_ret2
            exact ⟨ret_pair HA.out (by omega), rfl⟩
    · have u1 : (Z p != 34) = true := by simp [hq]
      have E : strP n Z p = (false, p) := by simp [strP, hq]
      rw [E]
      clear E hq
      go_enter Try.func13, Try.ntmps13
      go_wp2
      go_ret2
      exact ⟨rfl, rfl⟩
  · have E : strP n Z p = (false, p) := by simp [strP, hpn]
    rw [E]
    clear E
    go_enter Try.func13, Try.ntmps13
    go_wp2
    go_ret2
    exact ⟨rfl, rfl⟩
end Go.Proofs.Qxb6605296a
