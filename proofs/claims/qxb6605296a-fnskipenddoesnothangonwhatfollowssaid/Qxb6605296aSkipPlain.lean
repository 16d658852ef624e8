/-
  THE PLAIN LAW OF 'skip': no Go in sight. 'skS n Z j d st': the scan of a container from place j on, 'd' delimiters open, 'st': outside a string (none) or inside one (some esc).
-/
import Derived.Test.Qxb6605296aStrPlain
namespace Go.Proofs.Qxb6605296a

def skipL (n : Nat) (Z : Nat → Int) : Nat → Nat → Int → Option Bool → Bool × Nat
  | 0, _, _, st => (false, if st = some true then n + 1 else n)
  | f + 1, j, d, some e => if Z j = 34 ∧ e = false then skipL n Z f (j + 1) d none else skipL n Z f (j + 1) d (some (decide (Z j = 92) && !e))
  | f + 1, j, d, none =>
    if Z j = 34 then skipL n Z f (j + 1) d (some false)
    else if Z j = 123 ∨ Z j = 91 then skipL n Z f (j + 1) (d + 1) none
    else if Z j = 125 ∨ Z j = 93 then (if d - 1 = 0 then (true, j + 1) else skipL n Z f (j + 1) (d - 1) none)
    else skipL n Z f (j + 1) d none

def skS (n : Nat) (Z : Nat → Int) (j : Nat) (d : Int) (st : Option Bool) : Bool × Nat := skipL n Z (n - j) j d st

def spB (z : Int) : Bool := z == 32 || z == 9 || z == 10 || z == 13
def dlB (z : Int) : Bool := z == 44 || z == 125 || z == 93

def numL (Z : Nat → Int) : Nat → Nat → Nat
  | 0, j => j
  | f + 1, j => if spB (Z j) || dlB (Z j) then j else numL Z f (j + 1)
def numS (n : Nat) (Z : Nat → Int) (j : Nat) : Nat := numL Z (n - j) j

/-- THE ANSWER OF 'skip' at place p -/
def skipP (n : Nat) (Z : Nat → Int) (p : Nat) : Bool × Nat :=
  if p < n then (if Z p = 34 then strP n Z p else if Z p = 123 ∨ Z p = 91 then skS n Z p 0 none else (true, numS n Z p)) else (false, p)

section
variable {n : Nat} {Z : Nat → Int} {j : Nat} {d : Int}
theorem fuel (h : j < n) : ∃ f, n - j = f + 1 ∧ n - (j + 1) = f := ⟨n - j - 1, by omega, by omega⟩
theorem skS_end {st : Option Bool} : skS n Z n d st = (false, if st = some true then n + 1 else n) := by
  unfold skS; rw [Nat.sub_self]; cases st <;> simp [skipL]
theorem skS_in_close (h : j < n) (hq : Z j = 34) : skS n Z j d (some false) = skS n Z (j + 1) d none := by
  obtain ⟨f, h1, h2⟩ := fuel h; unfold skS; rw [h1, h2]; simp [skipL, hq]
theorem skS_in_step {e : Bool} (h : j < n) (hq : ¬ (Z j = 34 ∧ e = false)) : skS n Z j d (some e) = skS n Z (j + 1) d (some (decide (Z j = 92) && !e)) := by
  obtain ⟨f, h1, h2⟩ := fuel h; unfold skS; rw [h1, h2, skipL, if_neg hq]
theorem skS_quote (h : j < n) (hq : Z j = 34) : skS n Z j d none = skS n Z (j + 1) d (some false) := by
  obtain ⟨f, h1, h2⟩ := fuel h; unfold skS; rw [h1, h2]; simp [skipL, hq]
theorem skS_open (h : j < n) (hq : Z j = 123 ∨ Z j = 91) : skS n Z j d none = skS n Z (j + 1) (d + 1) none := by
  obtain ⟨f, h1, h2⟩ := fuel h; unfold skS; rw [h1, h2, skipL, if_neg (by omega), if_pos hq]
theorem skS_close (h : j < n) (hq : Z j = 125 ∨ Z j = 93) : skS n Z j d none = if d - 1 = 0 then (true, j + 1) else skS n Z (j + 1) (d - 1) none := by
  obtain ⟨f, h1, h2⟩ := fuel h; unfold skS; rw [h1, h2, skipL, if_neg (by omega), if_neg (by omega), if_pos hq]
theorem skS_other (h : j < n) (h1 : Z j ≠ 34) (h2 : Z j ≠ 123) (h3 : Z j ≠ 91) (h4 : Z j ≠ 125) (h5 : Z j ≠ 93) : skS n Z j d none = skS n Z (j + 1) d none := by
  obtain ⟨f, e1, e2⟩ := fuel h; unfold skS; rw [e1, e2, skipL, if_neg h1, if_neg (by omega), if_neg (by omega)]
theorem numS_end : numS n Z n = n := by unfold numS; rw [Nat.sub_self]; rfl
theorem numS_stop (h : j < n) (hs : (spB (Z j) || dlB (Z j)) = true) : numS n Z j = j := by
  obtain ⟨f, h1, h2⟩ := fuel h; unfold numS; rw [h1]; simp [numL, hs]
theorem numS_step (h : j < n) (hs : (spB (Z j) || dlB (Z j)) = false) : numS n Z j = numS n Z (j + 1) := by
  obtain ⟨f, h1, h2⟩ := fuel h; unfold numS; rw [h1, h2]; simp [numL, hs]
end

/-- a string inside a container: what 'str' says decides -/
theorem str_link (n : Nat) (Z : Nat → Int) (d : Int) : ∀ f j e, j + f = n → skipL n Z f j d (some e) = if (strL n Z f j e).1 = true then skS n Z (strL n Z f j e).2 d none else (false, (strL n Z f j e).2) := by
  intro f
  induction f with
  | zero => intro j e _; cases e <;> simp [skipL, strL]
  | succ f ih =>
    intro j e h
    by_cases hq : Z j = 34 ∧ e = false
    · rw [skipL, strL, if_pos hq, if_pos hq]
      simp only [if_true]
      unfold skS
      rw [show n - (j + 1) = f by omega]
    · rw [skipL, strL, if_neg hq, if_neg hq]
      exact ih (j + 1) _ (by omega)

theorem skS_str {n : Nat} {Z : Nat → Int} {j : Nat} {d : Int} (h : j < n) (hq : Z j = 34) :
    skS n Z j d none = if (strP n Z j).1 = true then skS n Z (strP n Z j).2 d none else (false, (strP n Z j).2) := by
  rw [skS_quote h hq]
  have e : strP n Z j = strL n Z (n - (j + 1)) (j + 1) false := by simp [strP, h, hq, strW]; omega
  rw [e]
  exact str_link n Z d _ _ _ (by omega)

theorem strP_bd {n : Nat} {Z : Nat → Int} {j : Nat} (h : j < n) (hq : Z j = 34) : j < (strP n Z j).2 ∧ (strP n Z j).2 ≤ n + 1 ∧ ((strP n Z j).1 = true → (strP n Z j).2 ≤ n) := by
  have e : strP n Z j = strW n Z (j + 1) := by simp [strP, h, hq]
  rw [e]
  have := strW_bd n Z (j + 1) (by omega)
  exact ⟨by omega, this.2.1, fun h => (this.2.2 h).2⟩
end Go.Proofs.Qxb6605296a
