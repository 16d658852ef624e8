/-
  THE PLAIN LAW OF 'str': no Go in sight. 'strL': from place j on, 'esc': the byte at j is escaped; 'f': the bytes that are left.
-/
namespace Go.Proofs.Qxb6605296a

def strL (n : Nat) (Z : Nat → Int) : Nat → Nat → Bool → Bool × Nat
  | 0, _, esc => (false, if esc then n + 1 else n)
  | f + 1, j, esc => if Z j = 34 ∧ esc = false then (true, j + 1) else strL n Z f (j + 1) (decide (Z j = 92) && !esc)

/-- what a reader of a string at place j comes to, none pending -/
def strW (n : Nat) (Z : Nat → Int) (j : Nat) : Bool × Nat := if j ≤ n then strL n Z (n - j) j false else (false, j)

/-- THE ANSWER OF 'str' at place p -/
def strP (n : Nat) (Z : Nat → Int) (p : Nat) : Bool × Nat := if p < n ∧ Z p = 34 then strW n Z (p + 1) else (false, p)

theorem strW_end (n : Nat) (Z : Nat → Int) (j : Nat) (h : n ≤ j) (h1 : j ≤ n + 1) : strW n Z j = (false, j) := by
  unfold strW
  by_cases e : j ≤ n
  · obtain rfl : j = n := by omega
    simp [strL]
  · rw [if_neg e]
theorem strW_quote (n : Nat) (Z : Nat → Int) (j : Nat) (h : j < n) (hq : Z j = 34) : strW n Z j = (true, j + 1) := by
  unfold strW
  rw [if_pos (by omega)]
  obtain ⟨f, hf⟩ : ∃ f, n - j = f + 1 := ⟨n - j - 1, by omega⟩
  rw [hf]
  simp [strL, hq]
theorem strW_plain (n : Nat) (Z : Nat → Int) (j : Nat) (h : j < n) (hq : Z j ≠ 34) (hb : Z j ≠ 92) : strW n Z j = strW n Z (j + 1) := by
  unfold strW
  rw [if_pos (by omega), if_pos (by omega)]
  obtain ⟨f, hf⟩ : ∃ f, n - j = f + 1 := ⟨n - j - 1, by omega⟩
  rw [hf, show n - (j + 1) = f by omega]
  simp [strL, hq, hb]
theorem strW_back (n : Nat) (Z : Nat → Int) (j : Nat) (h : j < n) (hb : Z j = 92) : strW n Z j = strW n Z (j + 2) := by
  unfold strW
  rw [if_pos (by omega)]
  obtain ⟨f, hf⟩ : ∃ f, n - j = f + 1 := ⟨n - j - 1, by omega⟩
  rw [hf]
  have h1 : strL n Z (f + 1) j false = strL n Z f (j + 1) true := by simp [strL, hb]
  rw [h1]
  by_cases e : j + 2 ≤ n
  · rw [if_pos e]
    obtain ⟨g, hg⟩ : ∃ g, f = g + 1 := ⟨f - 1, by omega⟩
    rw [hg, show n - (j + 2) = g by omega]
    simp [strL]
  · rw [if_neg e]
    obtain rfl : f = 0 := by omega
    simp [strL]
    omega

/-- how far the answer can lie -/
theorem strL_bd (n : Nat) (Z : Nat → Int) : ∀ f j esc, j + f = n → j ≤ (strL n Z f j esc).2 ∧ (strL n Z f j esc).2 ≤ n + 1 ∧ ((strL n Z f j esc).1 = true → j < (strL n Z f j esc).2 ∧ (strL n Z f j esc).2 ≤ n) := by
  intro f
  induction f with
  | zero => intro j esc h; cases esc <;> simp [strL] <;> omega
  | succ f ih =>
    intro j esc h
    unfold strL
    split
    · simp; omega
    · have := ih (j + 1) (decide (Z j = 92) && !esc) (by omega)
      refine ⟨by omega, this.2.1, fun h => ?_⟩
      have := this.2.2 h
      omega
theorem strW_bd (n : Nat) (Z : Nat → Int) (j : Nat) (h : j ≤ n + 1) : j ≤ (strW n Z j).2 ∧ (strW n Z j).2 ≤ n + 1 ∧ ((strW n Z j).1 = true → j < (strW n Z j).2 ∧ (strW n Z j).2 ≤ n) := by
  unfold strW
  by_cases e : j ≤ n
  · rw [if_pos e]; exact strL_bd n Z _ _ _ (by omega)
  · rw [if_neg e]; simp; omega
end Go.Proofs.Qxb6605296a
