/-
  THE PLAIN LAW: where a whole value ends at q, the answer hangs on the bytes ahead of q alone (and, for a number or a literal, on what opens behind it).
-/
import Derived.Test.Qxb6605296aSkipPlain
namespace Go.Proofs.Qxb6605296a

theorem strL_pre (n N q : Nat) (Z G : Nat → Int) (hq : q ≤ N) : ∀ f j e, j + f = n → strL n Z f j e = (true, q) → (∀ i, j ≤ i → i < q → G i = Z i) → strL N G (N - j) j e = (true, q) := by
  intro f
  induction f with
  | zero => intro j e _ h _; simp [strL] at h
  | succ f ih =>
    intro j e hj h hG
    have hb := (strL_bd n Z (f + 1) j e hj).2.2 (by rw [h])
    rw [h] at hb
    have hlt : j < q := hb.1
    obtain ⟨g, hg⟩ : ∃ g, N - j = g + 1 := ⟨N - j - 1, by omega⟩
    have hZ : G j = Z j := hG j (Nat.le_refl _) hlt
    rw [hg, strL, hZ]
    rw [strL] at h
    by_cases hc : Z j = 34 ∧ e = false
    · rw [if_pos hc] at h ⊢
      exact h
    · rw [if_neg hc] at h ⊢
      have := ih (j + 1) _ (by omega) h (fun i h1 h2 => hG i (by omega) h2)
      rwa [show N - (j + 1) = g by omega] at this

theorem skipL_bd (n : Nat) (Z : Nat → Int) : ∀ f j d st, j + f = n → (skipL n Z f j d st).1 = true → j < (skipL n Z f j d st).2 ∧ (skipL n Z f j d st).2 ≤ n := by
  intro f
  induction f with
  | zero => intro j d st _ h; cases st <;> simp [skipL] at h
  | succ f ih =>
    intro j d st hj h
    have step : ∀ d' st', (skipL n Z f (j + 1) d' st').1 = true → j < (skipL n Z f (j + 1) d' st').2 ∧ (skipL n Z f (j + 1) d' st').2 ≤ n := fun d' st' h' => by
      have := ih (j + 1) d' st' (by omega) h'
      omega
    cases st with
    | some e =>
      rw [skipL] at h ⊢
      by_cases hc : Z j = 34 ∧ e = false
      · rw [if_pos hc] at h ⊢; exact step _ _ h
      · rw [if_neg hc] at h ⊢; exact step _ _ h
    | none =>
      rw [skipL] at h ⊢
      by_cases c1 : Z j = 34
      · rw [if_pos c1] at h ⊢; exact step _ _ h
      rw [if_neg c1] at h ⊢
      by_cases c2 : Z j = 123 ∨ Z j = 91
      · rw [if_pos c2] at h ⊢; exact step _ _ h
      rw [if_neg c2] at h ⊢
      by_cases c3 : Z j = 125 ∨ Z j = 93
      · rw [if_pos c3] at h ⊢
        by_cases c4 : d - 1 = 0
        · rw [if_pos c4]; simp only; omega
        · rw [if_neg c4] at h ⊢; exact step _ _ h
      rw [if_neg c3] at h ⊢
      exact step _ _ h

theorem skipL_pre (n N q : Nat) (Z G : Nat → Int) (hq : q ≤ N) : ∀ f j d st, j + f = n → skipL n Z f j d st = (true, q) → (∀ i, j ≤ i → i < q → G i = Z i) → skipL N G (N - j) j d st = (true, q) := by
  intro f
  induction f with
  | zero => intro j d st _ h _; cases st <;> simp [skipL] at h
  | succ f ih =>
    intro j d st hj h hG
    have hb := skipL_bd n Z (f + 1) j d st hj (by rw [h])
    rw [h] at hb
    have hlt : j < q := hb.1
    obtain ⟨g, hg⟩ : ∃ g, N - j = g + 1 := ⟨N - j - 1, by omega⟩
    have hZ : G j = Z j := hG j (Nat.le_refl _) hlt
    have step : ∀ d' st', skipL n Z f (j + 1) d' st' = (true, q) → skipL N G g (j + 1) d' st' = (true, q) := fun d' st' h' => by
      have := ih (j + 1) d' st' (by omega) h' (fun i h1 h2 => hG i (by omega) h2)
      rwa [show N - (j + 1) = g by omega] at this
    rw [hg]
    cases st with
    | some e =>
      rw [skipL, hZ]
      rw [skipL] at h
      by_cases hc : Z j = 34 ∧ e = false
      · rw [if_pos hc] at h ⊢; exact step _ _ h
      · rw [if_neg hc] at h ⊢; exact step _ _ h
    | none =>
      rw [skipL, hZ]
      rw [skipL] at h
      by_cases c1 : Z j = 34
      · rw [if_pos c1] at h ⊢; exact step _ _ h
      rw [if_neg c1] at h ⊢
      by_cases c2 : Z j = 123 ∨ Z j = 91
      · rw [if_pos c2] at h ⊢; exact step _ _ h
      rw [if_neg c2] at h ⊢
      by_cases c3 : Z j = 125 ∨ Z j = 93
      · rw [if_pos c3] at h ⊢
        by_cases c4 : d - 1 = 0
        · rw [if_pos c4] at h ⊢; exact h
        · rw [if_neg c4] at h ⊢; exact step _ _ h
      rw [if_neg c3] at h ⊢
      exact step _ _ h

theorem numL_bd (Z : Nat → Int) : ∀ f j, j ≤ numL Z f j ∧ numL Z f j ≤ j + f := by
  intro f
  induction f with
  | zero => intro j; simp [numL]
  | succ f ih =>
    intro j
    rw [numL]
    split
    · omega
    · have := ih (j + 1); omega

theorem numL_pre (N q : Nat) (Z G : Nat → Int) (hq : q ≤ N) (hend : q = N ∨ (spB (G q) || dlB (G q)) = true) : ∀ f j, numL Z f j = q → (∀ i, j ≤ i → i < q → G i = Z i) → j ≤ q → numL G (N - j) j = q := by
  have at_end : numL G (N - q) q = q := by
    rcases hend with rfl | h
    · simp [numL]
    · cases hN : N - q with
      | zero => rfl
      | succ g => rw [numL, if_pos h]
  intro f
  induction f with
  | zero => intro j h _ _; simp [numL] at h; subst h; exact at_end
  | succ f ih =>
    intro j h hG hjq
    by_cases e : j = q
    · subst e; exact at_end
    · have hlt : j < q := by omega
      obtain ⟨g, hg⟩ : ∃ g, N - j = g + 1 := ⟨N - j - 1, by omega⟩
      rw [numL] at h
      by_cases hc : (spB (Z j) || dlB (Z j)) = true
      · rw [if_pos hc] at h; omega
      · rw [if_neg hc] at h
        rw [hg, numL, hG j (Nat.le_refl _) hlt, if_neg hc]
        have := ih (j + 1) h (fun i h1 h2 => hG i (by omega) h2) (by omega)
        rwa [show N - (j + 1) = g by omega] at this

theorem skipP_lt {n p q : Nat} {Z : Nat → Int} (h : skipP n Z p = (true, q)) : p < n := by
  by_cases hp : p < n
  · exact hp
  · rw [skipP, if_neg hp] at h; simp at h
theorem skipP_le {n p q : Nat} {Z : Nat → Int} (h : skipP n Z p = (true, q)) : p ≤ q ∧ q ≤ n := by
  have hp := skipP_lt h
  rw [skipP, if_pos hp] at h
  by_cases h1 : Z p = 34
  · rw [if_pos h1] at h
    have := strP_bd hp h1
    rw [h] at this
    exact ⟨by have := this.1; simp only at this; omega, this.2.2 rfl⟩
  · rw [if_neg h1] at h
    by_cases h2 : Z p = 123 ∨ Z p = 91
    · rw [if_pos h2] at h
      have := skipL_bd n Z (n - p) p 0 none (by omega) (by have := h; unfold skS at this; rw [this])
      have h' := h
      unfold skS at h'
      rw [h'] at this
      simp only at this
      omega
    · rw [if_neg h2] at h
      have := numL_bd Z (n - p) p
      simp only [Prod.mk.injEq, true_and] at h
      unfold numS at h
      omega

/-- THE LAW -/
theorem skipP_pre {n N p q : Nat} {Z G : Nat → Int} (h : skipP n Z p = (true, q)) (hpq : q ≠ p) (hq : q ≤ N) (hG : ∀ i, i < q → G i = Z i)
    (hend : (Z p = 34 ∨ Z p = 123 ∨ Z p = 91) ∨ q = N ∨ (spB (G q) || dlB (G q)) = true) : skipP N G p = (true, q) := by
  have hp := skipP_lt h
  have hle := skipP_le h
  have hlt : p < q := by omega
  have hZ : G p = Z p := hG p hlt
  rw [skipP, if_pos hp] at h
  rw [skipP, if_pos (by omega), hZ]
  by_cases h1 : Z p = 34
  · rw [if_pos h1] at h ⊢
    have e1 : strP n Z p = strL n Z (n - (p + 1)) (p + 1) false := by simp [strP, hp, h1, strW]; omega
    have e2 : strP N G p = strL N G (N - (p + 1)) (p + 1) false := by
      rw [strP, if_pos ⟨by omega, by rw [hZ]; exact h1⟩, strW, if_pos (by omega)]
    rw [e1] at h
    rw [e2]
    exact strL_pre n N q Z G hq _ _ _ (by omega) h (fun i _ h2 => hG i h2)
  · rw [if_neg h1] at h ⊢
    by_cases h2 : Z p = 123 ∨ Z p = 91
    · rw [if_pos h2] at h ⊢
      exact skipL_pre n N q Z G hq _ _ _ _ (by omega) h (fun i _ h2 => hG i h2)
    · rw [if_neg h2] at h ⊢
      simp only [Prod.mk.injEq, true_and] at h ⊢
      exact numL_pre N q Z G hq (hend.resolve_left (by omega)) _ _ h (fun i _ h2 => hG i h2) (by omega)
end Go.Proofs.Qxb6605296a
