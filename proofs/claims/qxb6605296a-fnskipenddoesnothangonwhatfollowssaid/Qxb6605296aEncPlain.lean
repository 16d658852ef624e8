/-
  THE PLAIN LAW OF AN ENCODED STRING: no Go in sight. 'passes l e': the state behind the bytes l, read inside a string from state e (a pending escape); none where a quote closes the string.
-/
import Derived.Test.Qxb6605296aSkipPlain
namespace Go.Proofs.Qxb6605296a

def passes : List Int → Bool → Option Bool
  | [], e => some e
  | z :: l, e => if z = 34 ∧ e = false then none else passes l (decide (z = 92) && !e)

theorem passes_app (l l' : List Int) : ∀ e e', passes l e = some e' → passes (l ++ l') e = passes l' e' := by
  induction l with
  | nil => intro e e' h; simp [passes] at h; subst h; rfl
  | cons z l ih =>
    intro e e' h
    by_cases hz : z = 34 ∧ e = false
    · simp [passes, hz] at h
    · rw [passes, if_neg hz] at h
      rw [List.cons_append, passes, if_neg hz]
      exact ih _ _ h

theorem passes_strL (n : Nat) (Z : Nat → Int) (l : List Int) : ∀ (j : Nat) (e e' : Bool), passes l e = some e' → j + l.length ≤ n → (∀ i (h : i < l.length), Z (j + i) = l[i]) →
    strL n Z (n - j) j e = strL n Z (n - (j + l.length)) (j + l.length) e' := by
  induction l with
  | nil => intro j e e' h _ _; simp [passes] at h; subst h; rfl
  | cons z l ih =>
    intro j e e' h hl hZ
    have hz0 : Z j = z := by have := hZ 0 (by simp); simpa using this
    by_cases hz : z = 34 ∧ e = false
    · simp [passes, hz] at h
    · rw [passes, if_neg hz] at h
      simp only [List.length_cons] at hl
      obtain ⟨f, hf⟩ : ∃ f, n - j = f + 1 := ⟨n - j - 1, by omega⟩
      rw [hf, strL, hz0, if_neg hz]
      have := ih (j + 1) _ _ h (by omega) (fun i hi => by
        have := hZ (i + 1) (by simp; omega)
        rw [show j + 1 + i = j + (i + 1) by omega, this]; simp)
      rw [show n - (j + 1) = f by omega] at this
      rw [this]
      simp only [List.length_cons]
      rw [show j + 1 + l.length = j + (l.length + 1) by omega]

/-- a string literal: a quote, a body that no quote closes, a quote: 'str' stands behind it -/
theorem strP_lit (n : Nat) (Z : Nat → Int) (body : List Int) (hp : passes body false = some false) (hn : body.length + 2 ≤ n) (h0 : Z 0 = 34) (hZ : ∀ i (h : i < body.length), Z (1 + i) = body[i]) (hq : Z (1 + body.length) = 34) :
    strP n Z 0 = (true, body.length + 2) := by
  have e : strP n Z 0 = strL n Z (n - 1) 1 false := by
    simp only [strP, h0, and_true]
    rw [if_pos (by omega)]
    simp only [strW]
    rw [if_pos (by omega)]
  rw [e, passes_strL n Z body 1 false false hp (by omega) hZ]
  obtain ⟨f, hf⟩ : ∃ f, n - (1 + body.length) = f + 1 := ⟨n - (1 + body.length) - 1, by omega⟩
  rw [hf, strL, hq, if_pos ⟨rfl, rfl⟩]
  simp only [Prod.mk.injEq, true_and]
  omega
theorem skipP_lit (n : Nat) (Z : Nat → Int) (body : List Int) (hp : passes body false = some false) (hn : body.length + 2 ≤ n) (h0 : Z 0 = 34) (hZ : ∀ i (h : i < body.length), Z (1 + i) = body[i]) (hq : Z (1 + body.length) = 34) :
    skipP n Z 0 = (true, body.length + 2) := by
  have e : skipP n Z 0 = strP n Z 0 := by
    simp only [skipP, h0]
    rw [if_pos (by omega)]
    simp
  rw [e]; exact strP_lit n Z body hp hn h0 hZ hq

/-- the chunks that the encoder lays -/
theorem passes_quote : passes [92, 34] false = some false := by decide
theorem passes_back : passes [92, 92] false = some false := by decide
theorem passes_hex (h k : Int) (h1 : h ≠ 34) (h2 : h ≠ 92) (k1 : k ≠ 34) (k2 : k ≠ 92) : passes [92, 117, 48, 48, h, k] false = some false := by simp [passes, h1, h2, k1, k2]
theorem passes_plain (z : Int) (h1 : z ≠ 34) (h2 : z ≠ 92) : passes [z] false = some false := by simp [passes, h1, h2]
theorem passes_more {l l' : List Int} (h : passes l false = some false) (h' : passes l' false = some false) : passes (l ++ l') false = some false := (passes_app l l' _ _ h).trans h'
end Go.Proofs.Qxb6605296a
