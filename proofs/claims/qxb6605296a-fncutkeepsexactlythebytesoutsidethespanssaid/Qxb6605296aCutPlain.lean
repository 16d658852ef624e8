/-
  THE PLAIN LAW OF 'cut': no Go in sight. The spans are a flat row of numbers S: span i goes from 'S (i * 2)' up to 'S (i * 2 + 1)'.
-/
namespace Go.Proofs.Qxb6605296a

/-- where span i's reading begins: behind the span before it -/
def atI (S : Nat → Int) : Nat → Int
  | 0 => 0
  | i + 1 => S (i * 2 + 1)

theorem atI_succ (S : Nat → Int) (i : Nat) : atI S (i + 1) = S (i * 2 + 1) := rfl

/-- the first N spans are in order, do not overlap and lie within n -/
def InOrder (S : Nat → Int) (n N : Nat) : Prop := ∀ i, i < N → atI S i ≤ S (i * 2) ∧ S (i * 2) ≤ S (i * 2 + 1) ∧ S (i * 2 + 1) ≤ n

/-- index j lies in one of the first N spans -/
def inC (S : Nat → Int) (N : Nat) (j : Nat) : Bool := (List.range N).any fun i => decide (S (i * 2) ≤ (j : Int)) && decide ((j : Int) < S (i * 2 + 1))

theorem inC_iff {S : Nat → Int} {N j : Nat} : inC S N j = true ↔ ∃ i, i < N ∧ S (i * 2) ≤ (j : Int) ∧ (j : Int) < S (i * 2 + 1) := by
  simp [inC, List.any_eq_true]

/-- the indices below m that lie in no span -/
def kept (S : Nat → Int) (N m : Nat) : List Nat := (List.range m).filter fun j => !inC S N j

theorem atI_nonneg {S : Nat → Int} {n N : Nat} (h : InOrder S n N) : ∀ i, i ≤ N → 0 ≤ atI S i ∧ atI S i ≤ n := by
  intro i
  induction i with
  | zero => intro _; simp [atI]
  | succ i ih =>
    intro hi
    have h1 := ih (by omega)
    have h2 := h i (by omega)
    simp only [atI]
    omega

theorem atI_mono {S : Nat → Int} {n N : Nat} (h : InOrder S n N) (i : Nat) : ∀ k, i + k ≤ N → atI S i ≤ atI S (i + k) := by
  intro k
  induction k with
  | zero => intro _; simp
  | succ k ih =>
    intro hk
    have h1 := ih (by omega)
    have h2 := h (i + k) (by omega)
    show atI S i ≤ S ((i + k) * 2 + 1)
    omega

theorem atI_le {S : Nat → Int} {n N : Nat} (h : InOrder S n N) {i j : Nat} (hij : i ≤ j) (hj : j ≤ N) : atI S i ≤ atI S j := by
  have := atI_mono h i (j - i) (by omega)
  rwa [show i + (j - i) = j by omega] at this

/-- between a span's reading point and its beginning no index lies in a span -/
theorem gap_free {S : Nat → Int} {n N : Nat} (h : InOrder S n N) {i j : Nat} (hi : i ≤ N) (h1 : atI S i ≤ (j : Int)) (h2 : i < N → (j : Int) < S (i * 2)) : inC S N j = false := by
  rw [Bool.eq_false_iff]
  intro hc
  obtain ⟨k, hk, hf, ht⟩ := inC_iff.1 hc
  by_cases hki : k < i
  · have h3 := atI_le h (i := k + 1) (j := i) (by omega) hi
    rw [atI_succ] at h3
    omega
  · by_cases e : k = i
    · subst e
      have := h2 hk
      omega
    · have h3 := atI_le h (i := i + 1) (j := k) (by omega) (by omega)
      rw [atI_succ] at h3
      have h4 := h i (by omega)
      have h5 := h k hk
      have := h2 (by omega)
      omega

theorem in_span {S : Nat → Int} {N i j : Nat} (hi : i < N) (h1 : S (i * 2) ≤ (j : Int)) (h2 : (j : Int) < S (i * 2 + 1)) : inC S N j = true := inC_iff.2 ⟨i, hi, h1, h2⟩

theorem range_split (a b : Nat) (h : a ≤ b) : List.range b = List.range a ++ List.range' a (b - a) := by
  rw [List.range_eq_range', List.range_eq_range', show b = a + (b - a) by omega, ← List.range'_append_1]
  simp

theorem kept_add {S : Nat → Int} {N a b : Nat} (h : a ≤ b) : kept S N b = kept S N a ++ (List.range' a (b - a)).filter fun j => !inC S N j := by
  unfold kept
  rw [range_split a b h, List.filter_append]

theorem kept_free {S : Nat → Int} {N a b : Nat} (h : a ≤ b) (hf : ∀ j, a ≤ j → j < b → inC S N j = false) : kept S N b = kept S N a ++ List.range' a (b - a) := by
  rw [kept_add h, List.filter_eq_self.2]
  intro j hj
  have := List.mem_range'_1.1 hj
  simp [hf j (by omega) (by omega)]

theorem kept_none {S : Nat → Int} {N a b : Nat} (h : a ≤ b) (hf : ∀ j, a ≤ j → j < b → inC S N j = true) : kept S N b = kept S N a := by
  rw [kept_add h, List.filter_eq_nil_iff.2, List.append_nil]
  intro j hj
  have := List.mem_range'_1.1 hj
  simp [hf j (by omega) (by omega)]

/-- ONE SPAN MORE: what lies between the reading point and the span's beginning is kept, and no more. -/
theorem kept_step {S : Nat → Int} {n N i : Nat} (h : InOrder S n N) (hi : i < N) :
    kept S N (atI S (i + 1)).toNat = kept S N (atI S i).toNat ++ List.range' (atI S i).toNat ((S (i * 2)).toNat - (atI S i).toNat) := by
  have h0 := atI_nonneg h i (by omega)
  have h1 := h i hi
  rw [kept_none (a := (S (i * 2)).toNat) (by simp only [atI]; omega) (fun j h2 h3 => in_span hi (by omega) (by simp only [atI] at h3; omega))]
  exact kept_free (by omega) (fun j h2 h3 => gap_free h (Nat.le_of_lt hi) (by omega) (fun _ => by omega))

/-- BEHIND THE LAST SPAN all is kept. -/
theorem kept_last {S : Nat → Int} {n N : Nat} (h : InOrder S n N) : kept S N n = kept S N (atI S N).toNat ++ List.range' (atI S N).toNat (n - (atI S N).toNat) := by
  have h0 := atI_nonneg h N (Nat.le_refl _)
  exact kept_free (by omega) (fun j h2 h3 => gap_free h (Nat.le_refl _) (by omega) (fun h => by omega))

theorem kept_le (S : Nat → Int) (N m : Nat) : (kept S N m).length ≤ m := by
  unfold kept
  have := List.length_filter_le (fun j => !inC S N j) (List.range m)
  simpa using this

theorem kept_succ (S : Nat → Int) (N m : Nat) : kept S N (m + 1) = kept S N m ++ if inC S N m then [] else [m] := by
  unfold kept
  rw [List.range_succ, List.filter_append]
  cases h : inC S N m <;> simp [h]

/-- The kept index at the place of its own count. -/
theorem kept_get {S : Nat → Int} {N n m : Nat} (hm : m < n) (hk : inC S N m = false) : (kept S N n)[(kept S N m).length]? = some m := by
  have h1 : kept S N n = kept S N (m + 1) ++ (List.range' (m + 1) (n - (m + 1))).filter fun j => !inC S N j := kept_add (by omega)
  rw [h1, kept_succ, hk]
  simp

theorem kept_lt {S : Nat → Int} {N n m : Nat} (hm : m < n) (hk : inC S N m = false) : (kept S N m).length < (kept S N n).length := by
  have := kept_get hm hk
  exact (List.getElem?_eq_some_iff.1 this).1

theorem inC_zero (S : Nat → Int) (j : Nat) : inC S 0 j = false := by simp [inC]
theorem inC_succ (S : Nat → Int) (N j : Nat) : inC S (N + 1) j = (inC S N j || (decide (S (N * 2) ≤ (j : Int)) && decide ((j : Int) < S (N * 2 + 1)))) := by
  simp [inC, List.range_succ]
end Go.Proofs.Qxb6605296a
