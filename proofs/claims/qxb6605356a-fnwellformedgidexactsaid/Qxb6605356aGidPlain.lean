/-
  THE PLAIN LAW OF 'wellFormedGid': no Go in sight. 'alw x': x is one of the 65 allowed bytes.
-/
import Derived.Lib.DecodeN
namespace Go.Proofs.Qxb6605356a

def alw (x : Int) : Bool := decide ((97 ≤ x ∧ x ≤ 122) ∨ (65 ≤ x ∧ x ≤ 90) ∨ (48 ≤ x ∧ x ≤ 57) ∨ x = 45 ∨ x = 95 ∨ x = 46)

theorem alw_hi (x : Int) (h : 128 ≤ x) : alw x = false := by unfold alw; rw [decide_eq_false_iff_not]; omega

/-- the list as the Go text lays it -/
def alpha : ByteArray := ⟨#[97, 98, 99, 100, 101, 102, 103, 104, 105, 106, 107, 108, 109, 110, 111, 112, 113, 114, 115, 116, 117, 118, 119, 120, 121, 122, 65, 66, 67, 68, 69, 70, 71, 72, 73, 74, 75, 76, 77, 78, 79, 80, 81, 82, 83, 84, 85, 86, 87, 88, 89, 90, 48, 49, 50, 51, 52, 53, 54, 55, 56, 57, 45, 95, 46]⟩
theorem alpha_size : alpha.size = 65 := rfl
def alphaL : List Nat := alpha.data.toList.map UInt8.toNat
theorem alphaL_len : alphaL.length = 65 := rfl
theorem alpha_get (k : Nat) (h : k < alpha.size) : (alpha[k]).toNat = alphaL.getD k 0 := by
  have h' : k < alpha.data.size := h
  have e : alpha[k] = alpha.data[k] := rfl
  rw [e]
  simp only [alphaL, List.getD, List.getElem?_map, Array.getElem?_toList]
  rw [Array.getElem?_eq_getElem h']
  rfl

/-- the two ways of saying it agree at every byte -/
theorem agree : ((List.range 256).all fun x => alphaL.contains x == alw (x : Int)) = true := by decide +kernel
theorem agree_at (x : Nat) (hx : x < 256) : alphaL.contains x = alw (x : Int) := by
  have := List.all_eq_true.1 agree x (List.mem_range.2 hx)
  simpa using this

theorem alw_found (k : Nat) (h : k < 65) : alw ((alphaL.getD k 0 : Nat) : Int) = true := by
  have hm : alphaL.getD k 0 ∈ alphaL := by
    have h' : k < alphaL.length := h
    simp [List.getD, h']
  have hb : ∀ y ∈ alphaL, y < 256 := by decide +kernel
  rw [← agree_at _ (hb _ hm)]
  simpa using hm
theorem alw_none (x : Nat) (hx : x < 256) (h : ∀ j, j < 65 → alphaL.getD j 0 ≠ x) : alw (x : Int) = false := by
  rw [← agree_at x hx]
  cases hc : alphaL.contains x with
  | false => rfl
  | true =>
    have hm : x ∈ alphaL := by simpa using hc
    obtain ⟨j, hj, he⟩ := List.getElem_of_mem hm
    exact absurd (by simp [List.getD, hj, he]) (h j hj)

/-- byte i of the string -/
def byt (s : ByteArray) (i : Nat) : Nat := (s.get! i).toNat
theorem byt_lt (s : ByteArray) (i : Nat) : byt s i < 256 := UInt8.toNat_lt _
theorem byt_get (s : ByteArray) (i : Nat) (h : i < s.size) : (s[i]).toNat = byt s i := by
  unfold byt
  have e : s.get! i = s[i] := by
    cases s with
    | mk d =>
      have h' : i < d.size := h
      simp [ByteArray.get!, getElem!_pos, h']
      rfl
  rw [e]

theorem decodeN_lo (n b0 b1 b2 b3 : Nat) (h : b0 < 128) : Lib.decodeN n b0 b1 b2 b3 = (b0, 1) := by simp [Lib.decodeN, h]
theorem decodeN_hi (n b0 b1 b2 b3 : Nat) (h : 128 ≤ b0) : 128 ≤ (Lib.decodeN n b0 b1 b2 b3).1 := by
  unfold Lib.decodeN
  repeat' split
  all_goals first | omega | (simp only; omega)

/-- the rune at a place is allowed just where the byte is; and then it is one byte wide -/
theorem rune_alw (s : ByteArray) (i : Nat) : alw ((Utf8.decode s i).1 : Int) = alw (byt s i : Int) := by
  rw [Lib.decode_at]
  by_cases h : (s.get! i).toNat < 128
  · rw [decodeN_lo _ _ _ _ _ h]; rfl
  · have h2 := decodeN_hi (s.size - i) (s.get! i).toNat (s.get! (i + 1)).toNat (s.get! (i + 2)).toNat (s.get! (i + 3)).toNat (by omega)
    have e1 : alw (byt s i : Int) = false := alw_hi _ (by unfold byt; omega)
    rw [e1]
    exact alw_hi _ (by omega)
theorem rune_width (s : ByteArray) (i : Nat) (h : alw ((Utf8.decode s i).1 : Int) = true) : (Utf8.decode s i).2 = 1 := by
  rw [rune_alw] at h
  have : (s.get! i).toNat < 128 := by
    refine Nat.lt_of_not_le fun hc => ?_
    rw [alw_hi _ (by unfold byt; omega)] at h
    cases h
  rw [Lib.decode_at, decodeN_lo _ _ _ _ _ this]

/-- every byte below k is allowed -/
def allTo (s : ByteArray) (k : Nat) : Bool := (List.range k).all fun i => alw (byt s i : Int)
theorem allTo_zero (s : ByteArray) : allTo s 0 = true := rfl
theorem allTo_succ (s : ByteArray) (k : Nat) : allTo s (k + 1) = (allTo s k && alw (byt s k : Int)) := by simp [allTo, List.range_succ]
theorem allTo_false (s : ByteArray) (n k : Nat) (hk : k < n) (h : alw (byt s k : Int) = false) : allTo s n = false := by
  rw [Bool.eq_false_iff]
  intro hc
  have := List.all_eq_true.1 hc k (List.mem_range.2 hk)
  rw [h] at this
  cases this

def wf (s : ByteArray) : Bool := decide (1 ≤ s.size) && decide (s.size ≤ 128) && allTo s s.size
end Go.Proofs.Qxb6605356a
