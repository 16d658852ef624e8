/-
  THE FOUR TESTS ON A BYTE: 'isJSONSpace' (21), 'isValueEnd' (22), 'isSpace' (27), 'isDelim' (28).
-/
import Derived.Test.Qxb6605296aClone
import Derived.Test.Qxb6605296aSkipPlain
namespace Go.Proofs.Qxb6605296a
open Go.RowKit

set_option maxHeartbeats 1000000 in
theorem jspace_any (x : Int) (w : World) :
    Calls Try.prog 21 #[.int .u8 x] w fun e w' => e = .returned (.bool (spB x)) ∧ w' = w := by
  by_cases h0 : x = 32
  · subst h0
    go_enter Try.func21, Try.ntmps21
    go_wp2
    go_ret
    exact ⟨rfl, rfl⟩
  by_cases h1 : x = 9
  · subst h1
    go_enter Try.func21, Try.ntmps21
    go_wp2
    go_ret
    exact ⟨rfl, rfl⟩
  by_cases h2 : x = 10
  · subst h2
    go_enter Try.func21, Try.ntmps21
    go_wp2
    go_ret
    exact ⟨rfl, rfl⟩
  by_cases h3 : x = 13
  · subst h3
    go_enter Try.func21, Try.ntmps21
    go_wp2
    go_ret
    exact ⟨rfl, rfl⟩
  have u0 : (x == 32) = false := by simp [h0]
  have u1 : (x == 9) = false := by simp [h1]
  have u2 : (x == 10) = false := by simp [h2]
  have u3 : (x == 13) = false := by simp [h3]
  have E : spB x = false := by simp [spB, h0, h1, h2, h3]
  rw [E]
  clear E h0 h1 h2 h3
  go_enter Try.func21, Try.ntmps21
  go_wp2
  go_ret
  exact ⟨rfl, rfl⟩

set_option maxHeartbeats 1000000 in
theorem vend_any (x : Int) (w : World) :
    Calls Try.prog 22 #[.int .u8 x] w fun e w' => e = .returned (.bool (dlB x)) ∧ w' = w := by
  by_cases h0 : x = 44
  · subst h0
    go_enter Try.func22, Try.ntmps22
    go_wp2
    go_ret
    exact ⟨rfl, rfl⟩
  by_cases h1 : x = 125
  · subst h1
    go_enter Try.func22, Try.ntmps22
    go_wp2
    go_ret
    exact ⟨rfl, rfl⟩
  by_cases h2 : x = 93
  · subst h2
    go_enter Try.func22, Try.ntmps22
    go_wp2
    go_ret
    exact ⟨rfl, rfl⟩
  have u0 : (x == 44) = false := by simp [h0]
  have u1 : (x == 125) = false := by simp [h1]
  have u2 : (x == 93) = false := by simp [h2]
  have E : dlB x = false := by simp [dlB, h0, h1, h2]
  rw [E]
  clear E h0 h1 h2
  go_enter Try.func22, Try.ntmps22
  go_wp2
  go_ret
  exact ⟨rfl, rfl⟩

set_option maxHeartbeats 1000000 in
theorem space_any (x : Int) (w : World) :
    Calls Try.prog 27 #[.int .u8 x] w fun e w' => e = .returned (.bool (spB x)) ∧ w' = w := by
  by_cases h0 : x = 32
  · subst h0
    go_enter Try.func27, Try.ntmps27
    go_wp2
    go_ret
    exact ⟨rfl, rfl⟩
  by_cases h1 : x = 9
  · subst h1
    go_enter Try.func27, Try.ntmps27
    go_wp2
    go_ret
    exact ⟨rfl, rfl⟩
  by_cases h2 : x = 10
  · subst h2
    go_enter Try.func27, Try.ntmps27
    go_wp2
    go_ret
    exact ⟨rfl, rfl⟩
  by_cases h3 : x = 13
  · subst h3
    go_enter Try.func27, Try.ntmps27
    go_wp2
    go_ret
    exact ⟨rfl, rfl⟩
  have u0 : (x == 32) = false := by simp [h0]
  have u1 : (x == 9) = false := by simp [h1]
  have u2 : (x == 10) = false := by simp [h2]
  have u3 : (x == 13) = false := by simp [h3]
  have E : spB x = false := by simp [spB, h0, h1, h2, h3]
  rw [E]
  clear E h0 h1 h2 h3
  go_enter Try.func27, Try.ntmps27
  go_wp2
  go_ret
  exact ⟨rfl, rfl⟩

set_option maxHeartbeats 1000000 in
theorem delim_any (x : Int) (w : World) :
    Calls Try.prog 28 #[.int .u8 x] w fun e w' => e = .returned (.bool (dlB x)) ∧ w' = w := by
  by_cases h0 : x = 44
  · subst h0
    go_enter Try.func28, Try.ntmps28
    go_wp2
    go_ret
    exact ⟨rfl, rfl⟩
  by_cases h1 : x = 125
  · subst h1
    go_enter Try.func28, Try.ntmps28
    go_wp2
    go_ret
    exact ⟨rfl, rfl⟩
  by_cases h2 : x = 93
  · subst h2
    go_enter Try.func28, Try.ntmps28
    go_wp2
    go_ret
    exact ⟨rfl, rfl⟩
  have u0 : (x == 44) = false := by simp [h0]
  have u1 : (x == 125) = false := by simp [h1]
  have u2 : (x == 93) = false := by simp [h2]
  have E : dlB x = false := by simp [dlB, h0, h1, h2]
  rw [E]
  clear E h0 h1 h2
  go_enter Try.func28, Try.ntmps28
  go_wp2
  go_ret
  exact ⟨rfl, rfl⟩

end Go.Proofs.Qxb6605296a
