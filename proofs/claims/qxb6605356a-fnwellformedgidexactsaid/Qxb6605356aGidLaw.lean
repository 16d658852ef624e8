/-
  THE WALKS: 'gidByteAllowed' (5), 'wellFormedGid' (7), 'ZZwellFormedGid' (6), the sizes' guard (4), the law (3).
-/
import Derived.Test.Qxb6605356aRows
import Derived.Test.Qxb6605356aGidPlain
import Derived.WalkKit
import Derived.WalkSpells
import Derived.WalkLawsBesides
import Derived.Deep.LoopGhost
import Derived.Lib.OthersKept
namespace Go.Proofs.Qxb6605356a
open Go.RowKit

theorem ret_b {b b' : Bool} (h : b = b') : Ending.returned (.bool b) = .returned (.bool b') := by rw [h]

theorem found {k : Nat} (hk : k < 65) {x : Nat} (hx : (((alpha[k]'(by rw [alpha_size]; exact hk)).toNat : Int) == (x : Int)) = true) : alw (x : Int) = true := by
  rw [alpha_get] at hx
  have e : ((alphaL.getD k 0 : Nat) : Int) = (x : Int) := by simpa using hx
  rw [← e]
  exact alw_found k hk
theorem missed {k : Nat} (hk : k < 65) {x : Nat} (hx : (((alpha[k]'(by rw [alpha_size]; exact hk)).toNat : Int) == (x : Int)) = false) (h : ∀ j, j < k → alphaL.getD j 0 ≠ x) : ∀ j, j < k + 1 → alphaL.getD j 0 ≠ x := by
  intro j hj
  by_cases e : j = k
  · subst e
    rw [alpha_get] at hx
    intro hc
    rw [hc] at hx
    simp at hx
  · exact h j (by omega)

set_option maxHeartbeats 1000000 in
theorem allowed_any (x : Nat) (w : World) (h1 : x < 256) :
    Calls Try.prog 5 #[.int .u8 (x : Int)] w fun e w' => e = .returned (.bool (alw (x : Int))) ∧ w = w' := by
  go_enter Try.func5, Try.ntmps5
  go_wp2
  go_loopg [3] 65 (fun g i wr => ∃ k : Nat, k ≤ 65 ∧ g = 65 - k ∧ i = .int .i64 k ∧ wr = w ∧ ∀ j, j < k → alphaL.getD j 0 ≠ x)
  case atStart => exact ⟨0, by omega, rfl, rfl, rfl, fun j hj => by omega⟩
  case round =>
    obtain ⟨k, hk, rfl, rfl, rfl, hno⟩ := hrel
    have HN : Hid (∀ j, j < k → alphaL.getD j 0 ≠ x) := hno
    clear hno
    by_cases hlt : k < 65
    · have hlt' : (k : Int) < 65 := by omega
      go_wp2
      · go_ret
        exact ⟨ret_b (found hlt (by assumption)).symm, rfl⟩
      · go_roundg (65 - (k + 1))
        case measure => omega
        case rel => exact ⟨k + 1, by omega, rfl, by go_num, rfl, missed hlt (by assumption) HN.out⟩
    · have hkk : k = 65 := by omega
      subst hkk
      have E : Hid (alw (x : Int) = false) := alw_none x h1 HN.out
      clear HN
      go_wp2
      go_ret
      exact ⟨ret_b E.out.symm, rfl⟩

theorem alw_yes (r : Nat) (h : alw (r : Int) = true) : (44 < (r : Int) ∧ (r : Int) < 46) ∨ (45 < (r : Int) ∧ (r : Int) < 47) ∨ (47 < (r : Int) ∧ (r : Int) < 58) ∨ (64 < (r : Int) ∧ (r : Int) < 91) ∨ (94 < (r : Int) ∧ (r : Int) < 96) ∨ (96 < (r : Int) ∧ (r : Int) < 123) := by
  have := of_decide_eq_true h
  omega
theorem alw_no (r : Nat) (h : alw (r : Int) = false) : (r : Int) < 45 ∨ (46 < (r : Int) ∧ (r : Int) < 48) ∨ (57 < (r : Int) ∧ (r : Int) < 65) ∨ (90 < (r : Int) ∧ (r : Int) < 95) ∨ (95 < (r : Int) ∧ (r : Int) < 97) ∨ 122 < (r : Int) := by
  have := of_decide_eq_false h
  omega

set_option maxHeartbeats 2000000 in
set_option maxRecDepth 100000 in
theorem wf_any (s : ByteArray) (w : World) (hs : s.size ≤ 1048576) :
    Calls Try.prog 7 #[.string s] w fun e w' => e = .returned (.bool (wf s)) ∧ Below w.heap.size w w' := by
  by_cases h0 : s.size = 0
  · have E : Hid (wf s = false) := by show wf s = false; simp [wf, h0]
    have d0 : ((s.size : Int) == 0) = true := by simp [h0]
    clear h0
    go_enter Try.func7, Try.ntmps7
    go_wp2
    go_ret
    exact ⟨ret_b E.out.symm, Below.refl _ _⟩
  · have d0 : ((s.size : Int) == 0) = false := by rw [beq_eq_false_iff_ne]; omega
    by_cases h1 : 128 < s.size
    · have E : Hid (wf s = false) := by
        show wf s = false
        have : decide (s.size ≤ 128) = false := decide_eq_false (by omega)
        unfold wf
        rw [this]; simp
      have d1 : decide ((128 : Int) < (s.size : Int)) = true := by simp; omega
      clear h0
      go_enter Try.func7, Try.ntmps7
      go_wp2
      go_ret
      exact ⟨ret_b E.out.symm, Below.refl _ _⟩
    · have d1 : decide ((128 : Int) < (s.size : Int)) = false := by simp; omega
      have EW : Hid (wf s = allTo s s.size) := by
        show wf s = _
        have e1 : decide (1 ≤ s.size) = true := by simp; omega
        have e2 : decide (s.size ≤ 128) = true := by simp; omega
        simp [wf, e1, e2]
      clear h0
      go_enter Try.func7, Try.ntmps7
      go_wp2
      go_loopg [] s.size (fun g wr => ∃ pos : Nat, pos ≤ s.size ∧ g = s.size - pos ∧ wr.heap[w.heap.size]? = some (.stringIter s pos) ∧ Below w.heap.size w wr ∧ allTo s pos = true)
      case atStart => exact ⟨0, Nat.zero_le _, rfl, World.iter_heap w s 0, (Below.refl _ _).alloc (Nat.le_refl _) _, rfl⟩
      case round =>
        obtain ⟨pos, hpos, rfl, hit, hbw, hall0⟩ := hrel
        have HL : Hid (allTo s pos = true) := hall0
        clear hall0
        by_cases hp : pos < s.size
        · have hnx : ∀ ty, (Instr.next (.pointer (some ⟨w.heap.size, 0, none⟩)) true ty).run Try.prog wr = _ := fun ty => Lib.run_next_any_at wr w.heap.size s pos ty hit hp
          have hit2 := Lib.iterAt_heap wr w.heap.size s pos (pos + (Utf8.decode s pos).2) hit
          have hbw2 := Lib.below_iterAt hbw (k := w.heap.size) (Nat.le_refl _) s (pos + (Utf8.decode s pos).2)
          have HR : Hid (alw ((Utf8.decode s pos).1 : Int) = alw (byt s pos : Int)) := rune_alw s pos
          have HW : Hid (alw ((Utf8.decode s pos).1 : Int) = true → (Utf8.decode s pos).2 = 1) := rune_width s pos
          generalize (Utf8.decode s pos).2 = wd at *
          generalize (Utf8.decode s pos).1 = r at *
          obtain ⟨W1, hW1⟩ : ∃ W1, W1 = wr.iterAt w.heap.size s (pos + wd) := ⟨_, rfl⟩
          rw [← hW1] at hnx hit2 hbw2
          clear hW1 hit hbw
          cases ha : alw (r : Int) with
          | true =>
            have hw1 : wd = 1 := HW.out ha
            have HN : Hid (allTo s (pos + 1) = true) := by
              show allTo s (pos + 1) = true
              rw [allTo_succ, HL.out, ← HR.out, ha]; rfl
            subst hw1
            have hor := alw_yes r ha
            clear ha HR HW HL
            rcases hor with ⟨r1, r2⟩ | ⟨r1, r2⟩ | ⟨r1, r2⟩ | ⟨r1, r2⟩ | ⟨r1, r2⟩ | ⟨r1, r2⟩
            · have e1 : decide ((r : Int) ≤ 122) = true := by simp; omega
              have e2 : decide ((r : Int) ≤ 90) = true := by simp; omega
              have e3 : decide ((r : Int) ≤ 57) = true := by simp; omega
              have e4 : ((r : Int) == 45) = true := by simp; omega
              have e5 : ((r : Int) == 95) = false := by simp; omega
              have e6 : ((r : Int) == 46) = false := by simp; omega
              have e7 : decide (97 ≤ (r : Int)) = false := by simp; omega
              have e8 : decide (65 ≤ (r : Int)) = false := by simp; omega
              have e9 : decide (48 ≤ (r : Int)) = false := by simp; omega
              go_wp2
              go_roundg (s.size - (pos + 1))
              case measure => omega
              case rel => exact ⟨pos + 1, by omega, rfl, hit2, hbw2, HN.out⟩
            · have e1 : decide ((r : Int) ≤ 122) = true := by simp; omega
              have e2 : decide ((r : Int) ≤ 90) = true := by simp; omega
              have e3 : decide ((r : Int) ≤ 57) = true := by simp; omega
              have e4 : ((r : Int) == 45) = false := by simp; omega
              have e5 : ((r : Int) == 95) = false := by simp; omega
              have e6 : ((r : Int) == 46) = true := by simp; omega
              have e7 : decide (97 ≤ (r : Int)) = false := by simp; omega
              have e8 : decide (65 ≤ (r : Int)) = false := by simp; omega
              have e9 : decide (48 ≤ (r : Int)) = false := by simp; omega
              go_wp2
              go_roundg (s.size - (pos + 1))
              case measure => omega
              case rel => exact ⟨pos + 1, by omega, rfl, hit2, hbw2, HN.out⟩
            · have e1 : decide ((r : Int) ≤ 122) = true := by simp; omega
              have e2 : decide ((r : Int) ≤ 90) = true := by simp; omega
              have e3 : decide ((r : Int) ≤ 57) = true := by simp; omega
              have e4 : ((r : Int) == 45) = false := by simp; omega
              have e5 : ((r : Int) == 95) = false := by simp; omega
              have e6 : ((r : Int) == 46) = false := by simp; omega
              have e7 : decide (97 ≤ (r : Int)) = false := by simp; omega
              have e8 : decide (65 ≤ (r : Int)) = false := by simp; omega
              have e9 : decide (48 ≤ (r : Int)) = true := by simp; omega
              go_wp2
              go_roundg (s.size - (pos + 1))
              case measure => omega
              case rel => exact ⟨pos + 1, by omega, rfl, hit2, hbw2, HN.out⟩
            · have e1 : decide ((r : Int) ≤ 122) = true := by simp; omega
              have e2 : decide ((r : Int) ≤ 90) = true := by simp; omega
              have e3 : decide ((r : Int) ≤ 57) = false := by simp; omega
              have e4 : ((r : Int) == 45) = false := by simp; omega
              have e5 : ((r : Int) == 95) = false := by simp; omega
              have e6 : ((r : Int) == 46) = false := by simp; omega
              have e7 : decide (97 ≤ (r : Int)) = false := by simp; omega
              have e8 : decide (65 ≤ (r : Int)) = true := by simp; omega
              have e9 : decide (48 ≤ (r : Int)) = true := by simp; omega
              go_wp2
              go_roundg (s.size - (pos + 1))
              case measure => omega
              case rel => exact ⟨pos + 1, by omega, rfl, hit2, hbw2, HN.out⟩
            · have e1 : decide ((r : Int) ≤ 122) = true := by simp; omega
              have e2 : decide ((r : Int) ≤ 90) = false := by simp; omega
              have e3 : decide ((r : Int) ≤ 57) = false := by simp; omega
              have e4 : ((r : Int) == 45) = false := by simp; omega
              have e5 : ((r : Int) == 95) = true := by simp; omega
              have e6 : ((r : Int) == 46) = false := by simp; omega
              have e7 : decide (97 ≤ (r : Int)) = false := by simp; omega
              have e8 : decide (65 ≤ (r : Int)) = true := by simp; omega
              have e9 : decide (48 ≤ (r : Int)) = true := by simp; omega
              go_wp2
              go_roundg (s.size - (pos + 1))
              case measure => omega
              case rel => exact ⟨pos + 1, by omega, rfl, hit2, hbw2, HN.out⟩
            · have e1 : decide ((r : Int) ≤ 122) = true := by simp; omega
              have e2 : decide ((r : Int) ≤ 90) = false := by simp; omega
              have e3 : decide ((r : Int) ≤ 57) = false := by simp; omega
              have e4 : ((r : Int) == 45) = false := by simp; omega
              have e5 : ((r : Int) == 95) = false := by simp; omega
              have e6 : ((r : Int) == 46) = false := by simp; omega
              have e7 : decide (97 ≤ (r : Int)) = true := by simp; omega
              have e8 : decide (65 ≤ (r : Int)) = true := by simp; omega
              have e9 : decide (48 ≤ (r : Int)) = true := by simp; omega
              go_wp2
              go_roundg (s.size - (pos + 1))
              case measure => omega
              case rel => exact ⟨pos + 1, by omega, rfl, hit2, hbw2, HN.out⟩
          | false =>
            have HN : Hid (wf s = false) := by
              show wf s = false
              rw [EW.out]
              exact allTo_false s s.size pos hp (by rw [← HR.out, ha])
            have hor := alw_no r ha
            clear ha HR HW HL
            rcases hor with r2 | ⟨r1, r2⟩ | ⟨r1, r2⟩ | ⟨r1, r2⟩ | ⟨r1, r2⟩ | r1
            · have e1 : decide ((r : Int) ≤ 122) = true := by simp; omega
              have e2 : decide ((r : Int) ≤ 90) = true := by simp; omega
              have e3 : decide ((r : Int) ≤ 57) = true := by simp; omega
              have e4 : ((r : Int) == 45) = false := by simp; omega
              have e5 : ((r : Int) == 95) = false := by simp; omega
              have e6 : ((r : Int) == 46) = false := by simp; omega
              have e7 : decide (97 ≤ (r : Int)) = false := by simp; omega
              have e8 : decide (65 ≤ (r : Int)) = false := by simp; omega
              have e9 : decide (48 ≤ (r : Int)) = false := by simp; omega
              go_wp2
              go_ret
              exact ⟨ret_b HN.out.symm, hbw2⟩
            · have e1 : decide ((r : Int) ≤ 122) = true := by simp; omega
              have e2 : decide ((r : Int) ≤ 90) = true := by simp; omega
              have e3 : decide ((r : Int) ≤ 57) = true := by simp; omega
              have e4 : ((r : Int) == 45) = false := by simp; omega
              have e5 : ((r : Int) == 95) = false := by simp; omega
              have e6 : ((r : Int) == 46) = false := by simp; omega
              have e7 : decide (97 ≤ (r : Int)) = false := by simp; omega
              have e8 : decide (65 ≤ (r : Int)) = false := by simp; omega
              have e9 : decide (48 ≤ (r : Int)) = false := by simp; omega
              go_wp2
              go_ret
              exact ⟨ret_b HN.out.symm, hbw2⟩
            · have e1 : decide ((r : Int) ≤ 122) = true := by simp; omega
              have e2 : decide ((r : Int) ≤ 90) = true := by simp; omega
              have e3 : decide ((r : Int) ≤ 57) = false := by simp; omega
              have e4 : ((r : Int) == 45) = false := by simp; omega
              have e5 : ((r : Int) == 95) = false := by simp; omega
              have e6 : ((r : Int) == 46) = false := by simp; omega
              have e7 : decide (97 ≤ (r : Int)) = false := by simp; omega
              have e8 : decide (65 ≤ (r : Int)) = false := by simp; omega
              have e9 : decide (48 ≤ (r : Int)) = true := by simp; omega
              go_wp2
              go_ret
              exact ⟨ret_b HN.out.symm, hbw2⟩
            · have e1 : decide ((r : Int) ≤ 122) = true := by simp; omega
              have e2 : decide ((r : Int) ≤ 90) = false := by simp; omega
              have e3 : decide ((r : Int) ≤ 57) = false := by simp; omega
              have e4 : ((r : Int) == 45) = false := by simp; omega
              have e5 : ((r : Int) == 95) = false := by simp; omega
              have e6 : ((r : Int) == 46) = false := by simp; omega
              have e7 : decide (97 ≤ (r : Int)) = false := by simp; omega
              have e8 : decide (65 ≤ (r : Int)) = true := by simp; omega
              have e9 : decide (48 ≤ (r : Int)) = true := by simp; omega
              go_wp2
              go_ret
              exact ⟨ret_b HN.out.symm, hbw2⟩
            · have e1 : decide ((r : Int) ≤ 122) = true := by simp; omega
              have e2 : decide ((r : Int) ≤ 90) = false := by simp; omega
              have e3 : decide ((r : Int) ≤ 57) = false := by simp; omega
              have e4 : ((r : Int) == 45) = false := by simp; omega
              have e5 : ((r : Int) == 95) = false := by simp; omega
              have e6 : ((r : Int) == 46) = false := by simp; omega
              have e7 : decide (97 ≤ (r : Int)) = false := by simp; omega
              have e8 : decide (65 ≤ (r : Int)) = true := by simp; omega
              have e9 : decide (48 ≤ (r : Int)) = true := by simp; omega
              go_wp2
              go_ret
              exact ⟨ret_b HN.out.symm, hbw2⟩
            · have e1 : decide ((r : Int) ≤ 122) = false := by simp; omega
              have e2 : decide ((r : Int) ≤ 90) = false := by simp; omega
              have e3 : decide ((r : Int) ≤ 57) = false := by simp; omega
              have e4 : ((r : Int) == 45) = false := by simp; omega
              have e5 : ((r : Int) == 95) = false := by simp; omega
              have e6 : ((r : Int) == 46) = false := by simp; omega
              have e7 : decide (97 ≤ (r : Int)) = true := by simp; omega
              have e8 : decide (65 ≤ (r : Int)) = true := by simp; omega
              have e9 : decide (48 ≤ (r : Int)) = true := by simp; omega
              go_wp2
              go_ret
              exact ⟨ret_b HN.out.symm, hbw2⟩
        · have hnx : ∀ ty, (Instr.next (.pointer (some ⟨w.heap.size, 0, none⟩)) true ty).run Try.prog wr = _ := fun ty => Lib.run_next_end_at wr w.heap.size s pos ty hit hp
          have HN : Hid (wf s = true) := by
            show wf s = true
            have e : pos = s.size := by omega
            rw [EW.out, ← e]; exact HL.out
          clear HL EW
          go_wp2
          go_ret
          exact ⟨ret_b HN.out.symm, hbw⟩

theorem zwf_any (s : ByteArray) (w : World) (hs : s.size ≤ 1048576) :
    Calls Try.prog 6 #[.string s] w fun e w' => e = .returned (.bool (wf s)) ∧ Below w.heap.size w w' := by
  go_enter Try.func6, Try.ntmps6
  go_wp2_with fail
  refine (wf_any s w hs).mono ?_
  rintro e w1 ⟨rfl, hb⟩
  go_wp2
  go_ret
  exact ⟨rfl, hb⟩

set_option maxHeartbeats 1000000 in
theorem zb4 (s : ByteArray) (w : World) (hs : s.size ≤ 1048576) :
    Calls Try.prog 4 #[.string s] w fun e w' => e = .returned (.bool true) ∧ w = w' := by
  have d1 : decide ((1048576 : Int) < s.size) = false := by simp; omega
  go_enter Try.func4, Try.ntmps4
  go_wp2
  go_ret
  exact ⟨rfl, rfl⟩
set_option maxHeartbeats 1000000 in
theorem zb4_no (s : ByteArray) (w : World) (hs : 1048576 < s.size) :
    Calls Try.prog 4 #[.string s] w fun e w' => e = .returned (.bool false) ∧ w = w' := by
  have d1 : decide ((1048576 : Int) < s.size) = true := by simp; omega
  go_enter Try.func4, Try.ntmps4
  go_wp2
  go_ret
  exact ⟨rfl, rfl⟩

/-- the sizes that the law lets -/
def szOk (s : ByteArray) : Bool := decide (1 ≤ s.size) && decide (s.size ≤ 128)

theorem size_cases (s : ByteArray) : (decide ((1 : Int) ≤ (s.size : Int)) = false ∧ Hid (szOk s = false)) ∨ ((decide ((1 : Int) ≤ (s.size : Int)) = true ∧ decide ((s.size : Int) ≤ 128) = false) ∧ Hid (szOk s = false)) ∨
    ((decide ((1 : Int) ≤ (s.size : Int)) = true ∧ decide ((s.size : Int) ≤ 128) = true) ∧ Hid (szOk s = true)) := by
  by_cases h1 : 1 ≤ s.size
  · have e1 : decide (1 ≤ s.size) = true := decide_eq_true h1
    by_cases h2 : s.size ≤ 128
    · have e2 : decide (s.size ≤ 128) = true := decide_eq_true h2
      exact .inr (.inr ⟨⟨decide_eq_true (by omega), decide_eq_true (by omega)⟩, by show szOk s = true; unfold szOk; rw [e1, e2]; rfl⟩)
    · have e2 : decide (s.size ≤ 128) = false := decide_eq_false h2
      exact .inr (.inl ⟨⟨decide_eq_true (by omega), decide_eq_false (by omega)⟩, by show szOk s = false; unfold szOk; rw [e1, e2]; rfl⟩)
  · have e1 : decide (1 ≤ s.size) = false := decide_eq_false h1
    exact .inl ⟨decide_eq_false (by omega), by show szOk s = false; unfold szOk; rw [e1]; rfl⟩

set_option maxHeartbeats 2000000 in
set_option maxRecDepth 100000 in
theorem gid_core (s : ByteArray) (w : World) (hs : s.size ≤ 65536) :
    Calls Try.prog 3 #[.string s] w fun e w' => e = .returned (.bool true) ∧ Below w.heap.size w w' := by
  have d0 : decide ((65536 : Int) < s.size) = false := by simp; omega
  rcases size_cases s with ⟨d1, HS⟩ | ⟨⟨d1, d2⟩, HS⟩ | ⟨⟨d1, d2⟩, HS⟩
  all_goals
    go_enter Try.func3, Try.ntmps3
    go_wp2_with fail
    refine (zb4 s w (by omega)).mono ?_
    rintro e w' ⟨rfl, rfl⟩
    go_wp2_with fail
    go_loopg [3, 4] s.size (fun g v i wr => ∃ k : Nat, k ≤ s.size ∧ g = s.size - k ∧ i = .int .i64 k ∧ v = .bool (szOk s && allTo s k) ∧ w = wr)
    case atStart => exact ⟨0, Nat.zero_le _, rfl, rfl, by rw [HS.out]; rfl, rfl⟩
    case round =>
      obtain ⟨k, hk, rfl, rfl, rfl, rfl⟩ := hrel
      by_cases hlt : k < s.size
      · have hbt := byt_get s k hlt
        have hlt' : (k : Int) < (s.size : Int) := by omega
        cases ha : alw (byt s k : Int) with
        | true =>
          have HN : Hid ((szOk s && allTo s (k + 1)) = (szOk s && allTo s k)) := by
            show (szOk s && allTo s (k + 1)) = (szOk s && allTo s k)
            rw [allTo_succ, ha, Bool.and_true]
          go_wp2_with fail
          refine (allowed_any (byt s k) w (byt_lt s k)).mono ?_
          rintro e w' ⟨rfl, rfl⟩
          go_wp2
          go_roundg (s.size - (k + 1))
          case measure => omega
          case rel => exact ⟨k + 1, by omega, rfl, by go_num, by rw [HN.out], rfl⟩
        | false =>
          have HN : Hid ((szOk s && allTo s (k + 1)) = false) := by
            show (szOk s && allTo s (k + 1)) = false
            rw [allTo_succ, ha, Bool.and_false, Bool.and_false]
          go_wp2_with fail
          refine (allowed_any (byt s k) w (byt_lt s k)).mono ?_
          rintro e w' ⟨rfl, rfl⟩
          go_wp2
          go_roundg (s.size - (k + 1))
          case measure => omega
          case rel => exact ⟨k + 1, by omega, rfl, by go_num, by rw [HN.out], rfl⟩
      · have hkn : k = s.size := by omega
        subst hkn
        have HW : Hid (wf s = (szOk s && allTo s s.size)) := rfl
        go_wp2_with fail
        refine (zwf_any s w (by omega)).mono ?_
        rintro e w1 ⟨rfl, hb⟩
        go_wp2
        go_ret
        exact ⟨ret_b (by rw [HW.out]; simp), hb⟩

set_option maxHeartbeats 1000000 in
set_option maxRecDepth 100000 in
theorem gid_law (s : ByteArray) (w : World) :
    Calls Try.prog 3 #[.string s] w fun e w' => e = .returned (.bool true) ∧ Below w.heap.size w w' := by
  by_cases h1 : s.size ≤ 1048576
  · by_cases h2 : s.size ≤ 65536
    · exact gid_core s w h2
    · have d0 : decide ((65536 : Int) < s.size) = true := by simp; omega
      go_enter Try.func3, Try.ntmps3
      go_wp2_with (go_at_call 4; refine (zb4 s _ h1).mono ?_; rintro e w' ⟨rfl, rfl⟩)
      go_ret
      exact ⟨rfl, Below.refl _ _⟩
  · have h2 : 1048576 < s.size := by omega
    go_enter Try.func3, Try.ntmps3
    go_wp2_with (go_at_call 4; refine (zb4_no s _ h2).mono ?_; rintro e w' ⟨rfl, rfl⟩)
    go_ret
    exact ⟨rfl, Below.refl _ _⟩
end Go.Proofs.Qxb6605356a
