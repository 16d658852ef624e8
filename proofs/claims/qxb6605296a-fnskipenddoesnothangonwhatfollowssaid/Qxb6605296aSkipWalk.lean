/-
  THE WALKER's 'skip' (25) and 'ZZSkip' (17): 'skip' computes 'skipP' too.
-/
import Derived.Test.Qxb6605296aSkipBox
namespace Go.Proofs.Qxb6605296a
open Go.RowKit

set_option maxHeartbeats 2000000 in
set_option maxRecDepth 100000 in
/-- a number or a literal -/
theorem skip_num (bw b off n c p : Nat) (Z : Nat → Int) (w : World) (hn : n ≤ 1048576) (hpn : p < n) (hW : Wk w bw (some ⟨b, off, none⟩) n c p) (hbl : b < bw) (hc : ∀ i, i < n → w.cell? ⟨b, off + i, none⟩ = some (.int .u8 (Z i)))
    (h1 : Z p ≠ 34) (h2 : Z p ≠ 123) (h3 : Z p ≠ 91) :
    Calls Try.prog 25 #[.pointer (some ⟨bw, 0, none⟩)] w fun e w' => e = .returned (.bool true) ∧ Below bw w w' ∧ Wk w' bw (some ⟨b, off, none⟩) n c (numS n Z p) := by
  have gp : w.cell? ⟨b, off + p, none⟩ = some (.int .u8 (Z p)) := hc p hpn
  obtain ⟨k0, k1, kf⟩ := id hW
  have v0 : decide ((n : Int) ≤ (p : Int)) = false := by simp; omega
  have v0' : (p : Int) < (n : Int) := by omega
  have v0n : decide (n ≤ p) = false := by simp; omega
  have v1 : (Z p == 34) = false := by simp [h1]
  have v2 : (Z p == 123) = false := by simp [h2]
  have v3 : (Z p == 91) = false := by simp [h3]
  clear h1 h2 h3
  go_enter Try.func25, Try.ntmps25
  go_wp2_with fail
  go_quiet (fail)
  go_wp2_with fail
  go_quiet (fail)
  go_wp2_with fail
  go_loopg [] (n - p) (fun gk wr => ∃ (j : Nat), p ≤ j ∧ j ≤ n ∧ gk = n - j ∧ Below bw w wr ∧ Wk wr bw (some ⟨b, off, none⟩) n c j ∧ numS n Z j = numS n Z p)
  case atStart => exact ⟨p, Nat.le_refl _, by omega, rfl, below_drewN (Below.refl _ _) _, hW.drewN _, rfl⟩
  case round =>
    obtain ⟨j, hj1, hj2, rfl, hb2, hW2, hrel0⟩ := hrel
    have HR : Hid (numS n Z j = numS n Z p) := hrel0
    clear hrel0 k0 k1 kf hW gp
    obtain ⟨k0, k1, kf⟩ := id hW2
    by_cases hlt : j < n
    · have gj : wr.cell? ⟨b, off + j, none⟩ = some (.int .u8 (Z j)) := (hb2.cell (p := ⟨b, off + j, none⟩) hbl).trans (hc j hlt)
      have w0' : (j : Int) < (n : Int) := by omega
      have w0 : decide ((j : Int) < (n : Int)) = true := by simp; omega
      clear hc
      cases hs : spB (Z j) with
      | true =>
        have HA : Hid (numS n Z p = j) := HR.out.symm.trans (numS_stop hlt (by simp [hs]))
        clear HR
        go_wp2_with fail
        go_quiet ((go_at_call 27; exact Calls.quiet_of_same (space_any _ _)))
        go_wp2
        go_ret
        exact ⟨rfl, below_drewN hb2 _, by rw [HA.out]; exact hW2.drewN _⟩
      | false =>
        cases hd : dlB (Z j) with
        | true =>
          have HA : Hid (numS n Z p = j) := HR.out.symm.trans (numS_stop hlt (by simp [hd]))
          clear HR
          go_wp2_with fail
          go_quiet ((first | (go_at_call 27; exact Calls.quiet_of_same (space_any _ _)) | (go_at_call 28; exact Calls.quiet_of_same (delim_any _ _))))
          go_wp2
          go_ret
          exact ⟨rfl, below_drewN hb2 _, by rw [HA.out]; exact hW2.drewN _⟩
        | false =>
          have HA : Hid (numS n Z (j + 1) = numS n Z p) := (numS_step hlt (by simp [hs, hd])).symm.trans HR.out
          clear HR
          go_wp2_with fail
          go_quiet ((first | (go_at_call 27; exact Calls.quiet_of_same (space_any _ _)) | (go_at_call 28; exact Calls.quiet_of_same (delim_any _ _))))
          go_wp2
          go_roundg (n - (j + 1))
          case measure => omega
          case rel => exact ⟨j + 1, by omega, by omega, rfl, (Wk.set' (q := j + 1) (hW2.drewN _) (below_drewN hb2 _) (by omega)).1, (Wk.set' (hW2.drewN _) (below_drewN hb2 _) (by omega)).2, HA.out⟩
    · have hjn : j = n := by omega
      subst hjn
      have w0 : decide ((j : Int) < (j : Int)) = false := by simp
      have HA : Hid (numS j Z p = j) := HR.out.symm.trans numS_end
      clear HR hc
      go_wp2_with fail
      go_quiet (fail)
      go_wp2
      go_ret
      exact ⟨rfl, below_drewN hb2 _, by rw [HA.out]; exact hW2.drewN _⟩

set_option maxHeartbeats 2000000 in
set_option maxRecDepth 100000 in
theorem skip_any (bw : Nat) (a : Option Addr) (n c p : Nat) (Z : Nat → Int) (w : World) (hn : n ≤ 1048576) (hW : Wk w bw a n c p) (hD : Dt w bw a n Z) :
    Calls Try.prog 25 #[.pointer (some ⟨bw, 0, none⟩)] w fun e w' => e = .returned (.bool (skipP n Z p).1) ∧ Below bw w w' ∧ Wk w' bw a n c (skipP n Z p).2 := by
  by_cases hpn : p < n
  · have hD' := hD
    rcases hD with h0 | ⟨b, off, rfl, hbl, hc⟩
    · omega
    by_cases h1 : Z p = 34
    · have E : skipP n Z p = strP n Z p := by simp [skipP, hpn, h1]
      rw [E]
      have gp : w.cell? ⟨b, off + p, none⟩ = some (.int .u8 34) := by rw [← h1]; exact hc p hpn
      have hDm : ∀ m, Dt (w.drewN m) bw (some ⟨b, off, none⟩) n Z := fun m => .inr ⟨b, off, rfl, hbl, fun i hi => hc i hi⟩
      have v0 : decide ((n : Int) ≤ (p : Int)) = false := by simp; omega
      have v0' : (p : Int) < (n : Int) := by omega
      obtain ⟨k0, k1, kf⟩ := id hW
      clear E h1 hc hD'
      go_enter Try.func25, Try.ntmps25
      go_wp2_with fail
      go_quiet (fail)
      go_wp2_with fail
      go_quiet (fail)
      go_wp2_with fail
      refine (str_any bw _ n c p Z _ hn (hW.drewN _) (hDm _)).mono ?_
      rintro e w3 ⟨rfl, hb3, hW3⟩
      go_wp2
      go_ret
      exact ⟨rfl, (below_drewN (Below.refl _ _) _).trans hb3, hW3⟩
    · by_cases h2 : Z p = 123 ∨ Z p = 91
      · have E : skipP n Z p = skS n Z p 0 none := by simp [skipP, hpn, h1, h2]
        rw [E]
        exact skip_box bw b off n c p Z w hn hpn hW hbl hc h2
      · have E : skipP n Z p = (true, numS n Z p) := by simp [skipP, hpn, h1, h2]
        rw [E]
        exact skip_num bw b off n c p Z w hn hpn hW hbl hc h1 (by omega) (by omega)
  · have E : skipP n Z p = (false, p) := by simp [skipP, hpn]
    rw [E]
    have v0 : decide ((n : Int) ≤ (p : Int)) = true := by simp; omega
    obtain ⟨k0, k1, kf⟩ := id hW
    clear E hD
    go_enter Try.func25, Try.ntmps25
    go_wp2_with fail
    go_quiet (fail)
    go_wp2
    go_ret
    exact ⟨rfl, below_drewN (Below.refl _ _) _, hW.drewN _⟩

set_option maxHeartbeats 1000000 in
theorem zskip_any (a : Option Addr) (n c p : Nat) (Z : Nat → Int) (w : World) (hn : n ≤ 1048576) (hB : Bts w a n Z) :
    Calls Try.prog 17 #[.slice a n c, .int .i64 p] w fun e w' => e = .returned (.tuple #[.bool (skipP n Z p).1, .int .i64 (skipP n Z p).2]) ∧ Below w.heap.size w w' := by
  have hW : Wk (w.alloc (.cells #[.slice a n c, .int .i64 p, .slice none 0 0] 45)) w.heap.size a n c p := ⟨by simp, by simp, by unfold World.frozen?; rw [Go.Deep.blk_alloc_new]; simp⟩
  have hb0 : Below w.heap.size w (w.alloc (.cells #[.slice a n c, .int .i64 p, .slice none 0 0] 45)) := (Below.refl _ _).alloc (Nat.le_refl _) _
  have hD := Dt.of hB (Nat.le_refl _) hb0
  have H := skip_any w.heap.size a n c p Z _ hn hW hD
  have HH : Hid (Calls Try.prog 25 #[.pointer (some ⟨w.heap.size, 0, none⟩)] (w.alloc (.cells #[.slice a n c, .int .i64 p, .slice none 0 0] 45)) fun e w' => e = .returned (.bool (skipP n Z p).1) ∧ Below w.heap.size (w.alloc (.cells #[.slice a n c, .int .i64 p, .slice none 0 0] 45)) w' ∧ Wk w' w.heap.size a n c (skipP n Z p).2) := H
  clear H hW hD hB
  go_enter Try.func17, Try.ntmps17
  go_wp2_with fail
  refine HH.out.mono ?_
  rintro e w1 ⟨rfl, hb1, hW1⟩
  obtain ⟨k0, k1, kf⟩ := id hW1
  clear HH
  go_wp2_with fail
  go_quiet (fail)
  go_wp2
  go_ret2
  exact ⟨rfl, below_drewN (hb0.trans hb1) _⟩
end Go.Proofs.Qxb6605296a
