/-
  THE WALKER's 'skip' (25) at a container.
-/
import Derived.Test.Qxb6605296aTests
import Derived.Test.Qxb6605296aStrWalk
namespace Go.Proofs.Qxb6605296a
open Go.RowKit

set_option maxHeartbeats 4000000 in
set_option maxRecDepth 100000 in
/-- a container -/
theorem skip_box (bw b off n c p : Nat) (Z : Nat → Int) (w : World) (hn : n ≤ 1048576) (hpn : p < n) (hW : Wk w bw (some ⟨b, off, none⟩) n c p) (hbl : b < bw) (hc : ∀ i, i < n → w.cell? ⟨b, off + i, none⟩ = some (.int .u8 (Z i)))
    (hq : Z p = 123 ∨ Z p = 91) :
    Calls Try.prog 25 #[.pointer (some ⟨bw, 0, none⟩)] w fun e w' => e = .returned (.bool (skS n Z p 0 none).1) ∧ Below bw w w' ∧ Wk w' bw (some ⟨b, off, none⟩) n c (skS n Z p 0 none).2 := by
  have gp : w.cell? ⟨b, off + p, none⟩ = some (.int .u8 (Z p)) := hc p hpn
  obtain ⟨k0, k1, kf⟩ := id hW
  have v0 : decide ((n : Int) ≤ (p : Int)) = false := by simp; omega
  have v0' : (p : Int) < (n : Int) := by omega
  have v0n : decide (n ≤ p) = false := by simp; omega
  have v1 : (Z p == 34) = false := by simp; omega
  have hor : ((Z p == 123) = true) ∨ ((Z p == 123) = false ∧ (Z p == 91) = true) := by
    rcases hq with h | h
    · exact .inl (by simp [h])
    · exact .inr ⟨by simp [h], by simp [h]⟩
  clear hq
  rcases hor with v2 | ⟨v2, v3⟩
  all_goals
    go_enter Try.func25, Try.ntmps25
    go_wp2_with fail
    go_quiet (fail)
    go_wp2_with fail
    go_quiet (fail)
    go_wp2_with fail
    go_loopg [3] (n - p) (fun gk dep wr => ∃ (j : Nat) (d : Int), p ≤ j ∧ j ≤ n ∧ gk = n - j ∧ -(j : Int) ≤ d ∧ d ≤ j ∧ dep = .int .i64 d ∧ Below bw w wr ∧ Wk wr bw (some ⟨b, off, none⟩) n c j ∧ skS n Z j d none = skS n Z p 0 none)
    case atStart => exact ⟨p, 0, Nat.le_refl _, by omega, rfl, by omega, by omega, rfl, below_drewN (Below.refl _ _) _, hW.drewN _, rfl⟩
    case round =>
      obtain ⟨j, d, hj1, hj2, rfl, hd1, hd2, rfl, hb2, hW2, hrel0⟩ := hrel
      have HR : Hid (skS n Z j d none = skS n Z p 0 none) := hrel0
      clear hrel0 k0 k1 kf hW gp
      obtain ⟨k0, k1, kf⟩ := id hW2
      by_cases hlt : j < n
      · have gj : wr.cell? ⟨b, off + j, none⟩ = some (.int .u8 (Z j)) := (hb2.cell (p := ⟨b, off + j, none⟩) hbl).trans (hc j hlt)
        have w0' : (j : Int) < (n : Int) := by omega
        have w0 : decide ((j : Int) < (n : Int)) = true := by simp; omega
        by_cases hq : Z j = 34
        · have u1 : (Z j == 34) = true := by simp [hq]
          have hD : ∀ m, Dt (wr.drewN m) bw (some ⟨b, off, none⟩) n Z := fun m => .inr ⟨b, off, rfl, hbl, fun i hi => (hb2.cell (p := ⟨b, off + i, none⟩) hbl).trans (hc i hi)⟩
          have hS := skS_str (d := d) hlt hq
          have hbd := strP_bd hlt hq
          have hC := fun m => str_any bw (some ⟨b, off, none⟩) n c j Z (wr.drewN m) hn (hW2.drewN m) (hD m)
          obtain ⟨ok, q, hX⟩ : ∃ ok q, strP n Z j = (ok, q) := ⟨_, _, rfl⟩
          rw [hX] at hS hbd hC
          have HC : Hid (∀ m, Calls Try.prog 24 #[.pointer (some ⟨bw, 0, none⟩)] (wr.drewN m) fun e w' => e = .returned (.bool ok) ∧ Below bw (wr.drewN m) w' ∧ Wk w' bw (some ⟨b, off, none⟩) n c q) := hC
          cases ok with
          | true =>
            have HA : Hid (skS n Z q d none = skS n Z p 0 none) := by
              have e : skS n Z j d none = skS n Z q d none := hS
              exact e.symm.trans HR.out
            have q1 : j < q := hbd.1
            have q2 : q ≤ n := hbd.2.2 rfl
            clear hq hS hbd hC hX hD HR
            go_wp2_with fail
            go_quiet (fail)
            go_wp2_with fail
            go_quiet (fail)
            go_wp2_with fail
            refine (HC.out _).mono ?_
            rintro e w3 ⟨rfl, hb3, hW3⟩
            go_wp2
            go_roundg (n - q)
            case measure => omega
            case rel => exact ⟨q, d, by omega, by omega, rfl, by omega, by omega, rfl, (below_drewN hb2 _).trans hb3, hW3, HA.out⟩
          | false =>
            have HA : Hid (skS n Z p 0 none = (false, q)) := by
              have e : skS n Z j d none = (false, q) := hS
              exact HR.out.symm.trans e
            clear hq hS hbd hC hX hD HR
            go_wp2_with fail
            go_quiet (fail)
            go_wp2_with fail
            go_quiet (fail)
            go_wp2_with fail
            refine (HC.out _).mono ?_
            rintro e w3 ⟨rfl, hb3, hW3⟩
            go_wp2
            go_ret
            exact ⟨ret_bool HA.out, (below_drewN hb2 _).trans hb3, place HA.out hW3⟩
        · have u1 : (Z j == 34) = false := by simp [hq]
          by_cases h2 : Z j = 123
          · have u2 : (Z j == 123) = true := by simp [h2]
            have HA : Hid (skS n Z (j + 1) (d + 1) none = skS n Z p 0 none) := (skS_open hlt (.inl h2)).symm.trans HR.out
            clear hq HR h2 hc
            go_wp2_with fail
            go_quiet (fail)
            go_wp2_with fail
            go_quiet (fail)
            go_wp2
            go_roundg (n - (j + 1))
            case measure => omega
            case rel => exact ⟨j + 1, d + 1, by omega, by omega, rfl, by omega, by omega, by go_num, (Wk.set' (q := j + 1) (hW2.drewN _) (below_drewN hb2 _) (by omega)).1, (Wk.set' (hW2.drewN _) (below_drewN hb2 _) (by omega)).2, HA.out⟩
          · have u2 : (Z j == 123) = false := by simp [h2]
            by_cases h3 : Z j = 91
            · have u3 : (Z j == 91) = true := by simp [h3]
              have HA : Hid (skS n Z (j + 1) (d + 1) none = skS n Z p 0 none) := (skS_open hlt (.inr h3)).symm.trans HR.out
              clear hq HR h2 h3 hc
              go_wp2_with fail
              go_quiet (fail)
              go_wp2_with fail
              go_quiet (fail)
              go_wp2
              go_roundg (n - (j + 1))
              case measure => omega
              case rel => exact ⟨j + 1, d + 1, by omega, by omega, rfl, by omega, by omega, by go_num, (Wk.set' (q := j + 1) (hW2.drewN _) (below_drewN hb2 _) (by omega)).1, (Wk.set' (hW2.drewN _) (below_drewN hb2 _) (by omega)).2, HA.out⟩
            · have u3 : (Z j == 91) = false := by simp [h3]
              by_cases h4 : Z j = 125
              · have u4 : (Z j == 125) = true := by simp [h4]
                by_cases hd : d - 1 = 0
                · have u5 : (d - 1 == 0) = true := by simp [hd]
                  have HA : Hid (skS n Z p 0 none = (true, j + 1)) := HR.out.symm.trans ((skS_close hlt (.inl h4)).trans (if_pos hd))
                  clear hq HR h2 h3 h4 hd hc
                  go_wp2_with fail
                  go_quiet (fail)
                  go_wp2_with fail
                  go_quiet (fail)
                  go_wp2
                  go_ret
                  exact ⟨ret_bool HA.out, (Wk.set' (q := j + 1) (hW2.drewN _) (below_drewN hb2 _) (by omega)).1, place HA.out (Wk.set' (hW2.drewN _) (below_drewN hb2 _) (by omega)).2⟩
                · have u5 : (d - 1 == 0) = false := by simp [hd]
                  have HA : Hid (skS n Z (j + 1) (d - 1) none = skS n Z p 0 none) := ((skS_close hlt (.inl h4)).trans (if_neg hd)).symm.trans HR.out
                  clear hq HR h2 h3 h4 hd hc
                  go_wp2_with fail
                  go_quiet (fail)
                  go_wp2_with fail
                  go_quiet (fail)
                  go_wp2
                  go_roundg (n - (j + 1))
                  case measure => omega
                  case rel => exact ⟨j + 1, d - 1, by omega, by omega, rfl, by omega, by omega, by go_num, (Wk.set' (q := j + 1) (hW2.drewN _) (below_drewN hb2 _) (by omega)).1, (Wk.set' (hW2.drewN _) (below_drewN hb2 _) (by omega)).2, HA.out⟩
              · have u4 : (Z j == 125) = false := by simp [h4]
                by_cases h5 : Z j = 93
                · have u6 : (Z j == 93) = true := by simp [h5]
                  by_cases hd : d - 1 = 0
                  · have u5 : (d - 1 == 0) = true := by simp [hd]
                    have HA : Hid (skS n Z p 0 none = (true, j + 1)) := HR.out.symm.trans ((skS_close hlt (.inr h5)).trans (if_pos hd))
                    clear hq HR h2 h3 h4 h5 hd hc
                    go_wp2_with fail
                    go_quiet (fail)
                    go_wp2_with fail
                    go_quiet (fail)
                    go_wp2
                    go_ret
                    exact ⟨ret_bool HA.out, (Wk.set' (q := j + 1) (hW2.drewN _) (below_drewN hb2 _) (by omega)).1, place HA.out (Wk.set' (hW2.drewN _) (below_drewN hb2 _) (by omega)).2⟩
                  · have u5 : (d - 1 == 0) = false := by simp [hd]
                    have HA : Hid (skS n Z (j + 1) (d - 1) none = skS n Z p 0 none) := ((skS_close hlt (.inr h5)).trans (if_neg hd)).symm.trans HR.out
                    clear hq HR h2 h3 h4 h5 hd hc
                    go_wp2_with fail
                    go_quiet (fail)
                    go_wp2_with fail
                    go_quiet (fail)
                    go_wp2
                    go_roundg (n - (j + 1))
                    case measure => omega
                    case rel => exact ⟨j + 1, d - 1, by omega, by omega, rfl, by omega, by omega, by go_num, (Wk.set' (q := j + 1) (hW2.drewN _) (below_drewN hb2 _) (by omega)).1, (Wk.set' (hW2.drewN _) (below_drewN hb2 _) (by omega)).2, HA.out⟩
                · have u6 : (Z j == 93) = false := by simp [h5]
                  have HA : Hid (skS n Z (j + 1) (d) none = skS n Z p 0 none) := (skS_other hlt hq h2 h3 h4 h5).symm.trans HR.out
                  clear hq HR h2 h3 h4 h5 hc
                  go_wp2_with fail
                  go_quiet (fail)
                  go_wp2_with fail
                  go_quiet (fail)
                  go_wp2
                  go_roundg (n - (j + 1))
                  case measure => omega
                  case rel => exact ⟨j + 1, d, by omega, by omega, rfl, by omega, by omega, rfl, (Wk.set' (q := j + 1) (hW2.drewN _) (below_drewN hb2 _) (by omega)).1, (Wk.set' (hW2.drewN _) (below_drewN hb2 _) (by omega)).2, HA.out⟩
      · have hjn : j = n := by omega
        subst hjn
        have w0 : decide ((j : Int) < (j : Int)) = false := by simp
        have HA : Hid (skS j Z p 0 none = (false, j)) := HR.out.symm.trans (by rw [skS_end]; simp)
        clear HR hc
        go_wp2_with fail
        go_quiet (fail)
        go_wp2
        go_ret
        exact ⟨ret_bool HA.out, below_drewN hb2 _, place HA.out (hW2.drewN _)⟩
end Go.Proofs.Qxb6605296a
