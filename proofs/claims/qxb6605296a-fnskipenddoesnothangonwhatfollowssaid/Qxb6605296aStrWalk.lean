/-
  THE WALKER: 'next' (26), 'str' (24), 'ZZStr' (14): 'str' computes 'strP' too.
-/
import Derived.Test.Qxb6605296aStrModel
namespace Go.Proofs.Qxb6605296a
open Go.RowKit

/-- THE WALKER in block bw: its data, its place p. -/
structure Wk (w : World) (bw : Nat) (a : Option Addr) (n c p : Nat) : Prop where
  c0 : w.cell? ⟨bw, 0, none⟩ = some (.slice a n c)
  c1 : w.cell? ⟨bw, 1, none⟩ = some (.int .i64 p)
  fz : w.frozen? ⟨bw, 1, none⟩ = false

/-- the walker's data lie below its own block -/
def Dt (w : World) (bw : Nat) (a : Option Addr) (n : Nat) (Z : Nat → Int) : Prop :=
  n = 0 ∨ ∃ b off, a = some ⟨b, off, none⟩ ∧ b < bw ∧ ∀ i, i < n → w.cell? ⟨b, off + i, none⟩ = some (.int .u8 (Z i))

theorem Dt.below {w w' : World} {bw : Nat} {a : Option Addr} {n : Nat} {Z : Nat → Int} (h : Dt w bw a n Z) (hb : Below bw w w') : Dt w' bw a n Z := by
  rcases h with h | ⟨b, off, rfl, hlt, h⟩
  · exact .inl h
  · exact .inr ⟨b, off, rfl, hlt, fun i hi => (hb.cell (p := ⟨b, off + i, none⟩) hlt).trans (h i hi)⟩

theorem Wk.drewN {w : World} {bw : Nat} {a : Option Addr} {n c p : Nat} (h : Wk w bw a n c p) (m : Nat) : Wk (w.drewN m) bw a n c p := ⟨h.c0, h.c1, h.fz⟩

/-- the walker's place is set -/
theorem Wk.set' {w0 w : World} {bw : Nat} {a : Option Addr} {n c p q : Nat} {x : Int} (h : Wk w bw a n c p) (hb : Below bw w0 w) (hx : x = q) :
    Below bw w0 (w.setCell ⟨bw, 1, none⟩ (.int .i64 x)) ∧ Wk (w.setCell ⟨bw, 1, none⟩ (.int .i64 x)) bw a n c q := by
  subst hx
  exact ⟨hb.setCell (Nat.le_refl _) _, ⟨by rw [World.cell?_setCell_other _ _ _ _ (by simp)]; exact h.c0, World.cell?_setCell_same _ _ _ h.c1, by rw [World.frozen?_setCell]; exact h.fz⟩⟩

set_option maxHeartbeats 1000000 in
/-- next('"') where no quote stands -/
theorem next_no (bw : Nat) (a : Option Addr) (n c p : Nat) (Z : Nat → Int) (w : World) (hW : Wk w bw a n c p) (hD : Dt w bw a n Z) (hno : ¬ (p < n ∧ Z p = 34)) :
    Calls Try.prog 26 #[.pointer (some ⟨bw, 0, none⟩), .int .u8 34] w fun e w' => e = .returned (.bool false) ∧ Below bw w w' ∧ Wk w' bw a n c p := by
  obtain ⟨k0, k1, kf⟩ := id hW
  by_cases hpn : p < n
  · rcases hD with h0 | ⟨b, off, rfl, hbl, hc⟩
    · omega
    have gp : w.cell? ⟨b, off + p, none⟩ = some (.int .u8 (Z p)) := hc p hpn
    have u1 : decide ((p : Int) < (n : Int)) = true := by simp; omega
    have u1' : (p : Int) < (n : Int) := by omega
    have u2 : (Z p == 34) = false := by simp; exact fun h => hno ⟨hpn, h⟩
    clear hno hc
    go_enter Try.func26, Try.ntmps26
    go_wp2_with fail
    go_quiet (fail)
    go_wp2
    go_ret
    exact ⟨rfl, below_drewN (Below.refl _ _) _, hW.drewN _⟩
  · have u1 : decide ((p : Int) < (n : Int)) = false := by simp; omega
    clear hno
    go_enter Try.func26, Try.ntmps26
    go_wp2_with fail
    go_quiet (fail)
    go_wp2
    go_ret
    exact ⟨rfl, below_drewN (Below.refl _ _) _, hW.drewN _⟩

set_option maxHeartbeats 1000000 in
/-- next('"') at a quote -/
theorem next_yes (bw : Nat) (a : Option Addr) (n c p : Nat) (Z : Nat → Int) (w : World) (hn : n ≤ 1048576) (hW : Wk w bw a n c p) (hD : Dt w bw a n Z) (hpn : p < n) (hq : Z p = 34) :
    Calls Try.prog 26 #[.pointer (some ⟨bw, 0, none⟩), .int .u8 34] w fun e w' => e = .returned (.bool true) ∧ Below bw w w' ∧ Wk w' bw a n c (p + 1) := by
  obtain ⟨k0, k1, kf⟩ := id hW
  rcases hD with h0 | ⟨b, off, rfl, hbl, hc⟩
  · omega
  have gp : w.cell? ⟨b, off + p, none⟩ = some (.int .u8 34) := by rw [← hq]; exact hc p hpn
  have u1 : decide ((p : Int) < (n : Int)) = true := by simp; omega
  have u1' : (p : Int) < (n : Int) := by omega
  clear hq hc
  go_enter Try.func26, Try.ntmps26
  go_wp2_with fail
  go_quiet (fail)
  go_wp2
  go_ret
  exact ⟨rfl, (hW.drewN nq).set' (below_drewN (Below.refl _ _) _) (by omega)⟩

theorem ret_bool {X : Bool × Nat} {b : Bool} {m : Nat} (h : X = (b, m)) : Ending.returned (.bool b) = .returned (.bool X.1) := by rw [h]
theorem place {X : Bool × Nat} {b : Bool} {m : Nat} (h : X = (b, m)) {w : World} {bw : Nat} {a : Option Addr} {n c : Nat} (hW : Wk w bw a n c m) : Wk w bw a n c X.2 := by rw [h]; exact hW

set_option maxHeartbeats 2000000 in
/-- (*walker).str -/
theorem str_any (bw : Nat) (a : Option Addr) (n c p : Nat) (Z : Nat → Int) (w : World) (hn : n ≤ 1048576) (hW : Wk w bw a n c p) (hD : Dt w bw a n Z) :
    Calls Try.prog 24 #[.pointer (some ⟨bw, 0, none⟩)] w fun e w' => e = .returned (.bool (strP n Z p).1) ∧ Below bw w w' ∧ Wk w' bw a n c (strP n Z p).2 := by
  by_cases hq : p < n ∧ Z p = 34
  · obtain ⟨hpn, hz⟩ := hq
    have E : strP n Z p = strW n Z (p + 1) := by simp [strP, hpn, hz]
    rw [E]
    clear E
    go_enter Try.func24, Try.ntmps24
    go_wp2_with fail
    refine (next_yes bw a n c p Z w hn hW hD hpn hz).mono ?_
    rintro e w1 ⟨rfl, hb1, hW1⟩
    have hD1 := hD.below hb1
    clear hD hW hz
    go_wp2_with fail
    go_loopg [] (n - p) (fun gk wr => ∃ j : Nat, p + 1 ≤ j ∧ j ≤ n + 1 ∧ gk = n + 1 - j ∧ Below bw w1 wr ∧ Wk wr bw a n c j ∧ strW n Z j = strW n Z (p + 1))
    case atStart => exact ⟨p + 1, Nat.le_refl _, by omega, by omega, Below.refl _ _, hW1, rfl⟩
    case round =>
      obtain ⟨j, hj1, hj2, rfl, hb2, hW2, hrel0⟩ := hrel
      have HR : Hid (strW n Z j = strW n Z (p + 1)) := hrel0
      obtain ⟨k0, k1, kf⟩ := id hW2
      clear hrel0 hW1
      by_cases hlt : j < n
      · rcases hD1 with h0 | ⟨b, off, rfl, hbl, hc⟩
        · omega
        have gj : wr.cell? ⟨b, off + j, none⟩ = some (.int .u8 (Z j)) := (hb2.cell (p := ⟨b, off + j, none⟩) hbl).trans (hc j hlt)
        have u1' : (j : Int) < (n : Int) := by omega
        clear hc
        go_wp2_with fail
        go_quiet (fail)
        go_wp2
        go_quiet (fail)
        by_cases hb : Z j = 92
        · have u2 : (Z j == 92) = true := by simp [hb]
          have HA : Hid (strW n Z (j + 2) = strW n Z (p + 1)) := (strW_back n Z j hlt hb).symm.trans HR.out
          clear hb HR
          go_wp2
          go_roundg (n + 1 - (j + 2))
          case measure => omega
          case rel => exact ⟨j + 2, by omega, by omega, rfl, (Wk.set' (q := j + 2) (hW2.drewN _) (below_drewN hb2 _) (by omega)).1, (Wk.set' (hW2.drewN _) (below_drewN hb2 _) (by omega)).2, HA.out⟩
        · have u2 : (Z j == 92) = false := by simp [hb]
          by_cases hq : Z j = 34
          · have u3 : (Z j == 34) = true := by simp [hq]
            have HA : Hid (strW n Z (p + 1) = (true, j + 1)) := HR.out.symm.trans (strW_quote n Z j hlt hq)
            clear hb hq HR
            go_wp2
            go_ret
            exact ⟨ret_bool HA.out, (Wk.set' (q := j + 1) (hW2.drewN _) (below_drewN (hb1.trans hb2) _) (by omega)).1, place HA.out (Wk.set' (hW2.drewN _) (below_drewN hb2 _) (by omega)).2⟩
          · have u3 : (Z j == 34) = false := by simp [hq]
            have HA : Hid (strW n Z (j + 1) = strW n Z (p + 1)) := (strW_plain n Z j hlt hq hb).symm.trans HR.out
            clear hb hq HR
            go_wp2
            go_roundg (n + 1 - (j + 1))
            case measure => omega
            case rel => exact ⟨j + 1, by omega, by omega, rfl, (Wk.set' (q := j + 1) (hW2.drewN _) (below_drewN hb2 _) (by omega)).1, (Wk.set' (hW2.drewN _) (below_drewN hb2 _) (by omega)).2, HA.out⟩
      · have u1 : decide ((j : Int) < (n : Int)) = false := by simp; omega
        have HA : Hid (strW n Z (p + 1) = (false, j)) := HR.out.symm.trans (strW_end n Z j (by omega) hj2)
        clear HR
        go_wp2_with fail
        go_quiet (fail)
        go_wp2
        go_ret
        exact ⟨ret_bool HA.out, below_drewN (hb1.trans hb2) _, place HA.out (hW2.drewN _)⟩
  · have E : strP n Z p = (false, p) := by simp [strP, hq]
    rw [E]
    clear E
    go_enter Try.func24, Try.ntmps24
    go_wp2_with fail
    refine (next_no bw a n c p Z w hW hD hq).mono ?_
    rintro e w1 ⟨rfl, hb1, hW1⟩
    clear hq hW hD
    go_wp2
    go_ret
    exact ⟨rfl, hb1, hW1⟩

/-- ZZStr: a walker is laid, 'str' is run on it -/
theorem Dt.of {w w' : World} {bw : Nat} {a : Option Addr} {n : Nat} {Z : Nat → Int} (h : Bts w a n Z) (hbw : w.heap.size ≤ bw) (hb : Below w.heap.size w w') : Dt w' bw a n Z := by
  rcases h with h | ⟨b, off, rfl, hlt, h⟩
  · exact .inl h
  · exact .inr ⟨b, off, rfl, by omega, fun i hi => (hb.cell (p := ⟨b, off + i, none⟩) hlt).trans (h i hi)⟩

set_option maxHeartbeats 1000000 in
theorem zstr_any (a : Option Addr) (n c p : Nat) (Z : Nat → Int) (w : World) (hn : n ≤ 1048576) (hB : Bts w a n Z) :
    Calls Try.prog 14 #[.slice a n c, .int .i64 p] w fun e w' => e = .returned (.tuple #[.bool (strP n Z p).1, .int .i64 (strP n Z p).2]) ∧ Below w.heap.size w w' := by
  have hW : Wk (w.alloc (.cells #[.slice a n c, .int .i64 p, .slice none 0 0] 45)) w.heap.size a n c p := ⟨by simp, by simp, by unfold World.frozen?; rw [Go.Deep.blk_alloc_new]; simp⟩
  have hb0 : Below w.heap.size w (w.alloc (.cells #[.slice a n c, .int .i64 p, .slice none 0 0] 45)) := (Below.refl _ _).alloc (Nat.le_refl _) _
  have hD := Dt.of hB (Nat.le_refl _) hb0
  have H := str_any w.heap.size a n c p Z _ hn hW hD
  have HH : Hid (Calls Try.prog 24 #[.pointer (some ⟨w.heap.size, 0, none⟩)] (w.alloc (.cells #[.slice a n c, .int .i64 p, .slice none 0 0] 45)) fun e w' => e = .returned (.bool (strP n Z p).1) ∧ Below w.heap.size (w.alloc (.cells #[.slice a n c, .int .i64 p, .slice none 0 0] 45)) w' ∧ Wk w' w.heap.size a n c (strP n Z p).2) := H
  clear H hW hD hB
  go_enter Try.func14, Try.ntmps14
  go_wp2_with fail
  refine HH.out.mono ?_
  rintro e w1 ⟨rfl, hb1, hW1⟩
  obtain ⟨k0, k1, kf⟩ := id hW1
  clear HH
  go_wp2_with fail
  go_quiet (fail)
  go_wp2
  go_ret2
  exact ⟨rfl, below_drewN (hb0.trans hb1) _⟩
end Go.Proofs.Qxb6605296a
