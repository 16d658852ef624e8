/-
  'cloneBytes' (8): a fresh copy. WHAT A SLICE OF BYTES IS TO THE WALKS: 'Bts w a n Z': its i-th byte, i < n, reads 'Z i'.
-/
import Derived.Test.Qxb6605296aRows
import Derived.WalkKit
import Derived.WalkSpells
import Derived.WalkLawsBesides
import Derived.Deep.OwnRows
import Derived.Deep.LoopGhost
import Derived.Deep.DeepMust
namespace Go.Proofs.Qxb6605296a
open Go.RowKit

/-- A slice of n bytes at 'a': empty, or at an address whose first n cells hold 'Z 0' .. 'Z (n-1)'. -/
def Bts (w : World) (a : Option Addr) (n : Nat) (Z : Nat → Int) : Prop :=
  n = 0 ∨ ∃ b off, a = some ⟨b, off, none⟩ ∧ b < w.heap.size ∧ ∀ i, i < n → w.cell? ⟨b, off + i, none⟩ = some (.int .u8 (Z i))

theorem info5 : (Try.prog.info? 5).map (fun i => (i.zero, i.size, i.bytes)) = some (some (.int .u8 0), 1, 1) := by kernel_rfl

theorem Bts.below {w w' : World} {a : Option Addr} {n : Nat} {Z : Nat → Int} (h : Bts w a n Z) (hb : Below w.heap.size w w') : Bts w' a n Z := by
  rcases h with h | ⟨b, off, rfl, hlt, h⟩
  · exact .inl h
  · exact .inr ⟨b, off, rfl, Nat.lt_of_lt_of_le hlt hb.size, fun i hi => by rw [hb.cell (p := ⟨b, off + i, none⟩) hlt]; exact h i hi⟩
theorem Bts.of_row {w : World} {g n : Nat} {t : TypeId} {Z : Nat → Int} (h : w.rowIs g t n (fun i => .int .u8 (Z i))) : Bts w (some ⟨g, 0, none⟩) n Z :=
  .inr ⟨g, 0, rfl, h.lt, fun i hi => by simpa using h.cell hi⟩

/-- The copy so far. -/
theorem clone_step {w wr : World} {n k : Nat} {Z : Nat → Int} (hb : Below w.heap.size w wr) (hr : wr.rowIs w.heap.size 5 n (fun i => if i < k then .int .u8 (Z i) else .int .u8 0)) :
    Below w.heap.size w (wr.setCell ⟨w.heap.size, k, none⟩ (.int .u8 (Z k))) ∧ (wr.setCell ⟨w.heap.size, k, none⟩ (.int .u8 (Z k))).rowIs w.heap.size 5 n (fun i => if i < k + 1 then .int .u8 (Z i) else .int .u8 0) := by
  refine ⟨hb.setCell (Nat.le_refl _) _, (hr.set k _).congr fun i _ => ?_⟩
  by_cases e : i = k
  · subst e; simp
  · rw [if_neg e]
    by_cases hlt : i < k
    · rw [if_pos hlt, if_pos (by omega)]
    · rw [if_neg hlt, if_neg (by omega)]

theorem clone_nil (n c : Nat) (w : World) :
    Calls Try.prog 8 #[.slice none n c] w fun e w' => e = .returned (.slice none 0 0) ∧ w' = w := by
  have hq := fun w => Lib.run_eql_slice_nil (P := Try.prog) w 22 5 none n c 0 0 Try.underlying22
  go_enter Try.func8, Try.ntmps8
  go_wp2
  go_ret
  exact ⟨rfl, rfl⟩

set_option maxHeartbeats 1000000 in
theorem clone_some (x : Addr) (n c : Nat) (Z : Nat → Int) (w : World) (hn : n ≤ 1048576) (hB : Bts w (some x) n Z) :
    Calls Try.prog 8 #[.slice (some x) n c] w fun e w' => e = .returned (.slice (some ⟨w.heap.size, 0, none⟩) n n) ∧ Below w.heap.size w w' ∧ w'.rowIs w.heap.size 5 n (fun i => .int .u8 (Z i)) := by
  have hq := fun w => Lib.run_eql_slice_nil (P := Try.prog) w 22 5 (some x) n c 0 0 Try.underlying22
  have hmk := run_make_row' (P := Try.prog) 22 5 (.int .u8 0) 1 Try.underlying22 info5 rfl .i64 .i64 n (by omega) (by omega)
  go_enter Try.func8, Try.ntmps8
  go_wp2
  go_loopg [4] n (fun g i wr => ∃ k : Nat, k ≤ n ∧ g = n - k ∧ i = .int .i64 k ∧ Below w.heap.size w wr ∧ wr.rowIs w.heap.size 5 n (fun i => if i < k then .int .u8 (Z i) else .int .u8 0))
  case atStart => exact ⟨0, Nat.zero_le _, rfl, rfl, (Below.refl _ _).alloc (Nat.le_refl _) _, (World.rowIs_made w (.int .u8 0) n 5).congr (fun i _ => by simp)⟩
  case round =>
    obtain ⟨k, hk, rfl, rfl, hb, hr⟩ := hrel
    clear hmk hq
    by_cases hlt : k < n
    · rcases hB with h0 | ⟨b, off, hx, hbl, hc⟩
      · omega
      · simp only [Option.some.injEq] at hx
        subst hx
        have g1 : wr.cell? ⟨b, off + k, none⟩ = some (.int .u8 (Z k)) := (hb.cell (p := ⟨b, off + k, none⟩) hbl).trans (hc k hlt)
        have g2 : wr.cell? ⟨w.heap.size, k, none⟩ = some (.int .u8 0) := by simpa using hr.cell hlt
        have g3 : wr.frozen? ⟨w.heap.size, k, none⟩ = false := hr.frozen k
        clear hc
        go_wp2
        go_roundg (n - (k + 1))
        case measure => omega
        case rel =>
          obtain ⟨s1, s2⟩ := clone_step (Z := Z) hb hr
          exact ⟨k + 1, by omega, rfl, by go_num, s1, s2⟩
    · have hkn : k = n := by omega
      subst hkn
      go_wp2
      go_ret
      exact ⟨rfl, hb, hr.congr fun i hi => by rw [if_pos hi]⟩
end Go.Proofs.Qxb6605296a
