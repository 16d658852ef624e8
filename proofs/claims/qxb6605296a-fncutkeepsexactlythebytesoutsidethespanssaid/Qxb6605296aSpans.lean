/-
  'cloneSpans' (9), 'ZZMkSpan' (10). A slice of spans to the walks: 'Sps w a n S': its cells, two a span, read 'S 0' .. 'S (n * 2 - 1)'.
-/
import Derived.Test.Qxb6605296aClone
namespace Go.Proofs.Qxb6605296a
open Go.RowKit

def Sps (w : World) (a : Option Addr) (n : Nat) (S : Nat → Int) : Prop :=
  n = 0 ∨ ∃ b off, a = some ⟨b, off, none⟩ ∧ b < w.heap.size ∧ ∀ i, i < n * 2 → w.cell? ⟨b, off + i, none⟩ = some (.int .i64 (S i))

theorem info25 : (Try.prog.info? 25).map (fun i => (i.zero, i.size, i.bytes)) = some (some (.agg #[.int .i64 0, .int .i64 0]), 2, 16) := by kernel_rfl
theorem info30 : (Try.prog.info? 30).map (fun i => (i.zero, i.size, i.bytes)) = some (some (.agg #[.int .i64 0, .int .i64 0]), 2, 16) := by kernel_rfl

/-- 'make([]T, l, c)', T of two cells -/
theorem run_make_pairs {P : Program} (t e : TypeId) (z : Value) (ht : P.underlying t = some (.slice e)) (hinfo : (P.info? e).map (fun i => (i.zero, i.size, i.bytes)) = some (some z, 2, 16))
    (l c : Nat) (hl : l ≤ c) (hc : c ≤ 1048576) (w : World) :
    (Instr.makeSlice t (.int .i64 (l : Int)) (.int .i64 (c : Int))).run P w = .ok (.slice (some ⟨w.heap.size, 0, none⟩) l c) (w.alloc (.cells (madeCells z.cells (c * 2)) e)) := by
  obtain ⟨i, hi, hz, hs, hb⟩ := info_parts hinfo
  have hr := run_make (P := P) w t e i z ht hi hz .i64 .i64 l c (by omega) (by omega) (by rw [hb]; omega) (by omega)
  simpa only [Int.toNat_natCast, hs] using hr

theorem rowIs_pairs (w : World) (n : Nat) (t : TypeId) : (w.alloc (.cells (madeCells (Value.agg #[.int .i64 0, .int .i64 0]).cells (n * 2)) t)).rowIs w.heap.size t (n * 2) (fun _ => .int .i64 0) :=
  ⟨_, Go.Deep.blk_alloc_new _ _, size_madeCells _ _, fun i hi => by
    have h2 : i % 2 = 0 ∨ i % 2 = 1 := by omega
    rcases h2 with h | h <;> simp [madeCells, hi, Value.cells, h]⟩

theorem cspans_nil (n c : Nat) (w : World) :
    Calls Try.prog 9 #[.slice none n c] w fun e w' => e = .returned (.slice none 0 0) ∧ w' = w := by
  have hq := fun w => Lib.run_eql_slice_nil (P := Try.prog) w 23 25 none n c 0 0 Try.underlying23
  go_enter Try.func9, Try.ntmps9
  go_wp2
  go_ret
  exact ⟨rfl, rfl⟩

theorem cspans_step {w wr : World} {n k : Nat} {S : Nat → Int} (hb : Below w.heap.size w wr) (hr : wr.rowIs w.heap.size 25 (n * 2) (fun i => if i < k * 2 then .int .i64 (S i) else .int .i64 0)) :
    Below w.heap.size w ((wr.setCell ⟨w.heap.size, k * 2, none⟩ (.int .i64 (S (k * 2)))).setCell ⟨w.heap.size, k * 2 + 1, none⟩ (.int .i64 (S (k * 2 + 1)))) ∧
    ((wr.setCell ⟨w.heap.size, k * 2, none⟩ (.int .i64 (S (k * 2)))).setCell ⟨w.heap.size, k * 2 + 1, none⟩ (.int .i64 (S (k * 2 + 1)))).rowIs w.heap.size 25 (n * 2) (fun i => if i < (k + 1) * 2 then .int .i64 (S i) else .int .i64 0) := by
  refine ⟨(hb.setCell (Nat.le_refl _) _).setCell (Nat.le_refl _) _, ((hr.set (k * 2) _).set (k * 2 + 1) _).congr fun i _ => ?_⟩
  by_cases e1 : i = k * 2 + 1
  · subst e1; rw [if_pos rfl, if_pos (by omega)]
  · rw [if_neg e1]
    by_cases e2 : i = k * 2
    · subst e2; rw [if_pos rfl, if_pos (by omega)]
    · rw [if_neg e2]
      by_cases hlt : i < k * 2
      · rw [if_pos hlt, if_pos (by omega)]
      · rw [if_neg hlt, if_neg (by omega)]

set_option maxHeartbeats 1000000 in
theorem cspans_some (x : Addr) (n c : Nat) (S : Nat → Int) (w : World) (hn : n ≤ 65536) (hB : Sps w (some x) n S) :
    Calls Try.prog 9 #[.slice (some x) n c] w fun e w' => e = .returned (.slice (some ⟨w.heap.size, 0, none⟩) n n) ∧ Below w.heap.size w w' ∧ w'.rowIs w.heap.size 25 (n * 2) (fun i => .int .i64 (S i)) := by
  have hq := fun w => Lib.run_eql_slice_nil (P := Try.prog) w 23 25 (some x) n c 0 0 Try.underlying23
  have hmk := run_make_pairs (P := Try.prog) 23 25 (.agg #[.int .i64 0, .int .i64 0]) Try.underlying23 info25 n n (Nat.le_refl _) (by omega)
  go_enter Try.func9, Try.ntmps9
  go_wp2
  go_loopg [4] n (fun g i wr => ∃ k : Nat, k ≤ n ∧ g = n - k ∧ i = .int .i64 k ∧ Below w.heap.size w wr ∧ wr.rowIs w.heap.size 25 (n * 2) (fun i => if i < k * 2 then .int .i64 (S i) else .int .i64 0))
  case atStart => exact ⟨0, Nat.zero_le _, rfl, rfl, (Below.refl _ _).alloc (Nat.le_refl _) _, (rowIs_pairs w n 25).congr (fun i _ => by simp)⟩
  case round =>
    obtain ⟨k, hk, rfl, rfl, hb, hr⟩ := hrel
    clear hmk hq
    by_cases hlt : k < n
    · rcases hB with h0 | ⟨b, off, hx, hbl, hc⟩
      · omega
      · simp only [Option.some.injEq] at hx
        subst hx
        have g1 : wr.cell? ⟨b, off + k * 2, none⟩ = some (.int .i64 (S (k * 2))) := (hb.cell (p := ⟨b, off + k * 2, none⟩) hbl).trans (hc (k * 2) (by omega))
        have g1' : wr.cell? ⟨b, off + k * 2 + 1, none⟩ = some (.int .i64 (S (k * 2 + 1))) := (hb.cell (p := ⟨b, off + k * 2 + 1, none⟩) hbl).trans (hc (k * 2 + 1) (by omega))
        have g2 : wr.cell? ⟨w.heap.size, k * 2, none⟩ = some (.int .i64 0) := by have := hr.cell (i := k * 2) (by omega); simpa using this
        have g2' : wr.cell? ⟨w.heap.size, k * 2 + 1, none⟩ = some (.int .i64 0) := by have := hr.cell (i := k * 2 + 1) (by omega); simpa [show ¬ k * 2 + 1 < k * 2 by omega] using this
        have g3 : wr.frozen? ⟨w.heap.size, k * 2, none⟩ = false := hr.frozen _
        have g3' : wr.frozen? ⟨w.heap.size, k * 2 + 1, none⟩ = false := hr.frozen _
        clear hc
        go_wp2
        go_roundg (n - (k + 1))
        case measure => omega
        case rel =>
          obtain ⟨s1, s2⟩ := cspans_step (S := S) hb hr
          exact ⟨k + 1, by omega, rfl, by go_num, s1, s2⟩
    · have hkn : k = n := by omega
      subst hkn
      go_wp2
      go_ret
      exact ⟨rfl, hb, hr.congr fun i hi => by rw [if_pos hi]⟩

theorem mkspan_any (f t : Int) (w : World) :
    Calls Try.prog 10 #[.int .i64 f, .int .i64 t] w fun e w' => e = .returned (.agg #[.int .i64 f, .int .i64 t]) ∧ w' = w.alloc (.cells #[.int .i64 f, .int .i64 t] 30) := by
  go_enter Try.func10, Try.ntmps10
  go_wp2
  exact bodyPost_ret (v := .agg #[.int .i64 f, .int .i64 t]) (by simp [results, Try.results10, go_sem]) rfl ⟨rfl, rfl⟩
end Go.Proofs.Qxb6605296a
