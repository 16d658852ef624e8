/-
  THE WALK OF 'FnCutKeepsExactlyTheBytesOutsideTheSpans' (3): its six loops.
-/
import Derived.Test.Qxb6605296aCutB
import Derived.Deep.QuietTactic
import Derived.BigQuiet
import Derived.Deep.RegionWith
import Derived.Deep.Cut
import Derived.Deep.CutRange
namespace Go.Proofs.Qxb6605296a
open Go.RowKit

theorem make_zero (N : Nat) (hN : N ≤ 65536) (w : World) :
    (Instr.makeSlice 28 (.int .i64 0) (.int .i64 (N : Int))).run Try.prog w = .ok (.slice (some ⟨w.heap.size, 0, none⟩) 0 N) (w.alloc (.cells (madeCells (Value.agg #[.int .i64 0, .int .i64 0]).cells (N * 2)) 30)) :=
  run_make_pairs (P := Try.prog) 28 30 (.agg #[.int .i64 0, .int .i64 0]) Try.underlying28 info30 0 N (Nat.zero_le _) (by omega) w

theorem info4 : (Try.prog.info? 4).map (fun i => (i.zero, i.size, i.bytes)) = some (some (.bool false), 1, 1) := by kernel_rfl
theorem Cl.any {B : Nat} {w : World} {a : Option Addr} {n : Nat} {Z : Nat → Int} (h : Cl B w a n Z) : Cl 0 w a n Z := by
  rcases h with h | ⟨g, h1, _, h3⟩
  · exact .inl h
  · exact .inr ⟨g, h1, Nat.zero_le _, h3⟩
theorem spans_step {w wr : World} {n k : Nat} {S : Nat → Int} {o o' : Obj} (hb : Below w.heap.size w wr) (hr : wr.rowIs w.heap.size 30 (n * 2) (fun i => if i < k * 2 then .int .i64 (S i) else .int .i64 0)) :
    Below w.heap.size w (((wr.setCell ⟨w.heap.size, k * 2, none⟩ (.int .i64 (S (k * 2)))).setCell ⟨w.heap.size, k * 2 + 1, none⟩ (.int .i64 (S (k * 2 + 1)))).alloc o |>.alloc o').drew ∧
    (((wr.setCell ⟨w.heap.size, k * 2, none⟩ (.int .i64 (S (k * 2)))).setCell ⟨w.heap.size, k * 2 + 1, none⟩ (.int .i64 (S (k * 2 + 1)))).alloc o |>.alloc o').drew.rowIs w.heap.size 30 (n * 2) (fun i => if i < (k + 1) * 2 then .int .i64 (S i) else .int .i64 0) := by
  have hlt := hr.lt
  refine ⟨((((hb.setCell (Nat.le_refl _) _).setCell (Nat.le_refl _) _).alloc (by simp; omega) o).alloc (by simp; omega) o').drew, ((((hr.set (k * 2) _).set (k * 2 + 1) _).alloc o).alloc o').drew.congr fun i _ => ?_⟩
  by_cases e1 : i = k * 2 + 1
  · subst e1; rw [if_pos rfl, if_pos (by omega)]
  · rw [if_neg e1]
    by_cases e2 : i = k * 2
    · subst e2; rw [if_pos rfl, if_pos (by omega)]
    · rw [if_neg e2]
      by_cases hlt : i < k * 2
      · rw [if_pos hlt, if_pos (by omega)]
      · rw [if_neg hlt, if_neg (by omega)]
theorem spans_whole {w : World} {B k : Nat} {S : Nat → Int} (hr : w.rowIs B 30 (k * 2) (fun i => if i < k * 2 then .int .i64 (S i) else .int .i64 0)) : Sps w (some ⟨B, 0, none⟩) k S :=
  .inr ⟨B, 0, rfl, hr.lt, fun i hi => by have := hr.cell hi; simpa [hi] using this⟩
theorem keep_step {w wr : World} {n j : Nat} (hb : Below w.heap.size w wr) (hr : wr.rowIs w.heap.size 4 n (fun i => .bool (decide (i < j)))) :
    Below w.heap.size w (wr.setCell ⟨w.heap.size, j, none⟩ (.bool true)) ∧ (wr.setCell ⟨w.heap.size, j, none⟩ (.bool true)).rowIs w.heap.size 4 n (fun i => .bool (decide (i < j + 1))) := by
  refine ⟨hb.setCell (Nat.le_refl _) _, (hr.set j _).congr fun i _ => ?_⟩
  by_cases e : i = j
  · subst e; simp
  · rw [if_neg e]
    congr 1
    rw [decide_eq_decide]
    omega
theorem drop_step {w wr : World} {n i q : Nat} {S : Nat → Int} (hb : Below w.heap.size w wr) (hf : S (i * 2) ≤ q) (hr : wr.rowIs w.heap.size 4 n (fun j => .bool (!(inC S i j || (decide (S (i * 2) ≤ (j : Int)) && decide (j < q)))))) :
    Below w.heap.size w (wr.setCell ⟨w.heap.size, q, none⟩ (.bool false)) ∧ (wr.setCell ⟨w.heap.size, q, none⟩ (.bool false)).rowIs w.heap.size 4 n (fun j => .bool (!(inC S i j || (decide (S (i * 2) ≤ (j : Int)) && decide (j < q + 1))))) := by
  refine ⟨hb.setCell (Nat.le_refl _) _, (hr.set q _).congr fun j _ => ?_⟩
  by_cases e : j = q
  · subst e; simp [hf]
  · rw [if_neg e]
    have : decide (j < q) = decide (j < q + 1) := by rw [decide_eq_decide]; omega
    rw [this]
theorem drop_start {w : World} {B n i f : Nat} {S : Nat → Int} (hf : (f : Int) = S (i * 2)) (hr : w.rowIs B 4 n (fun j => .bool (!inC S i j))) : w.rowIs B 4 n (fun j => .bool (!(inC S i j || (decide (S (i * 2) ≤ (j : Int)) && decide (j < f))))) :=
  hr.congr fun j _ => by
    have : (decide (S (i * 2) ≤ (j : Int)) && decide (j < f)) = false := by
      rw [Bool.and_eq_false_iff, decide_eq_false_iff_not, decide_eq_false_iff_not]; omega
    rw [this]; simp
theorem kept_in {S : Nat → Int} {p x : Nat} (h : inC S p x = true) : kept S p (x + 1) = kept S p x := by rw [kept_succ, h]; simp
theorem kept_out {S : Nat → Int} {p x : Nat} (h : inC S p x = false) : (kept S p (x + 1)).length = (kept S p x).length + 1 := by rw [kept_succ, h]; simp
theorem drop_end {w : World} {B n i q : Nat} {S : Nat → Int} (hq : (q : Int) = S (i * 2 + 1)) (hr : w.rowIs B 4 n (fun j => .bool (!(inC S i j || (decide (S (i * 2) ≤ (j : Int)) && decide (j < q)))))) : w.rowIs B 4 n (fun j => .bool (!inC S (i + 1) j)) :=
  hr.congr fun j _ => by
    rw [inC_succ]
    have : decide (j < q) = decide ((j : Int) < S (i * 2 + 1)) := by rw [decide_eq_decide]; omega
    rw [this]

set_option maxHeartbeats 4000000 in
set_option maxRecDepth 100000 in
theorem cutlaw (a sa : Option Addr) (n c N cs : Nat) (Z S : Nat → Int) (w : World) (ha : a = none → n = 0) (hsa : sa = none → N = 0) (hB : Bts w a n Z) (hS : Sps w sa N S)
    (hn : n ≤ 1048576) (hN : N ≤ 65536) (hs : n + 16 * N ≤ 1048576) :
    Calls Try.prog 3 #[.slice a n c, .slice sa N cs] w fun e w' => e = .returned (.bool true) ∧ Below w.heap.size w w' := by
  have d1 : decide ((1048576 : Int) < n) = false := by simp; omega
  have d2 : decide ((65536 : Int) < N) = false := by simp; omega
  have d3 : decide ((1048576 : Int) < n + 16 * N) = false := by simp; omega
  go_enter Try.func3, Try.ntmps3
  go_wp2
  go_loopg [5, 6] N (fun gk v i wr => ∃ k : Nat, k ≤ N ∧ gk = N - k ∧ i = .int .i64 k ∧ v = .int .i64 (atI S k) ∧ InOrder S n k ∧ Below w.heap.size w wr)
  case atStart => exact ⟨0, Nat.zero_le _, rfl, rfl, rfl, fun i hi => by omega, Below.refl _ _⟩
  case round =>
    obtain ⟨k, hk, rfl, rfl, rfl, hO, hb⟩ := hrel
    have HO : Hid (InOrder S n k) := hO
    clear hO
    by_cases hlt : k < N
    · rcases hS with h0 | ⟨bs, off, rfl, hbl, hc⟩
      · omega
      · have g1 : wr.cell? ⟨bs, off + k * 2, none⟩ = some (.int .i64 (S (k * 2))) := (hb.cell (p := ⟨bs, off + k * 2, none⟩) hbl).trans (hc (k * 2) (by omega))
        have g1' : wr.cell? ⟨bs, off + k * 2 + 1, none⟩ = some (.int .i64 (S (k * 2 + 1))) := (hb.cell (p := ⟨bs, off + k * 2 + 1, none⟩) hbl).trans (hc (k * 2 + 1) (by omega))
        have hlt' : (k : Int) < (N : Int) := by omega
        clear hc
        by_cases t1 : S (k * 2) < atI S k
        · have u1 : decide (S (k * 2) < atI S k) = true := by simpa using t1
          go_wp2_with fail
          go_quiet (fail)
          go_wp2
          go_ret
          exact ⟨rfl, below_drewN hb _⟩
        · have u1 : decide (S (k * 2) < atI S k) = false := by simpa using t1
          by_cases t2 : S (k * 2 + 1) < S (k * 2)
          · have u2 : decide (S (k * 2 + 1) < S (k * 2)) = true := by simpa using t2
            go_wp2_with fail
            go_quiet (fail)
            go_wp2
            go_ret
            exact ⟨rfl, below_drewN hb _⟩
          · have u2 : decide (S (k * 2 + 1) < S (k * 2)) = false := by simpa using t2
            by_cases t3 : (n : Int) < S (k * 2 + 1)
            · have u3 : decide ((n : Int) < S (k * 2 + 1)) = true := by simpa using t3
              go_wp2_with fail
              go_quiet (fail)
              go_wp2
              go_ret
              exact ⟨rfl, below_drewN hb _⟩
            · have u3 : decide ((n : Int) < S (k * 2 + 1)) = false := by simpa using t3
              go_wp2_with fail
              go_quiet (fail)
              go_wp2
              go_roundg (N - (k + 1))
              case measure => omega
              case rel =>
                refine ⟨k + 1, by omega, rfl, by go_num, rfl, fun i hi => ?_, below_drewN hb _⟩
                by_cases e : i < k
                · exact HO.out i e
                · obtain rfl : i = k := by omega
                  exact ⟨by omega, by omega, by omega⟩
    · have hkn : k = N := by omega
      subst hkn
      have hB1 := hB.below hb
      have hS1 := hS.below (Nat.le_refl _) hb
      go_wp2_with fail
      refine (clone_any a n c Z wr hn ha hB1).mono ?_
      rintro e w1 ⟨a1, rfl, hb1, hC1⟩
      have hS2 := hS1.below (Nat.le_refl _) hb1
      go_wp2_with fail
      refine (cspans_any sa k cs S w1 hN hsa hS2).mono ?_
      rintro e w2 ⟨sa1, rfl, hb2, hS3⟩
      have hw2 : Below w.heap.size w w2 := (hb.trans (hb1.mono hb.size)).trans (hb2.mono (Nat.le_trans hb.size hb1.size))
      have hC2 : Cl 0 w2 a1 n Z := hC1.any.below (Nat.le_refl _) hb2
      clear hb hb1 hb2 hC1 hB hB1 hS hS1 hS2 hsa ha
      have hmk := fun w => make_zero k (by omega) w
      go_wp2
      clear hmk
      go_loopg [7, 8] k (fun gk v i wr => ∃ j : Nat, j ≤ k ∧ gk = k - j ∧ i = .int .i64 j ∧ v = .slice (some ⟨w2.heap.size, 0, none⟩) j k ∧ Below w2.heap.size w2 wr ∧
        wr.rowIs w2.heap.size 30 (k * 2) (fun i => if i < j * 2 then .int .i64 (S i) else .int .i64 0))
      case atStart => exact ⟨0, Nat.zero_le _, rfl, rfl, rfl, (Below.refl _ _).alloc (Nat.le_refl _) _, (rowIs_pairs w2 k 30).congr (fun i _ => by simp)⟩
      case round =>
        obtain ⟨j, hj, rfl, rfl, rfl, hb3, hr3⟩ := hrel
        by_cases hlt : j < k
        · rcases hS3 with h0 | ⟨bs, off, rfl, hbl, hc⟩
          · omega
          · have g1 : wr.cell? ⟨bs, off + j * 2, none⟩ = some (.int .i64 (S (j * 2))) := (hb3.cell (p := ⟨bs, off + j * 2, none⟩) hbl).trans (hc (j * 2) (by omega))
            have g1' : wr.cell? ⟨bs, off + j * 2 + 1, none⟩ = some (.int .i64 (S (j * 2 + 1))) := (hb3.cell (p := ⟨bs, off + j * 2 + 1, none⟩) hbl).trans (hc (j * 2 + 1) (by omega))
            have g2 : wr.cell? ⟨w2.heap.size, j * 2, none⟩ = some (.int .i64 0) := by have := hr3.cell (i := j * 2) (by omega); simpa using this
            have g2' : wr.cell? ⟨w2.heap.size, j * 2 + 1, none⟩ = some (.int .i64 0) := by have := hr3.cell (i := j * 2 + 1) (by omega); simpa [show ¬ j * 2 + 1 < j * 2 by omega] using this
            have g3 : wr.frozen? ⟨w2.heap.size, j * 2, none⟩ = false := hr3.frozen _
            have g3' : wr.frozen? ⟨w2.heap.size, j * 2 + 1, none⟩ = false := hr3.frozen _
            have hlt' : (j : Int) < (k : Int) := by omega
            have hwl : w2.heap.size < wr.heap.size := hr3.lt
            clear hc
            go_wp2_with fail
            go_region_with (go_at_call 10; refine (mkspan_any _ _ _).mono ?_; rintro e w' ⟨rfl, rfl⟩)
            all_goals go_wp2
            all_goals
              go_roundg (k - (j + 1))
              case measure => omega
              case rel =>
                obtain ⟨s1, s2⟩ := spans_step (S := S) hb3 hr3
                exact ⟨j + 1, by omega, rfl, by go_num, rfl, s1, s2⟩
        · have hjk : j = k := by omega
          subst hjk
          obtain ⟨w3, rfl⟩ : ∃ w3 : World, w3 = wr := ⟨_, rfl⟩
          have hC3 : Cl 0 w3 a1 n Z := hC2.below (Nat.le_refl _) hb3
          have hS4 : Sps w3 sa1 j S := hS3.below (Nat.le_refl _) hb3
          have hSp : Sps w3 (some ⟨w2.heap.size, 0, none⟩) j S := spans_whole hr3
          have hw3 : Below w.heap.size w w3 := hw2.trans (hb3.mono hw2.size)
          clear hr3 hb3 hC2 hS3 hw2
          go_wp2_with fail
          refine (zcut_any a1 0 n j j (some ⟨w2.heap.size, 0, none⟩) Z S w3 hn hN hC3 hSp HO).mono ?_
          rintro e w4 ⟨rfl, hb4, hz4, hG0⟩
          have hG : Hid (∀ m (hm : m < (kept S j n).length), w4.cell? ⟨w3.heap.size, m, none⟩ = some (.int .u8 (Z (kept S j n)[m]))) := hG0
          have hC4 : Cl 0 w4 a1 n Z := hC3.below (Nat.le_refl _) hb4
          have hS5 : Sps w4 sa1 j S := hS4.below (Nat.le_refl _) hb4
          have hw4 : Below w.heap.size w w4 := hw3.trans (hb4.mono hw3.size)
          clear hG0 hC3 hS4 hSp hw3 hb4
          have hmk := run_make_row' (P := Try.prog) 33 4 (.bool false) 1 Try.underlying33 info4 rfl .i64 .i64 n (by omega) (by omega)
          go_wp2
          clear hmk
          go_loopg [11] n (fun gk i wr => ∃ q : Nat, q ≤ n ∧ gk = n - q ∧ i = .int .i64 q ∧ Below w4.heap.size w4 wr ∧ wr.rowIs w4.heap.size 4 n (fun i => .bool (decide (i < q))))
          case atStart => exact ⟨0, Nat.zero_le _, rfl, rfl, (Below.refl _ _).alloc (Nat.le_refl _) _, (World.rowIs_made w4 (.bool false) n 4).congr (fun i _ => by simp)⟩
          case round =>
            obtain ⟨q, hq, rfl, rfl, hb5, hr5⟩ := hrel
            by_cases hlt : q < n
            · have g2 : wr.cell? ⟨w4.heap.size, q, none⟩ = some (.bool false) := by have := hr5.cell hlt; simpa using this
              have g3 : wr.frozen? ⟨w4.heap.size, q, none⟩ = false := hr5.frozen _
              go_wp2
              go_roundg (n - (q + 1))
              case measure => omega
              case rel =>
                obtain ⟨s1, s2⟩ := keep_step hb5 hr5
                exact ⟨q + 1, by omega, rfl, by go_num, s1, s2⟩
            · have hqn : q = n := by omega
              subst hqn
              have hr6 : wr.rowIs w4.heap.size 4 q (fun i => .bool (!inC S 0 i)) := hr5.congr fun i hi => by simp [hi, inC_zero]
              clear hr5
              go_wp2
              go_loopg [12] j (fun gk i wr => ∃ p : Nat, p ≤ j ∧ gk = j - p ∧ i = .int .i64 p ∧ Below w4.heap.size w4 wr ∧ wr.rowIs w4.heap.size 4 q (fun i => .bool (!inC S p i)))
              case atStart => exact ⟨0, Nat.zero_le _, rfl, rfl, hb5, hr6⟩
              case round =>
                obtain ⟨p, hp, rfl, rfl, hb6, hr7⟩ := hrel
                clear hr6 hb5
                by_cases hlt : p < j
                · obtain ⟨o1, o2, o3⟩ := HO.out p hlt
                  obtain ⟨p0, pn⟩ := atI_nonneg HO.out p hp
                  rcases hS5 with h0 | ⟨bs, off, rfl, hbl, hc⟩
                  · omega
                  · have g1 : wr.cell? ⟨bs, off + p * 2, none⟩ = some (.int .i64 (S (p * 2))) := (hb6.cell (p := ⟨bs, off + p * 2, none⟩) hbl).trans (hc (p * 2) (by omega))
                    go_wp2
                    obtain ⟨f, hf⟩ := Int.eq_ofNat_of_zero_le (show 0 ≤ S (p * 2) by omega)
                    obtain ⟨t, ht⟩ := Int.eq_ofNat_of_zero_le (show 0 ≤ S (p * 2 + 1) by omega)
                    have HF : Hid (S (p * 2) = f) := hf
                    have HT : Hid (S (p * 2 + 1) = t) := ht
                    have hr8 := drop_start (f := f) hf.symm hr7
                    clear hr7 g1
                    go_loopg [13] (t - f) (fun gk i wr => ∃ x : Nat, f ≤ x ∧ x ≤ t ∧ gk = t - x ∧ i = .int .i64 x ∧ Below w4.heap.size w4 wr ∧
                      wr.rowIs w4.heap.size 4 q (fun j => .bool (!(inC S p j || (decide (S (p * 2) ≤ (j : Int)) && decide (j < x))))))
                    case atStart => exact ⟨f, Nat.le_refl _, by omega, rfl, by rw [← hf], hb6, hr8⟩
                    case round =>
                      obtain ⟨x, hfx, hxt, rfl, rfl, hb7, hr9⟩ := hrel
                      clear hr8
                      have g1' : wr.cell? ⟨bs, off + p * 2 + 1, none⟩ = some (.int .i64 t) := by rw [← ht]; exact (hb7.cell (p := ⟨bs, off + p * 2 + 1, none⟩) hbl).trans (hc (p * 2 + 1) (by omega))
                      have htq : t ≤ q := by omega
                      by_cases hlt : x < t
                      · have g2 : wr.cell? ⟨w4.heap.size, x, none⟩ = some (.bool (!(inC S p x || (decide (S (p * 2) ≤ (x : Int)) && decide (x < x))))) := hr9.cell (by omega)
                        have g3 : wr.frozen? ⟨w4.heap.size, x, none⟩ = false := hr9.frozen _
                        clear hf ht hc
                        go_wp2
                        go_roundg (t - (x + 1))
                        case measure => omega
                        case rel =>
                          obtain ⟨s1, s2⟩ := drop_step hb7 (by rw [HF.out]; omega) hr9
                          exact ⟨x + 1, by omega, by omega, rfl, by go_num, s1, s2⟩
                      · have hxt' : x = t := by omega
                        subst hxt'
                        have hr10 := drop_end ht.symm hr9
                        clear hf ht hc hr9
                        go_wp2
                        go_roundg (j - (p + 1))
                        case measure => omega
                        case rel => exact ⟨p + 1, by omega, rfl, by go_num, hb7, hr10⟩
                · have hpj : p = j := by omega
                  subst hpj
                  obtain ⟨w5, rfl⟩ : ∃ w5 : World, w5 = wr := ⟨_, rfl⟩
                  have hC5 : Cl 0 w5 a1 q Z := hC4.below (Nat.le_refl _) hb6
                  have hw5 : Below w.heap.size w w5 := hw4.trans (hb6.mono hw4.size)
                  have hG5 : Hid (∀ m (hm : m < (kept S p q).length), w5.cell? ⟨w3.heap.size, m, none⟩ = some (.int .u8 (Z (kept S p q)[m]))) := fun m hm => (hb6.cell (p := ⟨w3.heap.size, m, none⟩) hz4).trans (hG.out m hm)
                  have hK5 : Hid (∀ i, i < q → w5.cell? ⟨w4.heap.size, i, none⟩ = some (.bool (!inC S p i))) := fun i hi => hr7.cell hi
                  have hz5 : w4.heap.size < w5.heap.size := hr7.lt
                  have hz6 : w3.heap.size < w5.heap.size := by omega
                  clear hC4 hw4 hG hr7 hb6 hS5
                  go_wp2
                  go_loopg [14, 15] q (fun gk m i wr => ∃ x : Nat, x ≤ q ∧ gk = q - x ∧ i = .int .i64 x ∧ m = .int .i64 (kept S p x).length ∧ Below w5.heap.size w5 wr)
                  case atStart => exact ⟨0, Nat.zero_le _, rfl, rfl, rfl, Below.refl _ _⟩
                  case round =>
                    obtain ⟨x, hx, rfl, rfl, rfl, hb7⟩ := hrel
                    have hl := kept_le S p x
                    by_cases hlt : x < q
                    · have hc0 := (hb7.cell (p := ⟨w4.heap.size, x, none⟩) hz5).trans (hK5.out x hlt)
                      cases hin : inC S p x with
                      | true =>
                        have g2 : wr.cell? ⟨w4.heap.size, x, none⟩ = some (.bool false) := by rw [hc0, hin]; rfl
                        have HK : Hid (kept S p (x + 1) = kept S p x) := kept_in hin
                        clear hc0 hin
                        go_wp2
                        go_roundg (q - (x + 1))
                        case measure => omega
                        case rel => exact ⟨x + 1, by omega, rfl, by go_num, by rw [HK.out], hb7⟩
                      | false =>
                        have g2 : wr.cell? ⟨w4.heap.size, x, none⟩ = some (.bool true) := by rw [hc0, hin]; rfl
                        have HK : Hid ((kept S p (x + 1)).length = (kept S p x).length + 1) := kept_out hin
                        have hkl := kept_lt hlt hin
                        have hkg := kept_get hlt hin
                        rw [List.getElem?_eq_getElem hkl, Option.some.injEq] at hkg
                        have g4 : wr.cell? ⟨w3.heap.size, (kept S p x).length, none⟩ = some (.int .u8 (Z x)) := by
                          rw [(hb7.cell (p := ⟨w3.heap.size, (kept S p x).length, none⟩) hz6), hG5.out _ hkl, hkg]
                        rcases hC5 with ⟨_, h0⟩ | ⟨gd, rfl, _, hgd, hcd⟩
                        · omega
                        · have g5 : wr.cell? ⟨gd, x, none⟩ = some (.int .u8 (Z x)) := (hb7.cell (p := ⟨gd, x, none⟩) hgd).trans (hcd x hlt)
                          have u1 : decide (((kept S p q).length : Int) ≤ ((kept S p x).length : Int)) = false := by simp; omega
                          have hlt' : (x : Int) < (q : Int) := by omega
                          have hkl' : ((kept S p x).length : Int) < ((kept S p q).length : Int) := by omega
                          clear hc0 hin hkg hcd
                          go_wp2_with fail
                          go_quiet (fail)
                          go_wp2
                          go_roundg (q - (x + 1))
                          case measure => omega
                          case rel => exact ⟨x + 1, by omega, rfl, by go_num, by rw [HK.out]; go_num, below_drewN hb7 _⟩
                    · have hxq : x = q := by omega
                      subst hxq
                      go_wp2
                      go_ret
                      exact ⟨by simp, hw5.trans (hb7.mono hw5.size)⟩
end Go.Proofs.Qxb6605296a
