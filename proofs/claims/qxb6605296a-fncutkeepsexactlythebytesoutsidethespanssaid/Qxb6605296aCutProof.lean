/-
  THE PROOF OF 'Rows.FnCutKeepsExactlyTheBytesOutsideTheSpansSaid': the guide's frame at function 3, over the walk 'cutlaw'.
-/
import Derived.Test.Qxb6605296aCutLaw
import Derived.ProofKit
import Derived.OpenShut
import Derived.ShutString
import Derived.ChangeOld
import Derived.Deep.SlicePairs
namespace Go.Proofs.Qxb6605296a.fnCut
open Go.ChangeShapes Go.WideShapes Go.ChangeAt Go.RowKit
set_option linter.unusedVariables false

theorem own : ownKnob Try.prog.godebug = none := by kernel_rfl
theorem laidOut : laidOutB Try.prog = true := by kernel_rfl
theorem cells25 : Try.prog.cellsOf 25 = 2 := by kernel_rfl
theorem cells3 : Try.prog.cellsOf 3 = 1 := by kernel_rfl

set_option maxHeartbeats 1000000 in
set_option maxRecDepth 100000 in
theorem walk (a sa : Option Addr) (n c N cs : Nat) (Z S : Nat → Int) (w : World) (ha : a = none → n = 0) (hsa : sa = none → N = 0) (hB : Bts w a n Z) (hS : Sps w sa N S) (hn : n ≤ maxLen) (hN : N ≤ maxLen) :
    Calls Try.prog 3 #[.slice a n c, .slice sa N cs] w fun e w' => e = .returned (.bool true) ∧ Below w.heap.size w w' := by
  unfold maxLen at hn hN
  by_cases h1 : n ≤ 1048576
  · by_cases h2 : N ≤ 65536
    · by_cases h3 : n + 16 * N ≤ 1048576
      · exact cutlaw a sa n c N cs Z S w ha hsa hB hS h1 h2 h3
      · have d1 : decide ((1048576 : Int) < n) = false := by simp; omega
        have d2 : decide ((65536 : Int) < N) = false := by simp; omega
        have d3 : decide ((1048576 : Int) < n + 16 * N) = true := by simp; omega
        go_enter Try.func3, Try.ntmps3
        go_wp2
        go_ret
        exact ⟨rfl, Below.refl _ _⟩
    · have d1 : decide ((1048576 : Int) < n) = false := by simp; omega
      have d2 : decide ((65536 : Int) < N) = true := by simp; omega
      go_enter Try.func3, Try.ntmps3
      go_wp2
      go_ret
      exact ⟨rfl, Below.refl _ _⟩
  · have d1 : decide ((1048576 : Int) < n) = true := by simp; omega
    go_enter Try.func3, Try.ntmps3
    go_wp2
    go_ret
    exact ⟨rfl, Below.refl _ _⟩

/-- a slice of bytes that came in, as the walk wants it -/
theorem bts_of {H : Type} {enc : TypeId × Value → H} {W : World} {a : Option Addr} {len cap : Nat} {d : DataW H} {p : List MemPlace}
    (h : DataW.Trod enc Try.prog W 0 (fun _ => true) true 22 (.slice a len cap) d p) : ∃ Z, (a = none → len = 0) ∧ Bts W a len Z ∧ len ≤ maxLen := by
  obtain ⟨fuel, hf⟩ := h
  rcases open_ints Try.underlying22 Try.underlying5 (by kernel_rfl) hf with ⟨hcs, _⟩ | ⟨x, l, c, zs, hcs, _, hl, hm, hz, _, hcell, hwz⟩
  · simp [Value.cells] at hcs
    obtain ⟨rfl, rfl, rfl⟩ := hcs
    exact ⟨fun _ => 0, fun _ => rfl, .inl rfl, Nat.zero_le _⟩
  · simp [Value.cells] at hcs
    obtain ⟨rfl, rfl, rfl⟩ := hcs
    simp at hz
    refine ⟨fun i => zs.getD i 0, (fun h => by cases h), ?_, by omega⟩
    by_cases h0 : len = 0
    · exact .inl h0
    · obtain ⟨b, off, spot⟩ := x
      have hspot : spot = none := by simpa [Addr.add] using World.cell?_spot (hcell 0 (by omega))
      subst hspot
      have hc : ∀ i, i < len → W.cell? ⟨b, off + i, none⟩ = some (.int .u8 (zs.getD i 0)) := fun i hi => by rw [← Addr.add_lit]; exact hcell i (by omega)
      exact .inr ⟨b, off, rfl, World.block_lt_of_cell? _ _ (hc 0 (by omega)), hc⟩

/-- a slice of spans that came in -/
theorem sps_of {H : Type} {enc : TypeId × Value → H} {W : World} {a : Option Addr} {len cap : Nat} {d : DataW H} {p : List MemPlace}
    (h : DataW.Trod enc Try.prog W 0 (fun _ => true) true 23 (.slice a len cap) d p) : ∃ S, (a = none → len = 0) ∧ Sps W a len S ∧ len ≤ maxLen := by
  obtain ⟨fuel, hf⟩ := h
  rcases Go.Deep.open_slice_pairs Try.underlying23 Try.underlying25 cells25 rfl rfl cells3 cells3 hf with ⟨hcs, _⟩ | ⟨x, l, c, m, n, V0, V1, D0, D1, P0, P1, hcs, _, hl, hm, hmm, _, hcell⟩
  · simp [Value.cells] at hcs
    obtain ⟨rfl, rfl, rfl⟩ := hcs
    exact ⟨fun _ => 0, fun _ => rfl, .inl rfl, Nat.zero_le _⟩
  · simp [Value.cells] at hcs
    obtain ⟨rfl, rfl, rfl⟩ := hcs
    simp at hmm
    subst hmm
    refine ⟨fun i => if i % 2 = 0 then intOf (V0 (i / 2)) else intOf (V1 (i / 2)), (fun h => by cases h), ?_, by omega⟩
    by_cases h0 : len = 0
    · exact .inl h0
    · obtain ⟨b, off, spot⟩ := x
      have hspot : spot = none := by simpa [Addr.add] using World.cell?_spot (hcell 0 (by omega)).1
      subst hspot
      have hc : ∀ i, i < len * 2 → W.cell? ⟨b, off + i, none⟩ = some (.int .i64 (if i % 2 = 0 then intOf (V0 (i / 2)) else intOf (V1 (i / 2)))) := fun i hi => by
        obtain ⟨q0, q1, q2, q3⟩ := hcell (i / 2) (by omega)
        obtain ⟨z0, e0, _⟩ := DataW.trod_int Try.underlying3 q2
        obtain ⟨z1, e1, _⟩ := DataW.trod_int Try.underlying3 q3
        simp at e0 e1
        rw [Addr.add_lit] at q0 q1
        by_cases hp : i % 2 = 0
        · rw [if_pos hp, e0]
          rw [show i / 2 * 2 = i by omega, e0] at q0
          exact q0
        · rw [if_neg hp, e1]
          rw [show i / 2 * 2 + 1 = i by omega, e1] at q1
          exact q1
      exact .inr ⟨b, off, rfl, World.block_lt_of_cell? _ _ (hc 0 (by omega)), hc⟩

set_option maxRecDepth 100000 in
theorem lifted (os : Os) (started : os.Started) (H : Type) (enc : TypeId × Value → H) :
    ReturnsInHanded {} Try.checked os 3 .any (Rows.fnCutKeepsExactlyTheBytesOutsideTheSpansSpec.pre6 enc Try.prog Try.f3 Rows.fnCutKeepsExactlyTheBytesOutsideTheSpansRow.domain false) (Rows.fnCutKeepsExactlyTheBytesOutsideTheSpansSpec.post enc Try.prog Try.f3 false true false false) := by
  refine returnsInHanded_of_change (C := Try.checked) own started (by kernel_rfl) Try.func3
    (ChangeSpec.witness6 (enc := enc) (C := Try.checked) false ⟨#[], #[.slice none 0 0, .slice none 0 0], []⟩ 8 (by kernel_rfl) (by kernel_rfl) (by kernel_rfl) (by kernel_rfl)) ?_
  intro W base args ds gs before hval0 hW hcnd _
  have hval : ∀ (j : Nat) t v, Try.f3.params[j]? = some t → args[j]? = some v → Value.okWide Try.prog W .any base t v := hval0
  have hW' := hW
  obtain ⟨p, q, hA0, hV, rfl, hfz, hnd⟩ := hW
  have hA : DataW.TrodAll enc Try.prog W 0 (fun _ => true) true Try.f3.params.toList args.toList ds p := hA0
  rw [Try.params3] at hA hval
  obtain ⟨v0, vs0, d0, ds0, p0, q0, hargs, rfl, rfl, h0, r0⟩ := trodAll_cons hA
  obtain ⟨v1, vs1, d1, ds1, p1, q1, rfl, rfl, rfl, h1, r1⟩ := trodAll_cons r0
  obtain ⟨rfl, rfl, rfl⟩ := trodAll_nil r1
  obtain rfl : args = #[v0, v1] := by cases args; simp_all
  obtain ⟨rfl, rfl⟩ := trodVars_none hV
  obtain ⟨a0, len0, cap0, rfl⟩ := okWide_slice Try.underlying22 (hval 0 22 v0 rfl rfl)
  have lt0 : ∀ x ∈ p0, x.block < W.heap.size := by obtain ⟨m, hm⟩ := h0; exact DataW.trod_lt m _ _ _ hm
  obtain ⟨Z, ha, hB, hl0⟩ := bts_of h0
  obtain ⟨a1, len1, cap1, rfl⟩ := okWide_slice Try.underlying23 (hval 1 23 v1 rfl rfl)
  have lt1 : ∀ x ∈ p1, x.block < W.heap.size := by obtain ⟨m, hm⟩ := h1; exact DataW.trod_lt m _ _ _ hm
  obtain ⟨S, hsa, hS, hl1⟩ := sps_of h1
  clear hA0 hval0
  refine (walk a0 a1 len0 cap0 len1 cap1 Z S W ha hsa hB hS hl0 hl1).mono fun e W' ⟨he, bel⟩ => ?_
  subst he
  exact ⟨_, rfl, _, _, _, [], _, [], hW', trodAll_mk1 (shut_bool Try.underlying4 _), (trodAll_cons_mk (Below.trod laidOut (by kernel_rfl) (of_decide_eq_true (by kernel_rfl)) h0 bel lt0) (trodAll_cons_mk (Below.trod laidOut (by kernel_rfl) (of_decide_eq_true (by kernel_rfl)) h1 bel lt1) trodAll_mk0)), rfl, bel.frame _, fun h => by cases h⟩

theorem over : Rows.fnCutKeepsExactlyTheBytesOutsideTheSpansRow.holds Try.pinned (OpenSpec.ofChange Rows.fnCutKeepsExactlyTheBytesOutsideTheSpansSpec) :=
  OpenClaim.holds_of_wide 3 Try.f3 rfl rfl rfl rfl rfl rfl rfl ⟨rfl, rfl, rfl, rfl, rfl⟩ rfl rfl rfl rfl rfl (by kernel_rfl) Try.func3 (by kernel_rfl)
    (of_decide_eq_true (by kernel_rfl)) (by unfold Func.isWrapper; first | (rw [if_pos (by decide +kernel)]; kernel_rfl) | (rw [if_neg (by decide +kernel)]; exact ⟨rfl, rfl⟩))
    (fun os started H enc _ => lifted os started H enc)

/-- THE STATEMENT -/
theorem proved : Rows.FnCutKeepsExactlyTheBytesOutsideTheSpansSaid := over
end Go.Proofs.Qxb6605296a.fnCut
