/-
  THE ARGUMENTS of the four laws over bytes, as the walks want them; 'cloneBytes' in one form; the sizes' guard.
-/
import Derived.Test.Qxb6605296aClone
import Derived.ProofKit
import Derived.OpenShut
import Derived.ShutString
import Derived.ChangeOld
namespace Go.Proofs.Qxb6605296a
open Go.ChangeShapes Go.WideShapes Go.ChangeAt Go.RowKit

theorem own : ownKnob Try.prog.godebug = none := by kernel_rfl
theorem laidOut : laidOutB Try.prog = true := by kernel_rfl

/-- a slice of bytes that came in -/
theorem arg_bytes {H : Type} {enc : TypeId × Value → H} {W : World} {a : Option Addr} {len cap : Nat} {d : DataW H} {p : List MemPlace}
    (h : DataW.Trod enc Try.prog W 0 (fun _ => true) true 22 (.slice a len cap) d p) : ∃ Z, (a = none → len = 0) ∧ Bts W a len Z ∧ len ≤ maxLen ∧ ∀ i, 0 ≤ Z i ∧ Z i ≤ 255 := by
  obtain ⟨fuel, hf⟩ := h
  rcases open_ints Try.underlying22 Try.underlying5 (by kernel_rfl) hf with ⟨hcs, _⟩ | ⟨x, l, c, zs, hcs, _, hl, hm, hz, _, hcell, hwz⟩
  · simp [Value.cells] at hcs
    obtain ⟨rfl, rfl, rfl⟩ := hcs
    exact ⟨fun _ => 0, fun _ => rfl, .inl rfl, Nat.zero_le _, fun _ => ⟨Int.le_refl _, by show (0 : Int) ≤ 255; decide⟩⟩
  · simp [Value.cells] at hcs
    obtain ⟨rfl, rfl, rfl⟩ := hcs
    simp at hz
    refine ⟨fun i => zs.getD i 0, (fun h => by cases h), ?_, by omega, fun i => ?_⟩
    · by_cases h0 : len = 0
      · exact .inl h0
      · obtain ⟨b, off, spot⟩ := x
        have hspot : spot = none := by simpa [Addr.add] using World.cell?_spot (hcell 0 (by omega))
        subst hspot
        have hc : ∀ i, i < len → W.cell? ⟨b, off + i, none⟩ = some (.int .u8 (zs.getD i 0)) := fun i hi => by rw [← Addr.add_lit]; exact hcell i (by omega)
        exact .inr ⟨b, off, rfl, World.block_lt_of_cell? _ _ (hc 0 (by omega)), hc⟩
    · by_cases hi : i < zs.length
      · have := bounds_u8 (hwz (zs[i]) (List.getElem_mem hi))
        simpa [List.getD, hi] using this
      · simp [List.getD, hi]

/-- 'cloneBytes', nil or not: the clone is nil or lies in a block of its own -/
theorem clone_bts (a : Option Addr) (n c : Nat) (Z : Nat → Int) (w : World) (hn : n ≤ 1048576) (ha : a = none → n = 0) (hB : Bts w a n Z) :
    Calls Try.prog 8 #[.slice a n c] w fun e w' => ∃ a', e = .returned (.slice a' n n) ∧ Below w.heap.size w w' ∧ Bts w' a' n Z := by
  cases a with
  | none =>
    obtain rfl := ha rfl
    refine (clone_nil 0 c w).mono ?_
    rintro e w' ⟨rfl, rfl⟩
    exact ⟨none, rfl, Below.refl _ _, .inl rfl⟩
  | some x =>
    refine (clone_some x n c Z w hn hB).mono ?_
    rintro e w' ⟨rfl, hb, hr⟩
    exact ⟨_, rfl, hb, Bts.of_row hr⟩
end Go.Proofs.Qxb6605296a
