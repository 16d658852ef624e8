/-
  THE CALLEES OF 'FnCutKeepsExactlyTheBytesOutsideTheSpans', each in ONE form for a nil and another argument: 'cloneBytes' (8), 'cloneSpans' (9), 'ZZCut' (11).
-/
import Derived.Test.Qxb6605296aCut
namespace Go.Proofs.Qxb6605296a
open Go.RowKit

/-- A CLONE of n bytes: nil, or a row of its own from block B on. -/
def Cl (B : Nat) (w : World) (a : Option Addr) (n : Nat) (Z : Nat → Int) : Prop :=
  (a = none ∧ n = 0) ∨ ∃ g, a = some ⟨g, 0, none⟩ ∧ B ≤ g ∧ g < w.heap.size ∧ ∀ i, i < n → w.cell? ⟨g, i, none⟩ = some (.int .u8 (Z i))

theorem Cl.below {B C : Nat} {w w' : World} {a : Option Addr} {n : Nat} {Z : Nat → Int} (h : Cl B w a n Z) (hC : w.heap.size ≤ C) (hb : Below C w w') : Cl B w' a n Z := by
  rcases h with h | ⟨g, rfl, hB, hlt, h⟩
  · exact .inl h
  · exact .inr ⟨g, rfl, hB, Nat.lt_of_lt_of_le hlt hb.size, fun i hi => by rw [hb.cell (p := ⟨g, i, none⟩) (Nat.lt_of_lt_of_le hlt hC)]; exact h i hi⟩
theorem Cl.bts {B : Nat} {w : World} {a : Option Addr} {n : Nat} {Z : Nat → Int} (h : Cl B w a n Z) : Bts w a n Z := by
  rcases h with ⟨_, h⟩ | ⟨g, rfl, hB, hlt, h⟩
  · exact .inl h
  · exact .inr ⟨g, 0, rfl, hlt, fun i hi => by simpa using h i hi⟩
theorem Sps.below {w w' : World} {a : Option Addr} {n : Nat} {S : Nat → Int} (h : Sps w a n S) {C : Nat} (hC : w.heap.size ≤ C) (hb : Below C w w') : Sps w' a n S := by
  rcases h with h | ⟨b, off, rfl, hlt, h⟩
  · exact .inl h
  · exact .inr ⟨b, off, rfl, Nat.lt_of_lt_of_le hlt hb.size, fun i hi => by rw [hb.cell (p := ⟨b, off + i, none⟩) (Nat.lt_of_lt_of_le hlt hC)]; exact h i hi⟩

theorem clone_any (a : Option Addr) (n c : Nat) (Z : Nat → Int) (w : World) (hn : n ≤ 1048576) (ha : a = none → n = 0) (hB : Bts w a n Z) :
    Calls Try.prog 8 #[.slice a n c] w fun e w' => ∃ a', e = .returned (.slice a' n n) ∧ Below w.heap.size w w' ∧ Cl w.heap.size w' a' n Z := by
  cases a with
  | none =>
    obtain rfl := ha rfl
    refine (clone_nil 0 c w).mono ?_
    rintro e w' ⟨rfl, rfl⟩
    exact ⟨none, rfl, Below.refl _ _, .inl ⟨rfl, rfl⟩⟩
  | some x =>
    refine (clone_some x n c Z w hn hB).mono ?_
    rintro e w' ⟨rfl, hb, hr⟩
    exact ⟨_, rfl, hb, .inr ⟨_, rfl, Nat.le_refl _, hr.lt, fun i hi => hr.cell hi⟩⟩

theorem cspans_any (a : Option Addr) (n c : Nat) (S : Nat → Int) (w : World) (hn : n ≤ 65536) (ha : a = none → n = 0) (hB : Sps w a n S) :
    Calls Try.prog 9 #[.slice a n c] w fun e w' => ∃ a', e = .returned (.slice a' n n) ∧ Below w.heap.size w w' ∧ Sps w' a' n S := by
  cases a with
  | none =>
    obtain rfl := ha rfl
    refine (cspans_nil 0 c w).mono ?_
    rintro e w' ⟨rfl, rfl⟩
    exact ⟨none, rfl, Below.refl _ _, .inl rfl⟩
  | some x =>
    refine (cspans_some x n c S w hn hB).mono ?_
    rintro e w' ⟨rfl, hb, hr⟩
    exact ⟨_, rfl, hb, .inr ⟨_, 0, rfl, hr.lt, fun i hi => by simpa using hr.cell hi⟩⟩

/-- what an owned row's cells read -/
theorem own_cells {w : World} {B n : Nat} {Z : Nat → Int} {l : List Nat} (h : w.ownsRow B 5 1 (.slice (some ⟨B, 0, none⟩) l.length n) l.length (vals Z l)) :
    ∀ m (hm : m < l.length), w.cell? ⟨B, m, none⟩ = some (.int .u8 (Z l[m])) := by
  intro m hm
  obtain ⟨_, h | ⟨g, cap, cur, hv, _, hh, h1, _, h3, h4⟩⟩ := h
  · cases h.1
  · simp only [Value.slice.injEq, Option.some.injEq, Addr.mk.injEq] at hv
    obtain ⟨⟨rfl, _⟩, _, rfl⟩ := hv
    have h5 : (cur.toList.take (l.length * 1))[m]? = (vals Z l)[m]? := by rw [h4]
    rw [List.getElem?_take_of_lt (by omega)] at h5
    simp only [World.cell?, hh, Option.isSome_none, Bool.false_eq_true, if_false]
    rw [← Array.getElem?_toList, h5]
    simp [vals, hm]

theorem cut_any (a : Option Addr) (B n N cs : Nat) (sa : Option Addr) (Z S : Nat → Int) (w : World) (hn : n ≤ 1048576) (hN : N ≤ 65536) (hC : Cl B w a n Z) (hS : Sps w sa N S) (hO : Hid (InOrder S n N)) :
    Calls Try.prog 23 #[.slice a n n, .slice sa N cs] w fun e w' => e = .returned (.slice (some ⟨w.heap.size, 0, none⟩) (kept S N n).length n) ∧ Below w.heap.size w w' ∧ w.heap.size < w'.heap.size ∧
      ∀ m (hm : m < (kept S N n).length), w'.cell? ⟨w.heap.size, m, none⟩ = some (.int .u8 (Z (kept S N n)[m])) := by
  rcases hC with ⟨rfl, rfl⟩ | ⟨g, rfl, _, hlt, hc⟩
  · have e0 : kept S N 0 = [] := List.eq_nil_of_length_eq_zero (by have := kept_le S N 0; omega)
    rw [e0]
    refine (cut_nil N cs sa S w hN hS hO).mono ?_
    rintro e w' ⟨rfl, hb, hlt⟩
    exact ⟨rfl, hb, hlt, fun m hm => by simp at hm⟩
  · refine (cut_some g n N cs sa Z S w hn hN hlt hc hS hO).mono ?_
    rintro e w' ⟨rfl, hb, ho⟩
    exact ⟨rfl, hb, own_lt ho, own_cells ho⟩

set_option maxHeartbeats 400000 in
theorem zcut_any (a : Option Addr) (B n N cs : Nat) (sa : Option Addr) (Z S : Nat → Int) (w : World) (hn : n ≤ 1048576) (hN : N ≤ 65536) (hC : Cl B w a n Z) (hS : Sps w sa N S) (hO : Hid (InOrder S n N)) :
    Calls Try.prog 11 #[.slice a n n, .slice sa N cs] w fun e w' => e = .returned (.slice (some ⟨w.heap.size, 0, none⟩) (kept S N n).length n) ∧ Below w.heap.size w w' ∧ w.heap.size < w'.heap.size ∧
      ∀ m (hm : m < (kept S N n).length), w'.cell? ⟨w.heap.size, m, none⟩ = some (.int .u8 (Z (kept S N n)[m])) := by
  go_enter Try.func11, Try.ntmps11
  go_wp2_with fail
  refine (cut_any a B n N cs sa Z S w hn hN hC hS hO).mono ?_
  rintro e w1 ⟨rfl, hq⟩
  go_wp2
  go_ret
  exact ⟨rfl, hq⟩
end Go.Proofs.Qxb6605296a
