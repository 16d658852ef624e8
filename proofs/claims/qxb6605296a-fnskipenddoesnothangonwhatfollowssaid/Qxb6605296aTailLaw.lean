/-
  THE WALK OF 'FnSkipEndDoesNotHangOnWhatFollows' (7).
-/
import Derived.Test.Qxb6605296aEncLaw
import Derived.Test.Qxb6605296aSkipModel
import Derived.Test.Qxb6605296aTailPlain
namespace Go.Proofs.Qxb6605296a
open Go.RowKit

theorem zmodel_at (a : Option Addr) (n c p : Nat) (Z : Nat → Int) (w : World) (hn : n ≤ 1048576) (hp : p ≤ 9223372036854775807) (hB : Bts w a n Z) {ok : Bool} {q : Nat} (hX : skipP n Z p = (ok, q)) :
    Calls Try.prog 19 #[.slice a n c, .int .i64 p] w fun e w' => e = .returned (.tuple #[.bool ok, .int .i64 q]) ∧ w = w' := by
  have := skipModel_any a n c p Z w hn hp hB
  rw [hX] at this
  exact this.mono fun e w' ⟨h1, h2⟩ => ⟨h1, h2.symm⟩
theorem zskip_at (a : Option Addr) (n c p : Nat) (Z : Nat → Int) (w : World) (hn : n ≤ 1048576) (hB : Bts w a n Z) {ok : Bool} {q : Nat} (hX : skipP n Z p = (ok, q)) :
    Calls Try.prog 17 #[.slice a n c, .int .i64 p] w fun e w' => e = .returned (.tuple #[.bool ok, .int .i64 q]) ∧ Below w.heap.size w w' := by
  have := zskip_any a n c p Z w hn hB
  rw [hX] at this
  exact this

theorem jspace_any' (x : Int) (w : World) : Calls Try.prog 21 #[.int .u8 x] w fun e w' => e = .returned (.bool (spB x)) ∧ w = w' := (jspace_any x w).mono fun _ _ ⟨h1, h2⟩ => ⟨h1, h2.symm⟩
theorem vend_any' (x : Int) (w : World) : Calls Try.prog 22 #[.int .u8 x] w fun e w' => e = .returned (.bool (dlB x)) ∧ w = w' := (vend_any x w).mono fun _ _ ⟨h1, h2⟩ => ⟨h1, h2.symm⟩

/-- what may open behind the value -/
def EndOk (Z Y : Nat → Int) (p m : Nat) : Prop := (Z p = 34 ∨ Z p = 123 ∨ Z p = 91) ∨ m = 0 ∨ (spB (Y 0) || dlB (Y 0)) = true

theorem tail_cases {w : World} {a2 : Option Addr} {m p : Nat} {Z Y : Nat → Int} (h : Bts w a2 m Y) :
    ((Z p != 34) = false ∧ Hid (EndOk Z Y p m)) ∨ ((Z p != 34) = true ∧ (Z p != 123) = false ∧ Hid (EndOk Z Y p m)) ∨ ((Z p != 34) = true ∧ (Z p != 123) = true ∧ (Z p != 91) = false ∧ Hid (EndOk Z Y p m)) ∨
    ((Z p != 34) = true ∧ (Z p != 123) = true ∧ (Z p != 91) = true ∧ (decide ((0 : Int) < (m : Int)) = false ∧ decide (0 < m) = false) ∧ Hid (EndOk Z Y p m)) ∨
    ((Z p != 34) = true ∧ (Z p != 123) = true ∧ (Z p != 91) = true ∧ (0 : Int) < (m : Int) ∧ (∃ b2 off2, a2 = some ⟨b2, off2, none⟩ ∧ w.cell? ⟨b2, off2, none⟩ = some (.int .u8 (Y 0))) ∧ spB (Y 0) = true ∧ Hid (EndOk Z Y p m)) ∨
    ((Z p != 34) = true ∧ (Z p != 123) = true ∧ (Z p != 91) = true ∧ (0 : Int) < (m : Int) ∧ (∃ b2 off2, a2 = some ⟨b2, off2, none⟩ ∧ w.cell? ⟨b2, off2, none⟩ = some (.int .u8 (Y 0))) ∧ spB (Y 0) = false ∧ dlB (Y 0) = true ∧ Hid (EndOk Z Y p m)) ∨
    ((Z p != 34) = true ∧ (Z p != 123) = true ∧ (Z p != 91) = true ∧ (0 : Int) < (m : Int) ∧ (∃ b2 off2, a2 = some ⟨b2, off2, none⟩ ∧ w.cell? ⟨b2, off2, none⟩ = some (.int .u8 (Y 0))) ∧ spB (Y 0) = false ∧ dlB (Y 0) = false) := by
  by_cases e1 : Z p = 34
  · exact .inl ⟨by simp [e1], .inl (.inl e1)⟩
  right
  by_cases e2 : Z p = 123
  · exact .inl ⟨by simp [e2], by simp [e2], .inl (.inr (.inl e2))⟩
  right
  by_cases e3 : Z p = 91
  · exact .inl ⟨by simp [e3], by simp [e3], by simp [e3], .inl (.inr (.inr e3))⟩
  right
  have f1 : (Z p != 34) = true := by simp [e1]
  have f2 : (Z p != 123) = true := by simp [e2]
  have f3 : (Z p != 91) = true := by simp [e3]
  by_cases e4 : m = 0
  · exact .inl ⟨f1, f2, f3, ⟨by simp [e4], by simp [e4]⟩, .inr (.inl e4)⟩
  right
  have hm : (0 : Int) < (m : Int) := by omega
  rcases h with h0 | ⟨b2, off2, h2, _, hc⟩
  · omega
  have hex : ∃ b2 off2, a2 = some ⟨b2, off2, none⟩ ∧ w.cell? ⟨b2, off2, none⟩ = some (.int .u8 (Y 0)) := ⟨b2, off2, h2, by simpa using hc 0 (by omega)⟩
  cases e5 : spB (Y 0) with
  | true => exact .inl ⟨f1, f2, f3, hm, hex, rfl, .inr (.inr (by simp [e5]))⟩
  | false =>
    right
    cases e6 : dlB (Y 0) with
    | true => exact .inl ⟨f1, f2, f3, hm, hex, rfl, rfl, .inr (.inr (by simp [e6]))⟩
    | false => exact .inr ⟨f1, f2, f3, hm, hex, rfl, rfl⟩

/-- the cells of 'data[:q]' -/
theorem pre_cells {w : World} {b off n q : Nat} {Z : Nat → Int} (hq : q ≤ n) (hc : ∀ i, i < n → w.cell? ⟨b, off + i, none⟩ = some (.int .u8 (Z i))) :
    ∀ j u, (ivals ((List.range q).map Z))[j]? = some u → w.cell? ((⟨b, off, none⟩ : Addr).add j) = some u := by
  intro j u hu
  have hj : j < q := by
    have := (List.getElem?_eq_some_iff.1 hu).1
    simpa [ivals] using this
  rw [Addr.add_lit, hc j (by omega), ← hu]
  simp [ivals, hj]
/-- what 'skip' answers at the value with the other tail -/
theorem tail_answers {w : World} {B n p q m C : Nat} {Z Y : Nat → Int} (hX : skipP n Z p = (true, q)) (hqp : q ≠ p) (hE : EndOk Z Y p m)
    (h : w.ownsRow B 5 1 (.slice (some ⟨B, 0, none⟩) (q + m) C) (q + m) (ivals ((List.range q).map Z) ++ ivals ((List.range m).map Y))) :
    Bts w (some ⟨B, 0, none⟩) (q + m) (fun i => ((List.range q).map Z ++ (List.range m).map Y).getD i 0) ∧ skipP (q + m) (fun i => ((List.range q).map Z ++ (List.range m).map Y).getD i 0) p = (true, q) := by
  have e : ivals ((List.range q).map Z) ++ ivals ((List.range m).map Y) = ivals ((List.range q).map Z ++ (List.range m).map Y) := by simp [ivals]
  rw [e] at h
  refine ⟨(own_bts h).2, skipP_pre hX hqp (by omega) (fun i hi => by simp [List.getElem?_append, hi]) ?_⟩
  rcases hE with h1 | h1 | h1
  · exact .inl h1
  · exact .inr (.inl (by omega))
  · by_cases hm : m = 0
    · exact .inr (.inl (by omega))
    · right; right
      have : (((List.range q).map Z ++ (List.range m).map Y).getD q 0) = Y 0 := by simp [show 0 < m by omega]
      simp only [this]
      exact h1

set_option maxHeartbeats 4000000 in
set_option maxRecDepth 100000 in
theorem tail_core (a a2 : Option Addr) (n c p m c2 q : Nat) (Z Y : Nat → Int) (w : World) (ha : a = none → n = 0) (ha2 : a2 = none → m = 0) (hB : Bts w a n Z) (hB2 : Bts w a2 m Y)
    (hn : n ≤ 1048576) (hm : m ≤ 1048576) (hs : n + m ≤ 1048576) (hp : p ≤ 9223372036854775807) (hX : Hid (skipP n Z p = (true, q))) (hqp : q ≠ p)
    (hzb : ∀ w, Calls Try.prog 20 #[.slice a n c, .int .i64 p, .slice a2 m c2] w fun e w' => e = .returned (.bool true) ∧ w = w') :
    Calls Try.prog 7 #[.slice a n c, .int .i64 p, .slice a2 m c2] w fun e w' => e = .returned (.bool true) ∧ Below w.heap.size w w' := by
  have hpn := skipP_lt hX.out
  obtain ⟨hpq, hqn⟩ := skipP_le hX.out
  have d1 : decide ((1048576 : Int) < n) = false := by simp; omega
  have d2 : decide ((1048576 : Int) < m) = false := by simp; omega
  have d3 : decide ((1048576 : Int) < n + m) = false := by simp; omega
  have d4 : ((q : Int) == p) = false := by simp; omega
  have hB' := hB
  rcases hB with h0 | ⟨b, off, rfl, hbl, hc⟩
  · omega
  have gp : w.cell? ⟨b, off + p, none⟩ = some (.int .u8 (Z p)) := hc p hpn
  clear hc
  obtain ⟨i5, hi, hz0, hz1, hz2⟩ := info_parts info5
  have hcase := tail_cases (p := p) (Z := Z) hB2
  rcases hcase with ⟨v1, HE⟩ | ⟨v1, v2, HE⟩ | ⟨v1, v2, v3, HE⟩ | ⟨v1, v2, v3, ⟨v4, v4'⟩, HE⟩ | ⟨v1, v2, v3, v4, ⟨b2, off2, rfl, g2⟩, v5, HE⟩ | ⟨v1, v2, v3, v4, ⟨b2, off2, rfl, g2⟩, v5, v6, HE⟩ | ⟨v1, v2, v3, v4, ⟨b2, off2, rfl, g2⟩, v5, v6⟩
  all_goals
    go_enter Try.func7, Try.ntmps7
    go_wp2_with fail
    refine (hzb _).mono ?_
    rintro e w' ⟨rfl, rfl⟩
    clear hzb
    go_wp2_with fail
    refine (zmodel_at _ n c p Z w hn hp hB' hX.out).mono ?_
    rintro e w' ⟨rfl, rfl⟩
    go_wp2_with (first | (go_at_call 21; refine (jspace_any' _ _).mono ?_; rintro e w' ⟨rfl, rfl⟩) | (go_at_call 22; refine (vend_any' _ _).mono ?_; rintro e w' ⟨rfl, rfl⟩))
  rotate_right 1
  · go_ret
    exact ⟨rfl, Below.refl _ _⟩
  all_goals
    refine (clone_bts _ n c Z w hn (fun h => by cases h) hB').mono ?_
    rintro e w1 ⟨a', rfl, hb1, hB1⟩
    have hB3 := hB2.below hb1
    clear hB' hB2 gp ha
    go_wp2_with fail
    refine (clone_bts _ m c2 Y w1 hm ha2 hB3).mono ?_
    rintro e w2 ⟨a2', rfl, hb2, hB4⟩
    have hB5 := hB1.below hb2
    have hw2 : Below w.heap.size w w2 := hb1.trans (hb2.mono hb1.size)
    have hz' : w.heap.size ≤ w2.heap.size := hw2.size
    clear hb1 hb2 hB1 hB3
    obtain ⟨C, hC1, hC2⟩ : ∃ C : Nat, C ≤ q + m ∧ q + m ≤ C := ⟨q + m, Nat.le_refl _, Nat.le_refl _⟩
    go_wp2_with (at_make; refine wpList_make_own _ rfl _ _ 22 rfl w2.heap.size 5 i5 (.int .u8 0) 1 Try.underlying22 hi hz0 hz1 .i64 .i64 _ C rfl rfl ?_ ?_ ?_ (Nat.le_refl _) ?_)
    · omega
    · rw [hz2]; omega
    · unfold maxLen; omega
    intro w3 hown0 hgrow0
    have hb0 : Below w2.heap.size w2 w3 := (Below.refl _ _).grown hgrow0 (Nat.le_refl _) (fun _ h => by cases h)
    have hwl0 := own_lt5 hown0
    clear hgrow0
    have hB6 := hB5
    rcases hB5 with h0 | ⟨bd, od, rfl, hbd, hcd⟩
    · omega
    go_wp2_with (at_builtin; refine wpList_append_fits _ rfl (.tmp 87) (.tmp 90) 22 rfl w2.heap.size 5 i5 1 Try.underlying22 hi hz1 w2.heap.size _ C _ rfl hown0 ⟨bd, od, none⟩ q n (ivals ((List.range q).map Z)) rfl ?c1 ?c2 ?c3 ?c4 ?_)
    case c1 => simp [ivals]
    case c2 => exact pre_cells hqn (fun i hi => (hb0.cell (p := ⟨bd, od + i, none⟩) hbd).trans (hcd i hi))
    case c3 => exact ivals_one _
    case c4 => omega
    intro w4 hown1 hgrow1
    have s3 : w4.ownsRow w2.heap.size 5 1 (.slice (some ⟨w2.heap.size, 0, none⟩) q C) q (ivals ((List.range q).map Z)) := by simpa using hown1
    have hb4 : Below w2.heap.size w2 w4 := hb0.grown hgrow1 (by omega) (fun k hk => by cases hk; exact Nat.le_refl _)
    have hwl4 := own_lt5 s3
    have hB7 : Bts w4 a2' m Y := hB4.below hb4
    clear hown0 hown1 hgrow1 hb0 hwl0 hcd
    go_wp2_with (at_builtin; refine wpList_append_fits_any _ rfl (.tmp 92) (.tmp 93) 22 rfl w2.heap.size 5 i5 1 Try.underlying22 hi hz1 w2.heap.size _ C _ rfl s3 a2' m m (ivals ((List.range m).map Y)) rfl ?c1 ?c2 ?c3 ?c4 ?c5 ?_)
    case c1 => simp [ivals]
    case c2 => exact fun h => ⟨bts_none hB7 h, bts_none hB7 h⟩
    case c3 => exact bts_cells hB7
    case c4 => exact ivals_one _
    case c5 => omega
    intro w5 hown2 hgrow2
    have hb5 : Below w2.heap.size w2 w5 := hb4.grown hgrow2 (by omega) (fun k hk => by cases hk; exact Nat.le_refl _)
    obtain ⟨F0, F1⟩ := tail_answers hX.out hqp HE.out hown2
    generalize (fun i => ((List.range q).map Z ++ (List.range m).map Y).getD i 0) = G at F0 F1
    have G1 : Hid (skipP (q + m) G p = (true, q)) := F1
    have hB8 := hB6.below hb5
    clear F1 s3 hown2 hgrow2 hB7 hb4
    go_wp2_with fail
    refine (zskip_at (some ⟨w2.heap.size, 0, none⟩) (q + m) C p G w5 (by omega) F0 G1.out).mono ?_
    rintro e w6 ⟨rfl, hb6⟩
    have hB9 := hB8.below hb6
    go_wp2_with fail
    refine (zskip_at _ n n p Z w6 hn hB9 hX.out).mono ?_
    rintro e w7 ⟨rfl, hb7⟩
    go_wp2
    go_ret
    exact ⟨rfl, ((hw2.trans (hb5.mono hz')).trans (hb6.mono (Nat.le_trans hz' hb5.size))).trans (hb7.mono (Nat.le_trans hz' (Nat.le_trans hb5.size hb6.size)))⟩

set_option maxHeartbeats 1000000 in
theorem zb20 (a a2 : Option Addr) (n c m c2 : Nat) (x : Int) (w : World) (h1 : n ≤ 1048576) (h2 : m ≤ 1048576) (h3 : n + m ≤ 1048576) :
    Calls Try.prog 20 #[.slice a n c, .int .i64 x, .slice a2 m c2] w fun e w' => e = .returned (.bool true) ∧ w = w' := by
  have d1 : decide ((1048576 : Int) < n) = false := by simp; omega
  have d2 : decide ((1048576 : Int) < m) = false := by simp; omega
  have d3 : decide ((1048576 : Int) < n + m) = false := by simp; omega
  go_enter Try.func20, Try.ntmps20
  go_wp2
  go_ret
  exact ⟨rfl, rfl⟩

set_option maxHeartbeats 1000000 in
theorem zb20_no (a a2 : Option Addr) (n c m c2 : Nat) (x : Int) (w : World) (h : ¬ (n ≤ 1048576 ∧ m ≤ 1048576 ∧ n + m ≤ 1048576)) :
    Calls Try.prog 20 #[.slice a n c, .int .i64 x, .slice a2 m c2] w fun e w' => e = .returned (.bool false) ∧ w = w' := by
  by_cases h1 : n ≤ 1048576
  · have d1 : decide ((1048576 : Int) < n) = false := by simp; omega
    by_cases h2 : m ≤ 1048576
    · have d2 : decide ((1048576 : Int) < m) = false := by simp; omega
      have d3 : decide ((1048576 : Int) < n + m) = true := by simp; omega
      clear h
      go_enter Try.func20, Try.ntmps20
      go_wp2
      go_ret
      exact ⟨rfl, rfl⟩
    · have d2 : decide ((1048576 : Int) < m) = true := by simp; omega
      clear h
      go_enter Try.func20, Try.ntmps20
      go_wp2
      go_ret
      exact ⟨rfl, rfl⟩
  · have d1 : decide ((1048576 : Int) < n) = true := by simp; omega
    clear h
    go_enter Try.func20, Try.ntmps20
    go_wp2
    go_ret
    exact ⟨rfl, rfl⟩

set_option maxHeartbeats 2000000 in
set_option maxRecDepth 100000 in
theorem tail_law (a a2 : Option Addr) (n c m c2 : Nat) (x : Int) (Z Y : Nat → Int) (w : World) (hx : x ≤ 9223372036854775807) (ha : a = none → n = 0) (ha2 : a2 = none → m = 0) (hB : Bts w a n Z) (hB2 : Bts w a2 m Y) :
    Calls Try.prog 7 #[.slice a n c, .int .i64 x, .slice a2 m c2] w fun e w' => e = .returned (.bool true) ∧ Below w.heap.size w w' := by
  by_cases h : n ≤ 1048576 ∧ m ≤ 1048576 ∧ n + m ≤ 1048576
  · obtain ⟨h1, h2, h3⟩ := h
    have d1 : decide ((1048576 : Int) < n) = false := by simp; omega
    have d2 : decide ((1048576 : Int) < m) = false := by simp; omega
    have d3 : decide ((1048576 : Int) < n + m) = false := by simp; omega
    by_cases h0 : x < 0
    · clear hB hB2 ha ha2
      go_enter Try.func7, Try.ntmps7
      go_wp2_with (go_at_call 20; refine (zb20 _ _ _ _ _ _ _ _ h1 h2 h3).mono ?_; rintro e w' ⟨rfl, rfl⟩)
      go_ret
      exact ⟨rfl, Below.refl _ _⟩
    · obtain ⟨p, rfl⟩ := Int.eq_ofNat_of_zero_le (show 0 ≤ x by omega)
      obtain ⟨ok, q, hX⟩ : ∃ ok q, skipP n Z p = (ok, q) := ⟨_, _, rfl⟩
      have HX : Hid (skipP n Z p = (ok, q)) := hX
      clear hX h0
      cases ok with
      | false =>
        go_enter Try.func7, Try.ntmps7
        go_wp2_with fail
        refine (zb20 _ _ _ _ _ _ _ _ h1 h2 h3).mono ?_
        rintro e w' ⟨rfl, rfl⟩
        go_wp2_with fail
        refine (zmodel_at a n c p Z w h1 (by omega) hB HX.out).mono ?_
        rintro e w' ⟨rfl, rfl⟩
        go_wp2
        go_ret
        exact ⟨rfl, Below.refl _ _⟩
      | true =>
        by_cases hqp : q = p
        · subst hqp
          go_enter Try.func7, Try.ntmps7
          go_wp2_with fail
          refine (zb20 _ _ _ _ _ _ _ _ h1 h2 h3).mono ?_
          rintro e w' ⟨rfl, rfl⟩
          go_wp2_with fail
          refine (zmodel_at a n c q Z w h1 (by omega) hB HX.out).mono ?_
          rintro e w' ⟨rfl, rfl⟩
          go_wp2
          go_ret
          exact ⟨rfl, Below.refl _ _⟩
        · exact tail_core a a2 n c p m c2 q Z Y w ha ha2 hB hB2 h1 h2 h3 (by omega) HX hqp (fun w => zb20 _ _ _ _ _ _ _ w h1 h2 h3)
  · have H : Hid (¬ (n ≤ 1048576 ∧ m ≤ 1048576 ∧ n + m ≤ 1048576)) := h
    clear hB hB2 ha ha2 h
    go_enter Try.func7, Try.ntmps7
    go_wp2_with (go_at_call 20; refine (zb20_no _ _ _ _ _ _ _ _ H.out).mono ?_; rintro e w' ⟨rfl, rfl⟩)
    go_ret
    exact ⟨rfl, Below.refl _ _⟩
end Go.Proofs.Qxb6605296a
