/-
  THE WALK OF 'FnStrAndSkipFindTheEndOfAnEncodedString' (5).
-/
import Derived.Test.Qxb6605296aArg
import Derived.Test.Qxb6605296aSkipWalk
import Derived.Test.Qxb6605296aEncPlain
namespace Go.Proofs.Qxb6605296a
open Go.RowKit

def ivals (l : List Int) : List Value := l.map (Value.int .u8)
theorem ivals_one (l : List Int) : ∀ u ∈ ivals l, u.oneCell' = true := by
  intro u hu
  obtain ⟨_, _, rfl⟩ := List.mem_map.1 hu
  rfl

def hexI (x : Int) : Int := if x < 10 then 48 + x else 97 + x - 10
theorem hexI_ok (x : Int) (h0 : 0 ≤ x) (h1 : x ≤ 15) : hexI x ≠ 34 ∧ hexI x ≠ 92 := by unfold hexI; split <;> omega

set_option maxHeartbeats 400000 in
theorem hex_any (x : Int) (w : World) (h0 : 0 ≤ x) (h1 : x ≤ 15) :
    Calls Try.prog 16 #[.int .u8 x] w fun e w' => e = .returned (.int .u8 (hexI x)) ∧ w = w' := by
  by_cases h : x < 10
  · have E : hexI x = 48 + x := by simp [hexI, h]
    rw [E]; clear E
    go_enter Try.func16, Try.ntmps16
    go_wp2
    go_ret
    exact ⟨by go_num, rfl⟩
  · have E : hexI x = 97 + x - 10 := by simp [hexI, h]
    rw [E]; clear E
    go_enter Try.func16, Try.ntmps16
    go_wp2
    go_ret
    exact ⟨by go_num, rfl⟩

/-- the cells of a slice literal -/
theorem lit_cells (w : World) (xs : List Value) (t : TypeId) : ∀ j u, xs[j]? = some u → (w.alloc (.cells xs.toArray t)).cell? ((⟨w.heap.size, 0, none⟩ : Addr).add j) = some u := by
  intro j u h
  rw [Addr.add_lit, Nat.zero_add, World.cell?_alloc_new]
  simpa using h
theorem own_lt5 {w : World} {B m n : Nat} {xs : List Value} (h : w.ownsRow B 5 1 (.slice (some ⟨B, 0, none⟩) m n) m xs) : B < w.heap.size := by
  obtain ⟨_, h | ⟨g, cap, cur, hv, _, hh, _⟩⟩ := h
  · cases h.1
  · simp only [Value.slice.injEq, Option.some.injEq, Addr.mk.injEq] at hv
    obtain ⟨⟨rfl, _⟩, _⟩ := hv
    exact (Array.getElem?_eq_some_iff.1 hh).1

/-- one chunk more -/
theorem enc_step {w wr w2 : World} {o : Obj} {cap : Nat} {l ch : List Int} (hb : Below w.heap.size w wr) (hlt : w.heap.size < wr.heap.size) (hg : (wr.alloc o).grownBy w2 (some w.heap.size))
    (ho : w2.ownsRow w.heap.size 5 1 (.slice (some ⟨w.heap.size, 0, none⟩) (l.length + ch.length) cap) (l.length + ch.length) (ivals l ++ ivals ch)) :
    Below w.heap.size w w2 ∧ w2.ownsRow w.heap.size 5 1 (.slice (some ⟨w.heap.size, 0, none⟩) (l ++ ch).length cap) (l ++ ch).length (ivals (l ++ ch)) := by
  have e2 : ivals l ++ ivals ch = ivals (l ++ ch) := by simp [ivals]
  rw [e2, ← List.length_append] at ho
  exact ⟨(hb.alloc (by omega) o).grown hg (by simp; omega) (fun k hk => by cases hk; exact Nat.le_refl _), ho⟩

theorem bts_none {w : World} {a : Option Addr} {m : Nat} {Y : Nat → Int} (h : Bts w a m Y) (ha : a = none) : m = 0 := by
  rcases h with h | ⟨b, off, h, _⟩
  · exact h
  · rw [h] at ha; cases ha
theorem bts_cells {w : World} {a : Option Addr} {m : Nat} {Y : Nat → Int} (h : Bts w a m Y) : ∀ ad, a = some ad → ∀ j u, (ivals ((List.range m).map Y))[j]? = some u → w.cell? (ad.add j) = some u := by
  intro ad had j u hu
  have hj : j < m := by
    have := (List.getElem?_eq_some_iff.1 hu).1
    simpa [ivals] using this
  rcases h with h | ⟨b, off, h, _, hc⟩
  · omega
  · rw [h] at had
    obtain rfl := Option.some.inj had
    rw [Addr.add_lit, hc j hj, ← hu]
    simp [ivals, hj]
/-- an owned row of bytes, as a slice of bytes -/
theorem own_bts {w : World} {B m C : Nat} {l : List Int} (h : w.ownsRow B 5 1 (.slice (some ⟨B, 0, none⟩) m C) m (ivals l)) : m = l.length ∧ Bts w (some ⟨B, 0, none⟩) m (fun i => l.getD i 0) := by
  obtain ⟨hl, h | ⟨g, cap, cur, hv, _, hh, h1, _, h3, h4⟩⟩ := id h
  · cases h.1
  · simp only [Value.slice.injEq, Option.some.injEq, Addr.mk.injEq] at hv
    obtain ⟨⟨rfl, _⟩, _, rfl⟩ := hv
    have hm : m = l.length := by simpa [ivals] using hl.symm
    refine ⟨hm, .inr ⟨B, 0, rfl, own_lt5 h, fun i hi => ?_⟩⟩
    have h5 : (cur.toList.take (m * 1))[i]? = (ivals l)[i]? := by rw [h4]
    rw [List.getElem?_take_of_lt (by omega)] at h5
    simp only [World.cell?, hh, Option.isSome_none, Bool.false_eq_true, if_false, Nat.zero_add]
    rw [← Array.getElem?_toList, h5]
    simp [ivals, List.getD, show i < l.length by omega]
/-- what 'str' and 'skip' answer at the whole row -/
theorem enc_answers {w : World} {B m C : Nat} {body t : List Int} (hp : passes body false = some false) (h : w.ownsRow B 5 1 (.slice (some ⟨B, 0, none⟩) (body.length + 1 + 1 + m) C) (body.length + 1 + 1 + m) (ivals (34 :: body ++ [34]) ++ ivals t)) :
    Bts w (some ⟨B, 0, none⟩) (body.length + 1 + 1 + m) (fun i => (34 :: body ++ [34] ++ t).getD i 0) ∧
    strP (body.length + 1 + 1 + m) (fun i => (34 :: body ++ [34] ++ t).getD i 0) 0 = (true, body.length + 2) ∧ skipP (body.length + 1 + 1 + m) (fun i => (34 :: body ++ [34] ++ t).getD i 0) 0 = (true, body.length + 2) := by
  have e : ivals (34 :: body ++ [34]) ++ ivals t = ivals (34 :: body ++ [34] ++ t) := by simp [ivals]
  rw [e] at h
  have k0 : (fun i => (34 :: body ++ [34] ++ t).getD i 0) 0 = 34 := by simp
  have k1 : ∀ i (h : i < body.length), (fun i => (34 :: body ++ [34] ++ t).getD i 0) (1 + i) = body[i] := fun i h => by
    rw [Nat.add_comm 1 i]
    simp [List.getElem?_append, h]
  have k2 : (fun i => (34 :: body ++ [34] ++ t).getD i 0) (1 + body.length) = 34 := by
    rw [Nat.add_comm 1 body.length]
    simp
  exact ⟨(own_bts h).2, strP_lit _ _ body hp (by omega) k0 k1 k2, skipP_lit _ _ body hp (by omega) k0 k1 k2⟩

theorem zstr_zero (a : Option Addr) (n c : Nat) (Z : Nat → Int) (w : World) (hn : n ≤ 1048576) (hB : Bts w a n Z) {q : Nat} {x : Int} (hX : strP n Z 0 = (true, q)) (hx : (q : Int) = x) :
    Calls Try.prog 14 #[.slice a n c, .int .i64 0] w fun e w' => e = .returned (.tuple #[.bool true, .int .i64 x]) ∧ Below w.heap.size w w' := by
  have := zstr_any a n c 0 Z w hn hB
  rw [hX] at this
  rw [← hx]
  exact this
theorem zskip_zero (a : Option Addr) (n c : Nat) (Z : Nat → Int) (w : World) (hn : n ≤ 1048576) (hB : Bts w a n Z) {q : Nat} {x : Int} (hX : skipP n Z 0 = (true, q)) (hx : (q : Int) = x) :
    Calls Try.prog 17 #[.slice a n c, .int .i64 0] w fun e w' => e = .returned (.tuple #[.bool true, .int .i64 x]) ∧ Below w.heap.size w w' := by
  have := zskip_any a n c 0 Z w hn hB
  rw [hX] at this
  rw [← hx]
  exact this

set_option maxHeartbeats 4000000 in
set_option maxRecDepth 100000 in
theorem enc_core (a a2 : Option Addr) (n c m c2 : Nat) (Z Y : Nat → Int) (w : World) (ha : a = none → n = 0) (ha2 : a2 = none → m = 0) (hB : Bts w a n Z) (hB2 : Bts w a2 m Y) (hz : ∀ i, 0 ≤ Z i ∧ Z i ≤ 255)
    (hn : n ≤ 131072) (hm : m ≤ 1048576) (hs : 6 * n + 2 + m ≤ 1048576)
    (hzb : ∀ w, Calls Try.prog 15 #[.slice a n c, .slice a2 m c2] w fun e w' => e = .returned (.bool true) ∧ w = w') :
    Calls Try.prog 5 #[.slice a n c, .slice a2 m c2] w fun e w' => e = .returned (.bool true) ∧ Below w.heap.size w w' := by
  have d1 : decide ((131072 : Int) < n) = false := by simp; omega
  have d2 : decide ((1048576 : Int) < m) = false := by simp; omega
  have d3 : decide ((1048576 : Int) < 6 * n + 2 + m) = false := by simp; omega
  obtain ⟨i5, hi, hz0, hz1, hz2⟩ := info_parts info5
  go_enter Try.func5, Try.ntmps5
  go_wp2_with fail
  refine (hzb _).mono ?_
  rintro e w' ⟨rfl, rfl⟩
  clear hzb
  go_wp2_with fail
  refine (clone_bts a n c Z _ (by omega) ha hB).mono ?_
  rintro e w1 ⟨a', rfl, hb1, hB1⟩
  have hB3 := hB2.below hb1
  clear hB hB2 ha
  go_wp2_with fail
  refine (clone_bts a2 m c2 Y _ hm ha2 hB3).mono ?_
  rintro e w2 ⟨a2', rfl, hb2, hB4⟩
  have hB5 := hB1.below hb2
  obtain ⟨C, hC1, hC2⟩ : ∃ C : Nat, C ≤ 6 * n + 2 + m ∧ 6 * n + 2 + m ≤ C := ⟨6 * n + 2 + m, Nat.le_refl _, Nat.le_refl _⟩
  have hw2 : Below w.heap.size w w2 := hb1.trans (hb2.mono hb1.size)
  have hz' : w.heap.size ≤ w2.heap.size := hw2.size
  clear hb1 hb2 hB1 hB3
  go_wp2_with (at_make; refine wpList_make_own _ rfl _ _ 22 rfl w2.heap.size 5 i5 (.int .u8 0) 1 Try.underlying22 hi hz0 hz1 .i64 .i64 _ C rfl rfl ?_ ?_ ?_ (Nat.le_refl _) ?_)
  · omega
  · rw [hz2]; omega
  · unfold maxLen; omega
  intro w3 hown0 hgrow0
  have hb0 : Below w2.heap.size w2 w3 := (Below.refl _ _).grown hgrow0 (Nat.le_refl _) (fun _ h => by cases h)
  have hwl0 := own_lt5 hown0
  clear hgrow0
  go_wp2_with (at_builtin; refine wpList_append_fits _ rfl (.tmp 43) (.tmp 44) 22 rfl w2.heap.size 5 i5 1 Try.underlying22 hi hz1 w2.heap.size _ C _ rfl (hown0.alloc _) ⟨w3.heap.size, 0, none⟩ 1 1 (ivals [34]) rfl ?_ ?_ ?_ ?_ ?_)
  · rfl
  · exact lit_cells w3 (ivals [34]) 5
  · exact ivals_one _
  · omega
  intro w4 hown1 hgrow1
  obtain ⟨s1, s2⟩ := enc_step (l := []) (ch := [34]) hb0 hwl0 hgrow1 hown1
  clear hown0 hgrow1 hown1 hb0 hwl0
  go_wp2
  go_loopg [5, 6] n (fun gk v i wr => ∃ (k : Nat) (body : List Int), k ≤ n ∧ gk = n - k ∧ i = .int .i64 k ∧ body.length ≤ 6 * k ∧ passes body false = some false ∧ v = .slice (some ⟨w2.heap.size, 0, none⟩) (34 :: body).length C ∧
      Below w2.heap.size w2 wr ∧ wr.ownsRow w2.heap.size 5 1 (.slice (some ⟨w2.heap.size, 0, none⟩) (34 :: body).length C) (34 :: body).length (ivals (34 :: body)))
  case atStart => exact ⟨0, [], Nat.zero_le _, rfl, rfl, by simp, rfl, rfl, s1, s2⟩
  case round =>
    obtain ⟨k, body, hk, rfl, rfl, hbl, hps, rfl, hb, hown⟩ := hrel
    have HP : Hid (passes body false = some false) := hps
    have hwl := own_lt5 hown
    clear hps s1 s2
    by_cases hlt : k < n
    · rcases hB5 with h0 | ⟨b, off, rfl, hbl', hc⟩
      · omega
      have gj : wr.cell? ⟨b, off + k, none⟩ = some (.int .u8 (Z k)) := (hb.cell (p := ⟨b, off + k, none⟩) hbl').trans (hc k hlt)
      have hzk := hz k
      clear hc hz
      by_cases h1 : Z k = 34
      · have u1 : (Z k == 34) = true := by simp [h1]
        clear h1
        go_wp2_with (at_builtin; refine wpList_append_fits _ rfl (.tmp 58) (.tmp 59) 22 rfl w2.heap.size 5 i5 1 Try.underlying22 hi hz1 w2.heap.size _ C _ rfl (hown.alloc _) ⟨wr.heap.size, 0, none⟩ 2 2 (ivals [92, 34]) rfl ?c1 ?c2 ?c3 ?c4 ?_)
        case c1 => rfl
        case c2 => exact lit_cells wr (ivals [92, 34]) 5
        case c3 => exact ivals_one _
        case c4 => first | omega | (simp only [List.length_cons]; omega)
        intro w5 hown2 hgrow2
        obtain ⟨s1, s2⟩ := enc_step (l := 34 :: body) (ch := [92, 34]) hb hwl hgrow2 hown2
        clear hown hown2 hgrow2 hb
        go_wp2
        go_roundg (n - (k + 1))
        case measure => omega
        case rel => exact ⟨k + 1, body ++ [92, 34], by omega, rfl, by go_num, by simp; omega, passes_more HP.out (passes_quote), by simp, s1, s2⟩
      · have u1 : (Z k == 34) = false := by simp [h1]
        by_cases h2 : Z k = 92
        · have u2 : (Z k == 92) = true := by simp [h2]
          clear h1 h2
          go_wp2_with (at_builtin; refine wpList_append_fits _ rfl (.tmp 63) (.tmp 64) 22 rfl w2.heap.size 5 i5 1 Try.underlying22 hi hz1 w2.heap.size _ C _ rfl (hown.alloc _) ⟨wr.heap.size, 0, none⟩ 2 2 (ivals [92, 92]) rfl ?c1 ?c2 ?c3 ?c4 ?_)
          case c1 => rfl
          case c2 => exact lit_cells wr (ivals [92, 92]) 5
          case c3 => exact ivals_one _
          case c4 => first | omega | (simp only [List.length_cons]; omega)
          intro w5 hown2 hgrow2
          obtain ⟨s1, s2⟩ := enc_step (l := 34 :: body) (ch := [92, 92]) hb hwl hgrow2 hown2
          clear hown hown2 hgrow2 hb
          go_wp2
          go_roundg (n - (k + 1))
          case measure => omega
          case rel => exact ⟨k + 1, body ++ [92, 92], by omega, rfl, by go_num, by simp; omega, passes_more HP.out (passes_back), by simp, s1, s2⟩
        · have u2 : (Z k == 92) = false := by simp [h2]
          by_cases h3 : Z k < 32
          · have u3 : decide (Z k < 32) = true := by simp [h3]
            have q0 : 0 ≤ Z k / 16 ∧ Z k / 16 ≤ 15 := by omega
            go_wp2_with fail
            refine (hex_any (Z k / 16) _ q0.1 q0.2).mono ?_
            rintro e w' ⟨rfl, rfl⟩
            have q1 : 0 ≤ Z k % 16 ∧ Z k % 16 ≤ 15 := by omega
            have HX : Hid ((hexI (Z k / 16) ≠ 34 ∧ hexI (Z k / 16) ≠ 92) ∧ hexI (Z k % 16) ≠ 34 ∧ hexI (Z k % 16) ≠ 92) := ⟨hexI_ok _ q0.1 q0.2, hexI_ok _ q1.1 q1.2⟩
            go_wp2_with fail
            refine (hex_any (Z k % 16) _ q1.1 q1.2).mono ?_
            rintro e w' ⟨rfl, rfl⟩
            clear h1 h2 h3
            go_wp2_with (at_builtin; refine wpList_append_fits _ rfl (.tmp 68) (.tmp 75) 22 rfl w2.heap.size 5 i5 1 Try.underlying22 hi hz1 w2.heap.size _ C _ rfl (hown.alloc _) ⟨wr.heap.size, 0, none⟩ 6 6 (ivals [92, 117, 48, 48, hexI (Z k / 16), hexI (Z k % 16)]) rfl ?c1 ?c2 ?c3 ?c4 ?_)
            case c1 => rfl
            case c2 => exact lit_cells wr (ivals [92, 117, 48, 48, hexI (Z k / 16), hexI (Z k % 16)]) 5
            case c3 => exact ivals_one _
            case c4 => first | omega | (simp only [List.length_cons]; omega)
            intro w5 hown2 hgrow2
            obtain ⟨s1, s2⟩ := enc_step (l := 34 :: body) (ch := [92, 117, 48, 48, hexI (Z k / 16), hexI (Z k % 16)]) hb hwl hgrow2 hown2
            clear hown hown2 hgrow2 hb
            go_wp2
            go_roundg (n - (k + 1))
            case measure => omega
            case rel => exact ⟨k + 1, body ++ [92, 117, 48, 48, hexI (Z k / 16), hexI (Z k % 16)], by omega, rfl, by go_num, by simp; omega, passes_more HP.out (passes_hex _ _ HX.out.1.1 HX.out.1.2 HX.out.2.1 HX.out.2.2), by simp, s1, s2⟩
          · have u3 : decide (Z k < 32) = false := by simp [h3]
            have HX : Hid (Z k ≠ 34 ∧ Z k ≠ 92) := ⟨h1, h2⟩
            clear h1 h2
            go_wp2_with (at_builtin; refine wpList_append_fits _ rfl (.tmp 77) (.tmp 79) 22 rfl w2.heap.size 5 i5 1 Try.underlying22 hi hz1 w2.heap.size _ C _ rfl (hown.alloc _) ⟨wr.heap.size, 0, none⟩ 1 1 (ivals [Z k]) rfl ?c1 ?c2 ?c3 ?c4 ?_)
            case c1 => rfl
            case c2 => exact fun _ _ h => h
            case c3 => exact ivals_one _
            case c4 => (show (34 :: body).length + 1 ≤ C); simp; omega
            intro w5 hown2 hgrow2
            obtain ⟨s1, s2⟩ := enc_step (l := 34 :: body) (ch := [Z k]) hb hwl hgrow2 hown2
            clear hown hown2 hgrow2 hb
            go_wp2
            go_roundg (n - (k + 1))
            case measure => omega
            case rel => exact ⟨k + 1, body ++ [Z k], by omega, rfl, by go_num, by simp; omega, passes_more HP.out (passes_plain _ HX.out.1 HX.out.2), by simp, s1, s2⟩
    · have hkn : k = n := by omega
      subst hkn
      have hm' := hB4
      go_wp2_with (at_builtin; refine wpList_append_fits _ rfl (.tmp 81) (.tmp 82) 22 rfl w2.heap.size 5 i5 1 Try.underlying22 hi hz1 w2.heap.size _ C _ rfl (hown.alloc _) ⟨wr.heap.size, 0, none⟩ 1 1 (ivals [34]) rfl ?c1 ?c2 ?c3 ?c4 ?_)
      case c1 => rfl
      case c2 => exact lit_cells wr (ivals [34]) 5
      case c3 => exact ivals_one _
      case c4 => first | omega | (simp only [List.length_cons]; omega)
      intro w5 hown2 hgrow2
      obtain ⟨s1, s2⟩ := enc_step (l := 34 :: body) (ch := [34]) hb hwl hgrow2 hown2
      clear hown hown2 hgrow2 hb
      have s3 : w5.ownsRow w2.heap.size 5 1 (.slice (some ⟨w2.heap.size, 0, none⟩) (body.length + 1 + 1) C) (body.length + 1 + 1) (ivals (34 :: body ++ [34])) := by simpa using s2
      have hB6 : Bts w5 a2' m Y := hB4.below s1
      have hwl5 := own_lt5 s3
      clear s2
      go_wp2_with (at_builtin; refine wpList_append_fits_any _ rfl (.tmp 86) (.tmp 87) 22 rfl w2.heap.size 5 i5 1 Try.underlying22 hi hz1 w2.heap.size _ C _ rfl s3 a2' m m (ivals ((List.range m).map Y)) rfl ?c1 ?c2 ?c3 ?c4 ?c5 ?_)
      case c1 => simp [ivals]
      case c2 => exact fun h => ⟨bts_none hB6 h, bts_none hB6 h⟩
      case c3 => exact bts_cells hB6
      case c4 => exact ivals_one _
      case c5 => omega
      intro w6 hown3 hgrow3
      have hb6 : Below w2.heap.size w2 w6 := s1.grown hgrow3 (by omega) (fun k hk => by cases hk; exact Nat.le_refl _)
      obtain ⟨F0, F1, F2⟩ := enc_answers HP.out hown3
      generalize (fun i => (34 :: body ++ [34] ++ (List.range m).map Y).getD i 0) = G at F0 F1 F2
      have G1 : Hid (strP (body.length + 1 + 1 + m) G 0 = (true, body.length + 2)) := F1
      have G2 : Hid (skipP (body.length + 1 + 1 + m) G 0 = (true, body.length + 2)) := F2
      clear F1 F2
      clear s1 s3 hown3 hgrow3
      go_wp2_with fail
      refine (zstr_zero (some ⟨w2.heap.size, 0, none⟩) (body.length + 1 + 1 + m) C G w6 (by omega) F0 (x := (body.length : Int) + 1 + 1) G1.out (by omega)).mono ?_
      rintro e w7 ⟨rfl, hb7⟩
      have F7 := F0.below hb7
      go_wp2_with fail
      refine (zskip_zero (some ⟨w2.heap.size, 0, none⟩) (body.length + 1 + 1 + m) C G w7 (by omega) F7 (x := (body.length : Int) + 1 + 1) G2.out (by omega)).mono ?_
      rintro e w8 ⟨rfl, hb8⟩
      go_wp2
      go_ret
      exact ⟨rfl, ((hw2.trans (hb6.mono hz')).trans (hb7.mono (Nat.le_trans hz' hb6.size))).trans (hb8.mono (Nat.le_trans hz' (Nat.le_trans hb6.size hb7.size)))⟩

set_option maxHeartbeats 1000000 in
theorem zb15 (a a2 : Option Addr) (n c m c2 : Nat) (w : World) (h1 : n ≤ 1048576) (h2 : m ≤ 1048576) (h3 : n + m ≤ 1048576) :
    Calls Try.prog 15 #[.slice a n c, .slice a2 m c2] w fun e w' => e = .returned (.bool true) ∧ w = w' := by
  have d1 : decide ((1048576 : Int) < n) = false := by simp; omega
  have d2 : decide ((1048576 : Int) < m) = false := by simp; omega
  have d3 : decide ((1048576 : Int) < n + m) = false := by simp; omega
  go_enter Try.func15, Try.ntmps15
  go_wp2
  go_ret
  exact ⟨rfl, rfl⟩

set_option maxHeartbeats 1000000 in
theorem zb15_no (a a2 : Option Addr) (n c m c2 : Nat) (w : World) (h : ¬ (n ≤ 1048576 ∧ m ≤ 1048576 ∧ n + m ≤ 1048576)) :
    Calls Try.prog 15 #[.slice a n c, .slice a2 m c2] w fun e w' => e = .returned (.bool false) ∧ w = w' := by
  by_cases h1 : n ≤ 1048576
  · have d1 : decide ((1048576 : Int) < n) = false := by simp; omega
    by_cases h2 : m ≤ 1048576
    · have d2 : decide ((1048576 : Int) < m) = false := by simp; omega
      have d3 : decide ((1048576 : Int) < n + m) = true := by simp; omega
      clear h
      go_enter Try.func15, Try.ntmps15
      go_wp2
      go_ret
      exact ⟨rfl, rfl⟩
    · have d2 : decide ((1048576 : Int) < m) = true := by simp; omega
      clear h
      go_enter Try.func15, Try.ntmps15
      go_wp2
      go_ret
      exact ⟨rfl, rfl⟩
  · have d1 : decide ((1048576 : Int) < n) = true := by simp; omega
    clear h
    go_enter Try.func15, Try.ntmps15
    go_wp2
    go_ret
    exact ⟨rfl, rfl⟩

set_option maxHeartbeats 1000000 in
set_option maxRecDepth 100000 in
theorem enc_law (a a2 : Option Addr) (n c m c2 : Nat) (Z Y : Nat → Int) (w : World) (ha : a = none → n = 0) (ha2 : a2 = none → m = 0) (hB : Bts w a n Z) (hB2 : Bts w a2 m Y) (hz : ∀ i, 0 ≤ Z i ∧ Z i ≤ 255) :
    Calls Try.prog 5 #[.slice a n c, .slice a2 m c2] w fun e w' => e = .returned (.bool true) ∧ Below w.heap.size w w' := by
  by_cases h : n ≤ 1048576 ∧ m ≤ 1048576 ∧ n + m ≤ 1048576
  · obtain ⟨h1, h2, h3⟩ := h
    have d2 : decide ((1048576 : Int) < m) = false := by simp; omega
    by_cases g1 : n ≤ 131072
    · have d1 : decide ((131072 : Int) < n) = false := by simp; omega
      by_cases g2 : 6 * n + 2 + m ≤ 1048576
      · exact enc_core a a2 n c m c2 Z Y w ha ha2 hB hB2 hz g1 h2 g2 (fun w => zb15 a a2 n c m c2 w h1 h2 h3)
      · have d3 : decide ((1048576 : Int) < 6 * n + 2 + m) = true := by simp; omega
        clear hz hB hB2 ha ha2
        go_enter Try.func5, Try.ntmps5
        go_wp2_with (go_at_call 15; refine (zb15 _ _ _ _ _ _ _ h1 h2 h3).mono ?_; rintro e w' ⟨rfl, rfl⟩)
        go_ret
        exact ⟨rfl, Below.refl _ _⟩
    · have d1 : decide ((131072 : Int) < n) = true := by simp; omega
      clear hz hB hB2 ha ha2
      go_enter Try.func5, Try.ntmps5
      go_wp2_with (go_at_call 15; refine (zb15 _ _ _ _ _ _ _ h1 h2 h3).mono ?_; rintro e w' ⟨rfl, rfl⟩)
      go_ret
      exact ⟨rfl, Below.refl _ _⟩
  · have H : Hid (¬ (n ≤ 1048576 ∧ m ≤ 1048576 ∧ n + m ≤ 1048576)) := h
    clear hz hB hB2 ha ha2 h
    go_enter Try.func5, Try.ntmps5
    go_wp2_with (go_at_call 15; refine (zb15_no _ _ _ _ _ _ _ H.out).mono ?_; rintro e w' ⟨rfl, rfl⟩)
    go_ret
    exact ⟨rfl, Below.refl _ _⟩
end Go.Proofs.Qxb6605296a
