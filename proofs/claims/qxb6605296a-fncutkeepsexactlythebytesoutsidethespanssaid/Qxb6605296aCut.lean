/-
  'cut' (23): for spans in order the result is a new row of the bytes whose index lies in no span.
-/
import Derived.Test.Qxb6605296aSpans
import Derived.Test.Qxb6605296aCutPlain
namespace Go.Proofs.Qxb6605296a
open Go.RowKit

def vals (Z : Nat → Int) (l : List Nat) : List Value := l.map fun j => .int .u8 (Z j)
theorem vals_one (Z : Nat → Int) (l : List Nat) : ∀ u ∈ vals Z l, u.oneCell' = true := by
  intro u hu
  obtain ⟨_, _, rfl⟩ := List.mem_map.1 hu
  rfl

theorem own_lt {w : World} {B m n : Nat} {xs : List Value} (h : w.ownsRow B 5 1 (.slice (some ⟨B, 0, none⟩) m n) m xs) : B < w.heap.size := by
  obtain ⟨_, h | ⟨g, cap, cur, hv, _, hh, _⟩⟩ := h
  · cases h.1
  · simp only [Value.slice.injEq, Option.some.injEq, Addr.mk.injEq] at hv
    obtain ⟨⟨rfl, _⟩, _⟩ := hv
    exact (Array.getElem?_eq_some_iff.1 hh).1
/-- the cells of 'data[p:p+m]' -/
theorem seg_cells {w : World} {g n p m : Nat} {Z : Nat → Int} (hZ : ∀ i, i < n → w.cell? ⟨g, i, none⟩ = some (.int .u8 (Z i))) (hpm : p + m ≤ n) {q : Option Addr}
    (hq : q = if n = p then some (⟨g, 0, none⟩ : Addr) else some ⟨g, p, none⟩) : ∀ ad, q = some ad → ∀ j u, (vals Z (List.range' p m))[j]? = some u → w.cell? (ad.add j) = some u := by
  intro ad had j u hu
  have hj : j < m := by
    have := (List.getElem?_eq_some_iff.1 hu).1
    simpa [vals] using this
  rw [hq, if_neg (by omega)] at had
  obtain rfl := Option.some.inj had
  rw [Addr.add_lit, hZ (p + j) (by omega)]
  rw [← hu]
  simp [vals, hj]
/-- one cut more: what the append has left is the next round's row -/
theorem cut_step {w wr w2 : World} {o : Obj} {n p m : Nat} {Z : Nat → Int} {l l' : List Nat} (hb : Below w.heap.size w wr) (hlt : w.heap.size < wr.heap.size) (hg : (wr.alloc o).grownBy w2 (some w.heap.size))
    (hl : l' = l ++ List.range' p m)
    (ho : w2.ownsRow w.heap.size 5 1 (.slice (some ⟨w.heap.size, 0, none⟩) (l.length + m) n) (l.length + m) (vals Z l ++ vals Z (List.range' p m))) :
    l.length + m = l'.length ∧ Below w.heap.size w w2 ∧ w2.ownsRow w.heap.size 5 1 (.slice (some ⟨w.heap.size, 0, none⟩) l'.length n) l'.length (vals Z l') := by
  have e1 : l.length + m = l'.length := by rw [hl]; simp
  have e2 : vals Z l ++ vals Z (List.range' p m) = vals Z l' := by rw [hl]; simp [vals]
  rw [e1, e2] at ho
  exact ⟨e1, (hb.alloc (by omega) o).grown hg (by simp; omega) (fun k hk => by cases hk; exact Nat.le_refl _), ho⟩
theorem cut_fin {w wr w2 : World} {n p m : Nat} {Z : Nat → Int} {l l' : List Nat} (hb : Below w.heap.size w wr) (hlt : w.heap.size < wr.heap.size) (hg : wr.grownBy w2 (some w.heap.size))
    (hl : l' = l ++ List.range' p m)
    (ho : w2.ownsRow w.heap.size 5 1 (.slice (some ⟨w.heap.size, 0, none⟩) (l.length + m) n) (l.length + m) (vals Z l ++ vals Z (List.range' p m))) :
    l.length + m = l'.length ∧ Below w.heap.size w w2 ∧ w2.ownsRow w.heap.size 5 1 (.slice (some ⟨w.heap.size, 0, none⟩) l'.length n) l'.length (vals Z l') := by
  have e1 : l.length + m = l'.length := by rw [hl]; simp
  have e2 : vals Z l ++ vals Z (List.range' p m) = vals Z l' := by rw [hl]; simp [vals]
  rw [e1, e2] at ho
  exact ⟨e1, hb.grown hg (by omega) (fun k hk => by cases hk; exact Nat.le_refl _), ho⟩
theorem ret_slice {a : Option Addr} {k k' c : Nat} (h : k = k') : Ending.returned (.slice a k c) = .returned (.slice a k' c) := by rw [h]
theorem new_cell {wr w2 : World} {B : Nat} {x y : Value} {t : TypeId} (hlt : B < wr.heap.size) (hg : (wr.alloc (.cells #[x, y] t)).grownBy w2 (some B)) : w2.cell? ⟨wr.heap.size, 1, none⟩ = some y := by
  rw [World.cell?_of_block (w := wr.alloc (.cells #[x, y] t)) (hg.block _ (by simp) (by simp; omega))]
  simp

set_option maxHeartbeats 1000000 in
theorem cut_some (g n N cs : Nat) (sa : Option Addr) (Z S : Nat → Int) (w : World) (hn : n ≤ 1048576) (hN : N ≤ 65536) (hg : g < w.heap.size) (hZ : ∀ i, i < n → w.cell? ⟨g, i, none⟩ = some (.int .u8 (Z i)))
    (hS : Sps w sa N S) (hO : Hid (InOrder S n N)) :
    Calls Try.prog 23 #[.slice (some ⟨g, 0, none⟩) n n, .slice sa N cs] w fun e w' => e = .returned (.slice (some ⟨w.heap.size, 0, none⟩) (kept S N n).length n) ∧ Below w.heap.size w w' ∧
      w'.ownsRow w.heap.size 5 1 (.slice (some ⟨w.heap.size, 0, none⟩) (kept S N n).length n) (kept S N n).length (vals Z (kept S N n)) := by
  obtain ⟨i5, hi, hz0, hz1, hz2⟩ := info_parts info5
  go_enter Try.func23, Try.ntmps23
  go_wp2_with (at_make; refine wpList_make_own _ rfl _ _ 22 rfl w.heap.size 5 i5 (.int .u8 0) 1 Try.underlying22 hi hz0 hz1 .i64 .i64 _ n rfl rfl rfl ?_ ?_ (Nat.le_refl _) ?_)
  · rw [hz2]; omega
  · unfold maxLen; omega
  intro w0 hown0 hgrow0
  go_wp2
  go_loopg [5, 6, 14] N (fun gk v at' i wr => ∃ k : Nat, k ≤ N ∧ gk = N - k ∧ i = .int .i64 k ∧ at' = .int .i64 (atI S k) ∧ v = .slice (some ⟨w.heap.size, 0, none⟩) (kept S N (atI S k).toNat).length n ∧
      Below w.heap.size w wr ∧ wr.ownsRow w.heap.size 5 1 (.slice (some ⟨w.heap.size, 0, none⟩) (kept S N (atI S k).toNat).length n) (kept S N (atI S k).toNat).length (vals Z (kept S N (atI S k).toNat)))
  case atStart => exact ⟨0, Nat.zero_le _, rfl, rfl, rfl, rfl, (Below.refl _ _).grown hgrow0 (Nat.le_refl _) (fun _ h => by cases h), hown0⟩
  case round =>
    obtain ⟨k, hk, rfl, rfl, rfl, rfl, hb, hown⟩ := hrel
    clear hown0 hgrow0
    by_cases hlt : k < N
    · rcases hS with h0 | ⟨bs, off, rfl, hbl, hc⟩
      · omega
      · have g1 : wr.cell? ⟨bs, off + k * 2, none⟩ = some (.int .i64 (S (k * 2))) := (hb.cell (p := ⟨bs, off + k * 2, none⟩) hbl).trans (hc (k * 2) (by omega))
        have g1' : wr.cell? ⟨bs, off + k * 2 + 1, none⟩ = some (.int .i64 (S (k * 2 + 1))) := (hb.cell (p := ⟨bs, off + k * 2 + 1, none⟩) hbl).trans (hc (k * 2 + 1) (by omega))
        obtain ⟨p0, pn⟩ := atI_nonneg hO.out k hk
        obtain ⟨o1, o2, o3⟩ := hO.out k hlt
        clear hc
        have hk1 := kept_le S N (atI S k).toNat
        have HS : Hid (kept S N (atI S (k + 1)).toNat = kept S N (atI S k).toNat ++ List.range' (atI S k).toNat ((S (k * 2)).toNat - (atI S k).toNat)) := kept_step hO.out hlt
        obtain ⟨q, hq⟩ : ∃ q, (if n = (atI S k).toNat then some (⟨g, 0, none⟩ : Addr) else some ⟨g, (atI S k).toNat, none⟩) = q := ⟨_, rfl⟩
        have HQ : Hid (q = if n = (atI S k).toNat then some (⟨g, 0, none⟩ : Addr) else some ⟨g, (atI S k).toNat, none⟩) := hq.symm
        go_wp2_with (at_builtin; refine wpList_append_fits_any _ rfl (.tmp 18) (.tmp 23) 22 rfl w.heap.size 5 i5 1 Try.underlying22 hi hz1 w.heap.size _ n _ rfl (hown.alloc _) _ _ _ (vals Z (List.range' (atI S k).toNat ((S (k * 2)).toNat - (atI S k).toNat))) rfl ?c1 ?c2 ?c3 ?c4 ?c5 ?_)
        case c1 => simp [vals]
        case c2 => intro h; rw [HQ.out] at h; split at h <;> cases h
        case c3 => exact seg_cells (fun i hi => (World.cell?_alloc_lt _ _ _ (by show g < wr.heap.size; have := hb.size; omega)).trans ((hb.cell (p := ⟨g, i, none⟩) hg).trans (hZ i hi))) (by omega) HQ.out
        case c4 => exact vals_one Z _
        case c5 => omega
        intro w2 hown2 hgrow2
        have hwl := own_lt hown
        have g2 := new_cell hwl hgrow2
        obtain ⟨e1, s1, s2⟩ := cut_step hb hwl hgrow2 HS.out hown2
        have E1 : Hid _ := e1
        clear hq e1 hown2 hgrow2 g1 g1' hown hb
        go_wp2
        go_roundg (N - (k + 1))
        case measure => omega
        case rel => exact ⟨k + 1, by omega, rfl, by go_num, rfl, by rw [E1.out], s1, s2⟩
    · have hkn : k = N := by omega
      subst hkn
      obtain ⟨p0, pn⟩ := atI_nonneg hO.out k hk
      have hk1 := kept_le S k (atI S k).toNat
      have HS : Hid (kept S k n = kept S k (atI S k).toNat ++ List.range' (atI S k).toNat (n - (atI S k).toNat)) := kept_last hO.out
      obtain ⟨q, hq⟩ : ∃ q, (if n = (atI S k).toNat then some (⟨g, 0, none⟩ : Addr) else some ⟨g, (atI S k).toNat, none⟩) = q := ⟨_, rfl⟩
      have HQ : Hid (q = if n = (atI S k).toNat then some (⟨g, 0, none⟩ : Addr) else some ⟨g, (atI S k).toNat, none⟩) := hq.symm
      go_wp2_with (at_builtin; refine wpList_append_fits_any _ rfl (.tmp 28) (.tmp 31) 22 rfl w.heap.size 5 i5 1 Try.underlying22 hi hz1 w.heap.size _ n _ rfl hown _ _ _ (vals Z (List.range' (atI S k).toNat (n - (atI S k).toNat))) rfl ?c1 ?c2 ?c3 ?c4 ?c5 ?_)
      case c1 => simp [vals]
      case c2 => intro h; rw [HQ.out] at h; split at h <;> cases h
      case c3 => exact seg_cells (fun i hi => (hb.cell (p := ⟨g, i, none⟩) hg).trans (hZ i hi)) (by omega) HQ.out
      case c4 => exact vals_one Z _
      case c5 => omega
      intro w2 hown2 hgrow2
      have hwl := own_lt hown
      obtain ⟨e1, s1, s2⟩ := cut_fin hb hwl hgrow2 HS.out hown2
      have E1 : Hid _ := e1
      clear hq e1 hown2 hgrow2 hown hb
      go_wp2
      go_ret
      exact ⟨ret_slice E1.out, s1, s2⟩

set_option maxHeartbeats 1000000 in
theorem cut_nil (N cs : Nat) (sa : Option Addr) (S : Nat → Int) (w : World) (hN : N ≤ 65536) (hS : Sps w sa N S) (hO : Hid (InOrder S 0 N)) :
    Calls Try.prog 23 #[.slice none 0 0, .slice sa N cs] w fun e w' => e = .returned (.slice (some ⟨w.heap.size, 0, none⟩) 0 0) ∧ Below w.heap.size w w' ∧ w.heap.size < w'.heap.size := by
  obtain ⟨i5, hi, hz0, hz1, hz2⟩ := info_parts info5
  go_enter Try.func23, Try.ntmps23
  go_wp2_with (at_make; refine wpList_make_own _ rfl _ _ 22 rfl w.heap.size 5 i5 (.int .u8 0) 1 Try.underlying22 hi hz0 hz1 .i64 .i64 _ 0 rfl rfl rfl ?_ ?_ (Nat.le_refl _) ?_)
  · rw [hz2]; omega
  · unfold maxLen; omega
  intro w0 hown0 hgrow0
  go_wp2
  go_loopg [5, 6, 14] N (fun gk v at' i wr => ∃ k : Nat, k ≤ N ∧ gk = N - k ∧ i = .int .i64 k ∧ at' = .int .i64 0 ∧ v = .slice (some ⟨w.heap.size, 0, none⟩) 0 0 ∧
      Below w.heap.size w wr ∧ wr.ownsRow w.heap.size 5 1 (.slice (some ⟨w.heap.size, 0, none⟩) 0 0) 0 [])
  case atStart => exact ⟨0, Nat.zero_le _, rfl, rfl, rfl, rfl, (Below.refl _ _).grown hgrow0 (Nat.le_refl _) (fun _ h => by cases h), hown0⟩
  case round =>
    obtain ⟨k, hk, rfl, rfl, rfl, rfl, hb, hown⟩ := hrel
    clear hown0 hgrow0
    have hwl := own_lt hown
    by_cases hlt : k < N
    · rcases hS with h0 | ⟨bs, off, rfl, hbl, hc⟩
      · omega
      · obtain ⟨p0, pn⟩ := atI_nonneg hO.out k hk
        obtain ⟨o1, o2, o3⟩ := hO.out k hlt
        have z1 : S (k * 2) = 0 := by omega
        have z2 : S (k * 2 + 1) = 0 := by omega
        have g1 : wr.cell? ⟨bs, off + k * 2, none⟩ = some (.int .i64 0) := by rw [← z1]; exact (hb.cell (p := ⟨bs, off + k * 2, none⟩) hbl).trans (hc (k * 2) (by omega))
        have g1' : wr.cell? ⟨bs, off + k * 2 + 1, none⟩ = some (.int .i64 0) := by rw [← z2]; exact (hb.cell (p := ⟨bs, off + k * 2 + 1, none⟩) hbl).trans (hc (k * 2 + 1) (by omega))
        clear hc p0 pn o1 o2 o3 z1 z2
        go_wp2_with (at_builtin; refine wpList_append_fits_any _ rfl (.tmp 18) (.tmp 23) 22 rfl w.heap.size 5 i5 1 Try.underlying22 hi hz1 w.heap.size _ 0 _ rfl (hown.alloc _) _ _ _ [] rfl ?c1 ?c2 ?c3 ?c4 ?c5 ?_)
        case c1 => rfl
        case c3 => intro _ _ j u h; simp at h
        case c4 => intro u h; simp at h
        case c5 => omega
        intro w2 hown2 hgrow2
        have g2 := new_cell hwl hgrow2
        have s1 : Below w.heap.size w w2 := (hb.alloc (by omega) _).grown hgrow2 (by simp; omega) (fun k hk => by cases hk; exact Nat.le_refl _)
        clear hgrow2 g1 g1' hown hb
        go_wp2
        go_roundg (N - (k + 1))
        case measure => omega
        case rel => exact ⟨k + 1, by omega, rfl, by go_num, rfl, rfl, s1, hown2⟩
    · have hkn : k = N := by omega
      subst hkn
      go_wp2
      go_ret
      exact ⟨rfl, hb, hwl⟩
end Go.Proofs.Qxb6605296a
