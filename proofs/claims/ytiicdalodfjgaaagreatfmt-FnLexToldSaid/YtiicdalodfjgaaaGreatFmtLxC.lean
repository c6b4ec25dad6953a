/- The parser's lexer: white space, where it stands, pieces of fodder. -/
import Derived.Test.YtiicdalodfjgaaaGreatFmtLxB
import Derived.Deep.LoopGhost
import Derived.Handy
namespace Go.Proofs.YtiicdalodfjgaaaGreatFmt
open Go.RowKit Go.Extern.Stop Go.Stop Go.Extern
abbrev S0 : Value := .string ⟨#[]⟩
theorem info99 : (Tryz.prog.info? 99).map (fun i => (i.zero, i.size, i.bytes)) = some (some (.agg #[.slice none 0 0, S0, S0, S0, .pointer none, S0, .int .i64 0, .int .i64 0, .int .i64 0, .int .i64 0, .int .i64 0]), 11, 136) := by kernel_rfl
theorem info83 : (Tryz.prog.info? 83).map (fun i => (i.zero, i.size, i.bytes)) = some (some (.agg #[.slice none 0 0, .int .i64 0, .int .i64 0, .int .i64 0]), 4, 48) := by kernel_rfl
variable {F : Interp} {s : ByteArray} {b p ts c : Nat} {w : World}

theorem below_setN {b k : Nat} {w w' : World} (h : Below b w w') (i : Nat) (u : Value) (hk : b ≤ k) : Below b w (w'.setCell ⟨k, i, none⟩ u) := by
  obtain ⟨h1, h2, h3, h4, h5⟩ := h
  exact ⟨h1, h2, h3, by rw [set_size]; exact h4, fun j hj => by rw [set_other w' k i u j (by omega)]; exact h5 j hj⟩
theorem new_kept {w w1 : World} {o : Obj} (hb : Below (w.alloc o).heap.size (w.alloc o) w1) : w1.heap[w.heap.size]? = some o := (hb.block _ (by simp)).trans (heap_alloc_new w o)
theorem size56 : (Tryz.prog.info? 56).map (·.size) = some 2 := by kernel_rfl
/-! ### where it stands -/
theorem lfp_any (x y z : Int) (w : World) : Calls Tryz.prog 53 #[.agg #[.int .i64 x, .int .i64 y, .int .i64 z]] w fun e w' => (∃ l k : Int, e = .returned (.agg #[.int .i64 l, .int .i64 k])) ∧ Below w.heap.size w w' := by
  go_enter Tryz.func53, Tryz.ntmps53
  go_wp2_with fail
  go_returns
  exact ⟨⟨_, _, rfl⟩, ((Below.refl _ _).alloc (Nat.le_refl _) _).alloc (by simp) _⟩
theorem location_any (h : LxL F s b p ts c w) : Calls Tryz.prog 32 #[.pointer (some ⟨b, 0, none⟩)] w fun e w' => (∃ l k : Int, e = .returned (.agg #[.int .i64 l, .int .i64 k])) ∧ Below w.heap.size w w' := by
  obtain ⟨d, m, sa, tv, fv, tl, tc, fr, ln, ls, n1, n2, xs1, xs2, hI⟩ := h
  have c10 := blk_cell hI.blk 10
  have c11 := blk_cell hI.blk 11
  have c12 := blk_cell hI.blk 12
  simp [lxC] at c10 c11 c12
  have hal : ∀ o, Below w.heap.size w (w.alloc o) := fun o => (Below.refl _ _).alloc (Nat.le_refl _) _
  have lb := hI.lt
  go_enter Tryz.func32, Tryz.ntmps32
  go_wp2_with (go_at_call 53; refine (lfp_any _ _ _ _).mono ?_; rintro e w1 ⟨⟨l, k, rfl⟩, hb1⟩; have hk1 := new_kept hb1; have k0 := blk_cell hk1 0; have k1 := blk_cell hk1 1; simp at k0 k1; have f0 := blk_thaw hk1 0; have f1 := blk_thaw hk1 1)
  (try simp only [Exit.inBlock, Exit.then])
  refine bodyPost_ret (results_cell_row rfl _ _ w.heap.size 56 #[.int .i64 l, .int .i64 k] (0, 0) _ rfl (by simpa using blk_set (blk_set hk1 0 (.int .i64 l)) 1 (.int .i64 k)) Tryz.underlying56 rfl size56) rfl ?_
  exact ⟨⟨l, k, rfl⟩, below_setN (below_setN ((hal _).trans (hb1.mono (by simp))) _ _ (Nat.le_refl _)) _ _ (Nat.le_refl _)⟩

set_option maxRecDepth 100000 in
set_option maxHeartbeats 3200000 in
theorem reset_any (h : LxL F s b p ts c w) : Calls Tryz.prog 28 #[.pointer (some ⟨b, 0, none⟩)] w fun e w' => (∃ v, e = .returned v) ∧ LxL F s b p p c w' ∧ Below b w w' := by
  obtain ⟨d, m, sa, tv, fv, tl, tc, fr, ln, ls, n1, n2, xs1, xs2, hI⟩ := h
  have c10 := blk_cell hI.blk 10
  have c6 := blk_cell hI.blk 6
  simp [lxC] at c10 c6
  have z6 := blk_thaw hI.blk 6
  have hI6 := hI.set6 p (Nat.le_refl _)
  have HL6 : LxL F s b p p c (w.setCell ⟨b, 6, none⟩ (.int .i64 p)) := ⟨_, _, _, _, _, _, _, _, _, _, _, _, _, _, hI6⟩
  have hB6 : Below b w (w.setCell ⟨b, 6, none⟩ (.int .i64 p)) := below_set (Below.refl b w) _ _
  have lb := hI6.lt
  go_enter Tryz.func28, Tryz.ntmps28
  go_wp2_with (go_at_call 32; refine (location_any HL6).mono ?_; rintro e w1 ⟨⟨l, k, rfl⟩, hb1⟩; have hI1 := hI6.below hb1; have d7 := blk_cell hI1.blk 7; have d8 := blk_cell hI1.blk 8; simp [lxC] at d7 d8; have z7 := blk_thaw hI1.blk 7; have z8 := blk_thaw hI1.blk 8)
  go_end0
  exact ⟨⟨_, rfl⟩, ⟨_, _, _, _, _, _, _, _, _, _, _, _, _, _, (hI1.set7 l).set8 k⟩, below_set (below_set (hB6.trans (hb1.mono (Nat.le_of_lt lb))) _ _) _ _⟩

/-! ### white space -/
def WsPost (F : Interp) (s : ByteArray) (b p ts c : Nat) (w : World) (e : Ending) (w' : World) : Prop :=
  (∃ nl ind : Int, e = .returned (.tuple #[.int .i64 nl, .int .i64 ind]) ∧ (nl = 0 ∨ p < scan s wsB p)) ∧ LxL F s b (scan s wsB p) ts c w' ∧ Below b w w' ∧ w.grownBy w' (some b)
set_option maxRecDepth 100000 in
set_option maxHeartbeats 6400000 in
theorem white_any (h : LxL F s b p ts c w) (hs : s.size ≤ 2000) : Calls Tryz.prog 25 #[.pointer (some ⟨b, 0, none⟩)] w fun e w' => WsPost F s b p ts c w e w' := by
  have hp := h.lep
  have lb := h.lt
  go_enter Tryz.func25, Tryz.ntmps25
  go_wp2_with (go_at_call 26; refine (peek_lx h).mono ?_; rintro e w1 ⟨rfl, hb1⟩)
  have h1 := h.below hb1
  have hB1 : Below b w w1 := hb1.mono (Nat.le_of_lt lb)
  have hG1 : w.grownBy w1 (some b) := only_below hb1
  clear hb1
  go_loopg [4, 5, 6] (s.size + 1 - p) (fun k r x y wr => ∃ (j : Nat) (xi yi : Int), r = .int .i32 (pk s j) ∧ x = .int .i64 xi ∧ y = .int .i64 yi ∧ p ≤ j ∧ s.size - j < k ∧ Hid (scan s wsB j = scan s wsB p) ∧ (yi = 0 ∨ p < j) ∧ LxL F s b j ts c wr ∧ Below b w wr ∧ w.grownBy wr (some b))
  case atStart => exact ⟨p, 0, 0, rfl, rfl, rfl, Nat.le_refl _, by omega, Lib.hid rfl, .inl rfl, h1, hB1, hG1⟩
  case round =>
    clear h1 hB1 hG1
    obtain ⟨j, xi, yi, rfl, rfl, rfl, hpj, hk, HS, hy, HL, hB, hG⟩ := hrel
    obtain ⟨k, rfl⟩ : ∃ m, gk = m + 1 := ⟨gk - 1, by omega⟩
    have hj := HL.lep
    cases hws : wsR (pk s j) with
    | false =>
      have HST : Hid (j = scan s wsB p) := Lib.hid (by
        rw [← HS.out, scan_stop s wsB j]
        rw [wsR_pk] at hws
        simpa using hws)
      go_wp2_with (go_at_call 48; refine (ws_any _ _).mono ?_; rintro e w' ⟨rfl, rfl⟩)
      go_ret2
      unfold WsPost
      rw [← HST.out]
      exact ⟨⟨_, _, rfl, hy⟩, HL, hB, hG⟩
    | true =>
      have hws' := hws
      rw [wsR_pk] at hws'
      simp only [Bool.and_eq_true, decide_eq_true_eq] at hws'
      obtain ⟨hlt, hwb⟩ := hws'
      have h128 : gb s j < 128 := by unfold wsB at hwb; simp at hwb; omega
      have HN : Hid (nx s j = j + 1) := Lib.hid (nx_low s j hlt h128)
      have HPK : Hid (pk s j = (gb s j : Int)) := Lib.hid (pk_low s j hlt h128)
      have HST : Hid (scan s wsB (j + 1) = scan s wsB p) := Lib.hid (by rw [← HS.out, scan_step s wsB j hlt hwb])
      have hcas : gb s j = 10 ∨ gb s j = 32 ∨ gb s j = 9 ∨ gb s j = 13 := by unfold wsB at hwb; simp at hwb; omega
      obtain ⟨r, hr⟩ : ∃ x, pk s j = x := ⟨_, rfl⟩
      have hrc : r = 10 ∨ r = 32 ∨ r = 9 ∨ r = 13 := by rw [← hr, HPK.out]; omega
      have hnx := next_any HL hs
      unfold NxPost at hnx
      rw [HN.out] at hnx
      rw [hr] at hws hnx ⊢
      clear hr hwb hcas HPK
      rcases hrc with rfl | rfl | rfl | rfl
      all_goals (
        go_wp2_with (first | (go_at_call 48; refine (ws_any _ _).mono ?_; rintro e w' ⟨rfl, rfl⟩) | (go_at_call 27; refine hnx.mono ?_; rintro e w2 ⟨rfl, hL2, hb2, hg2⟩) | (go_at_call 26; refine (peek_lx hL2).mono ?_; rintro e w3 ⟨rfl, hb3⟩))
        go_roundg k
        case measure => omega
        case rel => exact ⟨j + 1, _, _, rfl, rfl, rfl, by omega, by omega, HST, .inr (by omega), hL2.below hb3, (hB.trans hb2).trans (hb3.mono (Nat.le_of_lt hL2.lt)), only_trans (only_trans hG hg2) (only_below hb3)⟩)

/-! ### fodder -/
def okF (k : Int) (n : Nat) (x y : Int) : Prop := (k = 0 ∧ n ≤ 1) ∨ (k = 1 ∧ n = 1 ∧ x = 0 ∧ y = 0) ∨ (k = 2 ∧ 1 ≤ n)
set_option maxRecDepth 100000 in
set_option maxHeartbeats 3200000 in
theorem mfe_any (k x y : Int) (a : Option Addr) (n cap : Nat) (w : World) (hk : okF k n x y) : Calls Tryz.prog 50 #[.int .i64 k, .int .i64 x, .int .i64 y, .slice a n cap] w fun e w' => e = .returned (.agg #[.slice a n cap, .int .i64 k, .int .i64 x, .int .i64 y]) ∧ Below w.heap.size w w' := by
  have hal : ∀ o, Below w.heap.size w (w.alloc o) := fun o => (Below.refl _ _).alloc (Nat.le_refl _) _
  rcases hk with ⟨rfl, hn⟩ | ⟨rfl, rfl, rfl, rfl⟩ | ⟨rfl, hn⟩
  · have t : decide ((1 : Int) < (n : Int)) = false := by simp; omega
    go_enter Tryz.func50, Tryz.ntmps50
    go_wp2_with fail
    go_returns
    exact ⟨rfl, hal _⟩
  · go_enter Tryz.func50, Tryz.ntmps50
    go_wp2_with fail
    go_returns
    exact ⟨rfl, hal _⟩
  · have t : ((n : Int) == 0) = false := by simp; omega
    go_enter Tryz.func50, Tryz.ntmps50
    go_wp2_with fail
    go_returns
    exact ⟨rfl, hal _⟩
end Go.Proofs.YtiicdalodfjgaaaGreatFmt
