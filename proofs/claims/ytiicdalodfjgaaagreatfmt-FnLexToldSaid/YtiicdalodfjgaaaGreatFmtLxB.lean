/- The parser's lexer: the relation between its memory and its place; white space; next; where it stands. -/
import Derived.Test.YtiicdalodfjgaaaGreatFmtLxA
import Derived.Test.YtiicdalodfjgaaaGreatFmtPp
import Derived.Stop.CallBack
import Derived.Stop.IfaceNil
import GoSem.ClaimData
namespace Go.Proofs.YtiicdalodfjgaaaGreatFmt
open Go.RowKit Go.Extern.Stop Go.Stop Go.Extern

/-- every element of a row of fodder has a kind. -/
def FodOk (n : Nat) (xs : List Value) : Prop := ∀ i, i < n → ∃ k : Int, xs[4 * i + 1]? = some (.int .i64 k)
/-- the parser's lexer at block b: its text s, its place p, where its token begins ts; no more than c tokens and c pieces of fodder. -/
structure LxI (F : Interp) (s : ByteArray) (b p ts c : Nat) (d m : ByteArray) (sa : Option Addr) (tv fv : Value) (tl tc : Int) (fr : Bool) (ln ls : Int) (n1 n2 : Nat) (xs1 xs2 : List Value) (w : World) : Prop where
  blk : w.heap[b]? = some (.cells (lxC d m s (.pointer sa) tv fv ts p tl tc fr ln ls) 68 (0, 0))
  own1 : w.ownsRow (b + 1) 99 11 tv n1 xs1
  own2 : w.ownsRow (b + 1) 83 4 fv n2 xs2
  apart : ∀ g, tv.ownBlock = some g → fv.ownBlock ≠ some g
  len1 : n1 ≤ c
  len2 : n2 ≤ c
  tsp : ts ≤ p
  lep : p ≤ s.size
  kind : FodOk n2 xs2
  ans : F.answers w.tape
  tabs : Lib.Utf8Tabs 0 1 w
  lo : 2 ≤ b
def LxL (F : Interp) (s : ByteArray) (b p ts c : Nat) (w : World) : Prop := ∃ d m sa tv fv tl tc fr ln ls n1 n2 xs1 xs2, LxI F s b p ts c d m sa tv fv tl tc fr ln ls n1 n2 xs1 xs2 w
theorem tabs_below {b : Nat} {w w' : World} (hT : Lib.Utf8Tabs 0 1 w) (hb : Below b w w') (h2 : 2 ≤ b) : Lib.Utf8Tabs 0 1 w' := by
  obtain ⟨h1, h3⟩ := hT
  have h0 : ∀ k, w'.cell? ⟨0, k, none⟩ = w.cell? ⟨0, k, none⟩ := fun k => World.cell?_of_block (hb.block 0 (by omega))
  have h4 : ∀ k, w'.cell? ⟨1, k, none⟩ = w.cell? ⟨1, k, none⟩ := fun k => World.cell?_of_block (hb.block 1 (by omega))
  refine ⟨fun c hc => by rw [h0]; exact h1 c hc, fun i hi => ?_⟩
  rw [h4, h4]
  exact h3 i hi
variable {F : Interp} {s : ByteArray} {b p ts c : Nat} {d m : ByteArray} {sa : Option Addr} {tv fv : Value} {tl tc : Int} {fr : Bool} {ln ls : Int} {n1 n2 : Nat} {xs1 xs2 : List Value} {w w' : World}
theorem LxI.lt (h : LxI F s b p ts c d m sa tv fv tl tc fr ln ls n1 n2 xs1 xs2 w) : b < w.heap.size := blk_lt h.blk
theorem LxI.below (h : LxI F s b p ts c d m sa tv fv tl tc fr ln ls n1 n2 xs1 xs2 w) (hb : Below w.heap.size w w') : LxI F s b p ts c d m sa tv fv tl tc fr ln ls n1 n2 xs1 xs2 w' :=
  ⟨by rw [hb.block b (blk_lt h.blk)]; exact h.blk, row_keep h.own1 (fun g _ hl => hb.block g hl), row_keep h.own2 (fun g _ hl => hb.block g hl), h.apart, h.len1, h.len2, h.tsp, h.lep, h.kind, by rw [hb.tape]; exact h.ans, tabs_below h.tabs hb (by have := h.lt; have := h.lo; omega), h.lo⟩
theorem LxL.below (h : LxL F s b p ts c w) (hb : Below w.heap.size w w') : LxL F s b p ts c w' := by
  obtain ⟨d, m, sa, tv, fv, tl, tc, fr, ln, ls, n1, n2, xs1, xs2, h⟩ := h
  exact ⟨d, m, sa, tv, fv, tl, tc, fr, ln, ls, n1, n2, xs1, xs2, h.below hb⟩
theorem LxL.lt (h : LxL F s b p ts c w) : b < w.heap.size := by
  obtain ⟨d, m, sa, tv, fv, tl, tc, fr, ln, ls, n1, n2, xs1, xs2, h⟩ := h
  exact h.lt
theorem LxL.lep (h : LxL F s b p ts c w) : p ≤ s.size := by
  obtain ⟨d, m, sa, tv, fv, tl, tc, fr, ln, ls, n1, n2, xs1, xs2, h⟩ := h
  exact h.lep
theorem LxL.tsp (h : LxL F s b p ts c w) : ts ≤ p := by
  obtain ⟨d, m, sa, tv, fv, tl, tc, fr, ln, ls, n1, n2, xs1, xs2, h⟩ := h
  exact h.tsp
theorem LxL.c2 (h : LxL F s b p ts c w) : w.cell? ⟨b, 2, none⟩ = some (.string s) := by
  obtain ⟨d, m, sa, tv, fv, tl, tc, fr, ln, ls, n1, n2, xs1, xs2, h⟩ := h
  have := blk_cell h.blk 2
  simpa using this
theorem LxL.c6 (h : LxL F s b p ts c w) : w.cell? ⟨b, 6, none⟩ = some (.int .i64 ts) := by
  obtain ⟨d, m, sa, tv, fv, tl, tc, fr, ln, ls, n1, n2, xs1, xs2, h⟩ := h
  have := blk_cell h.blk 6
  simpa using this
theorem LxL.c10 (h : LxL F s b p ts c w) : w.cell? ⟨b, 10, none⟩ = some (.int .i64 p) := by
  obtain ⟨d, m, sa, tv, fv, tl, tc, fr, ln, ls, n1, n2, xs1, xs2, h⟩ := h
  have := blk_cell h.blk 10
  simpa using this
theorem LxL.c9 (h : LxL F s b p ts c w) : ∃ fr, w.cell? ⟨b, 9, none⟩ = some (.bool fr) := by
  obtain ⟨d, m, sa, tv, fv, tl, tc, fr, ln, ls, n1, n2, xs1, xs2, h⟩ := h
  have := blk_cell h.blk 9
  exact ⟨fr, by simpa using this⟩
theorem LxL.c12 (h : LxL F s b p ts c w) : ∃ ls : Int, w.cell? ⟨b, 12, none⟩ = some (.int .i64 ls) := by
  obtain ⟨d, m, sa, tv, fv, tl, tc, fr, ln, ls, n1, n2, xs1, xs2, h⟩ := h
  have := blk_cell h.blk 12
  exact ⟨ls, by simpa using this⟩
theorem LxL.c78 (h : LxL F s b p ts c w) : ∃ tl tc : Int, w.cell? ⟨b, 7, none⟩ = some (.int .i64 tl) ∧ w.cell? ⟨b, 8, none⟩ = some (.int .i64 tc) := by
  obtain ⟨d, m, sa, tv, fv, tl, tc, fr, ln, ls, n1, n2, xs1, xs2, h⟩ := h
  have h7 := blk_cell h.blk 7
  have h8 := blk_cell h.blk 8
  exact ⟨tl, tc, by simpa using h7, by simpa using h8⟩
theorem LxL.more (h : LxL F s b p ts c w) {c' : Nat} (hc : c ≤ c') : LxL F s b p ts c' w := by
  obtain ⟨d, m, sa, tv, fv, tl, tc, fr, ln, ls, n1, n2, xs1, xs2, h⟩ := h
  exact ⟨d, m, sa, tv, fv, tl, tc, fr, ln, ls, n1, n2, xs1, xs2, ⟨h.blk, h.own1, h.own2, h.apart, Nat.le_trans h.len1 hc, Nat.le_trans h.len2 hc, h.tsp, h.lep, h.kind, h.ans, h.tabs, h.lo⟩⟩
theorem LxI.set10 (h : LxI F s b p ts c d m sa tv fv tl tc fr ln ls n1 n2 xs1 xs2 w) (q : Nat) (h1 : ts ≤ q) (h2 : q ≤ s.size) : LxI F s b q ts c d m sa tv fv tl tc fr ln ls n1 n2 xs1 xs2 (w.setCell ⟨b, 10, none⟩ (.int .i64 q)) :=
  ⟨by simpa using blk_set h.blk 10 (.int .i64 q), row_set h.own1, row_set h.own2, h.apart, h.len1, h.len2, h1, h2, h.kind, h.ans, tabs_below h.tabs (below_set (Below.refl b w) _ _) h.lo, h.lo⟩
theorem LxI.set6 (h : LxI F s b p ts c d m sa tv fv tl tc fr ln ls n1 n2 xs1 xs2 w) (q : Nat) (h1 : q ≤ p) : LxI F s b p q c d m sa tv fv tl tc fr ln ls n1 n2 xs1 xs2 (w.setCell ⟨b, 6, none⟩ (.int .i64 q)) :=
  ⟨by simpa using blk_set h.blk 6 (.int .i64 q), row_set h.own1, row_set h.own2, h.apart, h.len1, h.len2, h1, h.lep, h.kind, h.ans, tabs_below h.tabs (below_set (Below.refl b w) _ _) h.lo, h.lo⟩
theorem LxI.set7 (h : LxI F s b p ts c d m sa tv fv tl tc fr ln ls n1 n2 xs1 xs2 w) (x : Int) : LxI F s b p ts c d m sa tv fv x tc fr ln ls n1 n2 xs1 xs2 (w.setCell ⟨b, 7, none⟩ (.int .i64 x)) :=
  ⟨by simpa using blk_set h.blk 7 (.int .i64 x), row_set h.own1, row_set h.own2, h.apart, h.len1, h.len2, h.tsp, h.lep, h.kind, h.ans, tabs_below h.tabs (below_set (Below.refl b w) _ _) h.lo, h.lo⟩
theorem LxI.set8 (h : LxI F s b p ts c d m sa tv fv tl tc fr ln ls n1 n2 xs1 xs2 w) (x : Int) : LxI F s b p ts c d m sa tv fv tl x fr ln ls n1 n2 xs1 xs2 (w.setCell ⟨b, 8, none⟩ (.int .i64 x)) :=
  ⟨by simpa using blk_set h.blk 8 (.int .i64 x), row_set h.own1, row_set h.own2, h.apart, h.len1, h.len2, h.tsp, h.lep, h.kind, h.ans, tabs_below h.tabs (below_set (Below.refl b w) _ _) h.lo, h.lo⟩
theorem LxI.set9 (h : LxI F s b p ts c d m sa tv fv tl tc fr ln ls n1 n2 xs1 xs2 w) (x : Bool) : LxI F s b p ts c d m sa tv fv tl tc x ln ls n1 n2 xs1 xs2 (w.setCell ⟨b, 9, none⟩ (.bool x)) :=
  ⟨by simpa using blk_set h.blk 9 (.bool x), row_set h.own1, row_set h.own2, h.apart, h.len1, h.len2, h.tsp, h.lep, h.kind, h.ans, tabs_below h.tabs (below_set (Below.refl b w) _ _) h.lo, h.lo⟩
theorem LxI.set11 (h : LxI F s b p ts c d m sa tv fv tl tc fr ln ls n1 n2 xs1 xs2 w) (x : Int) : LxI F s b p ts c d m sa tv fv tl tc fr x ls n1 n2 xs1 xs2 (w.setCell ⟨b, 11, none⟩ (.int .i64 x)) :=
  ⟨by simpa using blk_set h.blk 11 (.int .i64 x), row_set h.own1, row_set h.own2, h.apart, h.len1, h.len2, h.tsp, h.lep, h.kind, h.ans, tabs_below h.tabs (below_set (Below.refl b w) _ _) h.lo, h.lo⟩
theorem LxI.set12 (h : LxI F s b p ts c d m sa tv fv tl tc fr ln ls n1 n2 xs1 xs2 w) (x : Int) : LxI F s b p ts c d m sa tv fv tl tc fr ln x n1 n2 xs1 xs2 (w.setCell ⟨b, 12, none⟩ (.int .i64 x)) :=
  ⟨by simpa using blk_set h.blk 12 (.int .i64 x), row_set h.own1, row_set h.own2, h.apart, h.len1, h.len2, h.tsp, h.lep, h.kind, h.ans, tabs_below h.tabs (below_set (Below.refl b w) _ _) h.lo, h.lo⟩
theorem peek_lx (h : LxL F s b p ts c w) : Calls Tryz.prog 26 #[.pointer (some ⟨b, 0, none⟩)] w fun e w' => e = .returned (.int .i32 (pk s p)) ∧ Below w.heap.size w w' := by
  obtain ⟨d, m, sa, tv, fv, tl, tc, fr, ln, ls, n1, n2, xs1, xs2, h⟩ := h
  exact peek_any d m s (.pointer sa) tv fv ts p b tl tc fr ln ls w h.lep h.tabs h.blk

def hwR (r : Int) : Bool := r == 32 || (r == 9 || r == 13)
def wsR (r : Int) : Bool := r == 10 || hwR r
theorem hw_any (r : Int) (w : World) : Calls Tryz.prog 70 #[.int .i32 r] w fun e w' => e = .returned (.bool (hwR r)) ∧ w = w' := by
  go_enter Tryz.func70, Tryz.ntmps70
  go_wp2
  all_goals
    go_ret
    refine ⟨ret_bool ?_, rfl⟩
    rw [Bool.eq_iff_iff]
    simp [hwR]
    try omega
theorem ws_any (r : Int) (w : World) : Calls Tryz.prog 48 #[.int .i32 r] w fun e w' => e = .returned (.bool (wsR r)) ∧ w = w' := by
  cases h : (r == 10) with
  | true =>
    have HF : Hid (true = wsR r) := Lib.hid (by unfold wsR; rw [h]; rfl)
    go_enter Tryz.func48, Tryz.ntmps48
    go_wp2_with fail
    go_ret
    exact ⟨ret_bool HF.out, rfl⟩
  | false =>
    have HF : Hid (hwR r = wsR r) := Lib.hid (by unfold wsR; rw [h]; rfl)
    go_enter Tryz.func48, Tryz.ntmps48
    go_wp2_with (go_at_call 70; refine (hw_any _ _).mono ?_; rintro e w' ⟨rfl, rfl⟩)
    go_ret
    exact ⟨ret_bool HF.out, rfl⟩
theorem wsR_pk (s : ByteArray) (p : Nat) : wsR (pk s p) = (decide (p < s.size) && wsB (gb s p)) := by
  by_cases h : p < s.size
  · by_cases hl : gb s p < 128
    · rw [pk_low s p h hl, Bool.eq_iff_iff]
      unfold wsR hwR wsB
      simp [h]
      omega
    · have := pk_high s p h (by omega)
      rw [Bool.eq_iff_iff]
      unfold wsR hwR wsB
      simp [h]
      omega
  · rw [pk_end s p h, Bool.eq_iff_iff]
    simp [wsR, hwR, h]

theorem only_below {b : Nat} {w w' : World} (h : Below w.heap.size w w') : w.grownBy w' (some b) := ⟨h.os, h.tape, h.output, h.size, fun k hk _ => h.block k hk⟩
theorem only_set {b : Nat} {w w' : World} (h : w.grownBy w' (some b)) (i : Nat) (u : Value) : w.grownBy (w'.setCell ⟨b, i, none⟩ u) (some b) :=
  ⟨h.os, h.tape, h.output, by rw [set_size]; exact h.size, fun k hk hne => by rw [set_other w' b i u k (fun e => hne (by rw [e]))]; exact h.block k hk hne⟩
theorem only_trans {b : Nat} {w w1 w2 : World} (h : w.grownBy w1 (some b)) (h2 : w1.grownBy w2 (some b)) : w.grownBy w2 (some b) :=
  ⟨h2.os.trans h.os, h2.tape.trans h.tape, h2.output.trans h.output, Nat.le_trans h.size h2.size, fun k hk hne => (h2.block k (Nat.lt_of_lt_of_le hk h.size) hne).trans (h.block k hk hne)⟩
def NxPost (F : Interp) (s : ByteArray) (b p ts c : Nat) (w : World) (e : Ending) (w' : World) : Prop := e = .returned (.int .i32 (pk s p)) ∧ LxL F s b (nx s p) ts c w' ∧ Below b w w' ∧ w.grownBy w' (some b)
set_option maxRecDepth 100000 in
set_option maxHeartbeats 6400000 in
theorem next_any (h : LxL F s b p ts c w) (hs : s.size ≤ 2000) : Calls Tryz.prog 27 #[.pointer (some ⟨b, 0, none⟩)] w fun e w' => NxPost F s b p ts c w e w' := by
  have HL := h
  obtain ⟨d, m, sa, tv, fv, tl, tc, fr, ln, ls, n1, n2, xs1, xs2, hI⟩ := h
  have hp := hI.lep
  have c2 := HL.c2
  have c10 := HL.c10
  have hp0 : (0 : Int) ≤ (p : Int) := Int.natCast_nonneg _
  by_cases hlt : p < s.size
  · have H49 := fun w h => Tryz.utf8_DecodeRuneInString (s.extract p s.size) w h
    rw [decode_ext s p hlt] at H49
    have hId : ∀ n, LxI F s b p ts c d m sa tv fv tl tc fr ln ls n1 n2 xs1 xs2 (w.drewN n) := fun n => hI.below (below_drewN (Below.refl w.heap.size w) n)
    have HR : Hid (pk s p = (dr s p : Int)) := Lib.hid (by unfold pk; rw [if_pos hlt])
    have HN : Hid (nx s p = p + dw s p) := Lib.hid (by unfold nx; rw [if_pos hlt])
    have hdw := dec_width s p hlt
    have htp := hI.tsp
    have h1 : (p : Int) < (s.size : Int) := by omega
    have h1' : (p : Int) ≤ (s.size : Int) := by omega
    have h2 : decide ((s.size : Int) ≤ (p : Int)) = false := by simp; omega
    have hw : IntKind.i64.wrap ((p : Int) + (dw s p : Int)) = ((p + dw s p : Nat) : Int) := by rw [IntWalk.i64_in _ (by omega)]; omega
    obtain ⟨rr, hrr⟩ : ∃ x, dr s p = x := ⟨_, rfl⟩
    obtain ⟨ww, hww⟩ : ∃ x, dw s p = x := ⟨_, rfl⟩
    rw [hrr, hww] at H49
    rw [hww] at hw HN hdw
    rw [hrr] at HR
    clear hrr hww
    have hsz := fun n => (below_drewN (Below.refl w.heap.size w) n)
    clear HL
    go_enter Tryz.func27, Tryz.ntmps27
    go_wp2_with fail
    go_quiet (fail)
    go_wp2_with fail
    go_region_with (go_at_call 49; refine (H49 _ (hId _).tabs).mono ?_; rintro e w1 ⟨rfl, hb1⟩)
    all_goals (
      have hI1 := (hId _).below hb1
      have hB1 : Below b w w1 := ((hsz _).trans hb1).mono (Nat.le_of_lt hI.lt)
      have hG1 : w.grownBy w1 (some b) := only_below ((hsz _).trans hb1)
      have d10 := blk_cell hI1.blk 10
      have d9 := blk_cell hI1.blk 9
      have d11 := blk_cell hI1.blk 11
      have d12 := blk_cell hI1.blk 12
      simp [lxC] at d10 d9 d11 d12
      have z10 := blk_thaw hI1.blk 10
      have z9 := blk_thaw hI1.blk 9
      have z11 := blk_thaw hI1.blk 11
      have z12 := blk_thaw hI1.blk 12
      clear hId hsz H49 hI c2 c10 hb1
      by_cases e10 : rr = 10
      · have t : ((rr : Int) == 10) = true := by simp; omega
        have HR10 : Hid (pk s p = 10) := Lib.hid (by rw [HR.out, e10]; rfl)
        go_wp2_with fail
        go_ret
        unfold NxPost
        rw [HR10.out, HN.out]
        exact ⟨rfl, ⟨_, _, _, _, _, _, _, _, _, _, _, _, _, _, (((hI1.set10 (p + ww) (by omega) hdw.2).set12 _).set11 _).set9 _⟩, below_set (below_set (below_set (below_set hB1 _ _) _ _) _ _) _ _, only_set (only_set (only_set (only_set hG1 _ _) _ _) _ _) _ _⟩
      · have t : ((rr : Int) == 10) = false := by simp; omega
        cases fr with
        | false =>
          go_wp2_with fail
          go_ret
          unfold NxPost
          rw [HR.out, HN.out]
          exact ⟨rfl, ⟨_, _, _, _, _, _, _, _, _, _, _, _, _, _, hI1.set10 (p + ww) (by omega) hdw.2⟩, below_set hB1 _ _, only_set hG1 _ _⟩
        | true =>
          cases hws : wsR (rr : Int) with
          | true =>
            go_wp2_with (go_at_call 48; refine (ws_any _ _).mono ?_; rintro e w' ⟨rfl, rfl⟩)
            go_ret
            unfold NxPost
            rw [HR.out, HN.out]
            exact ⟨rfl, ⟨_, _, _, _, _, _, _, _, _, _, _, _, _, _, hI1.set10 (p + ww) (by omega) hdw.2⟩, below_set hB1 _ _, only_set hG1 _ _⟩
          | false =>
            go_wp2_with (go_at_call 48; refine (ws_any _ _).mono ?_; rintro e w' ⟨rfl, rfl⟩)
            go_ret
            unfold NxPost
            rw [HR.out, HN.out]
            exact ⟨rfl, ⟨_, _, _, _, _, _, _, _, _, _, _, _, _, _, (hI1.set10 (p + ww) (by omega) hdw.2).set9 _⟩, below_set (below_set hB1 _ _) _ _, only_set (only_set hG1 _ _) _ _⟩)
  · have HR : Hid (pk s p = -1) := Lib.hid (by unfold pk; rw [if_neg hlt])
    have HN : Hid (nx s p = p) := Lib.hid (by unfold nx; rw [if_neg hlt])
    have h1 : (s.size : Int) ≤ (p : Int) := by omega
    go_enter Tryz.func27, Tryz.ntmps27
    go_wp2_with fail
    go_quiet (fail)
    go_wp2_with fail
    go_ret
    unfold NxPost
    rw [HR.out, HN.out]
    exact ⟨rfl, HL.below (below_drewN (Below.refl _ _) _), below_drewN (Below.refl _ _) _, only_below (below_drewN (Below.refl _ _) _)⟩
end Go.Proofs.YtiicdalodfjgaaaGreatFmt
