/- The parser's lexer: fodder is appended with care. -/
import Derived.Test.YtiicdalodfjgaaaGreatFmtLxJ
import Derived.Deep.DeepCutAuto
namespace Go.Proofs.YtiicdalodfjgaaaGreatFmt
open Go.RowKit Go.Extern.Stop Go.Stop Go.Extern
variable {F : Interp} {s : ByteArray} {b p ts c : Nat} {w : World}

set_option maxRecDepth 100000 in
set_option maxHeartbeats 3200000 in
theorem clean_any {base n : Nat} {v : Value} {xs : List Value} (h : w.ownsRow base 83 4 v n xs) (hk : FodOk n xs) (hn : n ≤ 100000) : Calls Tryz.prog 87 #[v] w fun e w' => (∃ x : Bool, e = .returned (.bool x)) ∧ w = w' := by
  rcases h.2 with ⟨rfl, h0⟩ | ⟨g, cap, cur, rfl, hbg, hg, hcap, hcm, hcs, htk⟩
  · subst h0
    go_enter Tryz.func87, Tryz.ntmps87
    go_wp2_with fail
    go_ret
    exact ⟨⟨_, rfl⟩, rfl⟩
  · by_cases h0 : n = 0
    · subst h0
      go_enter Tryz.func87, Tryz.ntmps87
      go_wp2_with fail
      go_ret
      exact ⟨⟨_, rfl⟩, rfl⟩
    · obtain ⟨m, rfl⟩ : ∃ m, n = m + 1 := ⟨n - 1, by omega⟩
      obtain ⟨k, hkk⟩ := hk m (by omega)
      have hcell : w.cell? ⟨g, m * 4 + 1, none⟩ = some (.int .i64 k) := by
        rw [blk_cell hg, show m * 4 + 1 = 4 * m + 1 by omega]
        rw [← htk, List.getElem?_take, if_pos (by omega)] at hkk
        simpa using hkk
      have t1 : (0 : Int) < ((m + 1 : Nat) : Int) := by omega
      have hw : IntKind.i64.wrap (((m + 1 : Nat) : Int) - 1) = (m : Int) := by rw [IntWalk.i64_in _ (by omega)]; omega
      have t2 : (m : Int) < ((m + 1 : Nat) : Int) := by omega
      have t3 : (0 : Int) ≤ (m : Int) := by omega
      go_enter Tryz.func87, Tryz.ntmps87
      go_wp2_with fail
      go_ret
      exact ⟨⟨_, rfl⟩, rfl⟩

abbrev elC (a : Option Addr) (n cap : Nat) (k x y : Int) : Array Value := #[.slice a n cap, .int .i64 k, .int .i64 x, .int .i64 y]
theorem c5_of {d m : ByteArray} {sa : Option Addr} {tv fv : Value} {tl tc : Int} {fr : Bool} {ln ls : Int} {n1 n2 : Nat} {xs1 xs2 : List Value} (h : LxI F s b p ts c d m sa tv fv tl tc fr ln ls n1 n2 xs1 xs2 w) : w.cell? ⟨b, 5, none⟩ = some fv := by
  have := blk_cell h.blk 5
  simpa using this
theorem grown_allocK {w w1 : World} {o : Obj} {row : Option Nat} (h : (w.alloc o).grownBy w1 row) : w.grownBy w1 row := grown_alloc (o := o) ⟨h.1, h.2, h.3, h.4, h.5⟩
theorem blk_c5 {d m : ByteArray} {sa : Option Addr} {tv fv : Value} {tl tc : Int} {fr : Bool} {ln ls : Int} (h : w.heap[b]? = some (.cells (lxC d m s (.pointer sa) tv fv ts p tl tc fr ln ls) 68 (0, 0))) : w.cell? ⟨b, 5, none⟩ = some fv := by
  have := blk_cell h 5
  simpa using this
theorem far5 {d m : ByteArray} {sa : Option Addr} {tv fv : Value} {tl tc : Int} {fr : Bool} {ln ls : Int} {n1 n2 : Nat} {xs1 xs2 : List Value} {w1 : World} {o : Obj} {row : Option Nat} (hg : (w.alloc o).grownBy w1 row) (h : LxI F s b p ts c d m sa tv fv tl tc fr ln ls n1 n2 xs1 xs2 w) (hbt : some b ≠ row) :
    w1.heap[b]? = some (.cells (lxC d m s (.pointer sa) tv fv ts p tl tc fr ln ls) 68 (0, 0)) := ((grown_allocK hg).block b h.lt hbt).trans h.blk
set_option maxRecDepth 100000 in
set_option maxHeartbeats 6400000 in
theorem fodAppend_any (x y : Int) (a : Option Addr) (n cap : Nat) (h : LxL F s b p ts c w) (hc : c ≤ 100000) :
    Calls Tryz.prog 81 #[.pointer (some ⟨b, 5, none⟩), .agg #[.slice a n cap, .int .i64 2, .int .i64 x, .int .i64 y]] w fun e w' => (∃ v, e = .returned v) ∧ LxL F s b p ts (c + 2) w' ∧ Below b w w' := by
  have lb := h.lt
  obtain ⟨i0, hi0, hz0, hz1, hz2⟩ := info_parts info83
  have hB1 : Below w.heap.size w (w.alloc (.cells (elC a n cap 2 x y) 83)) := (Below.refl _ _).alloc (Nat.le_refl _) _
  obtain ⟨d, m, sa, tv, fv, tl, tc, fr, ln, ls, n1, n2, xs1, xs2, hI'⟩ := h
  have hI := hI'.below hB1
  have hfg : ∀ g, fv.ownBlock = some g → g < w.heap.size := fun g hg => (ownBlock_ge hI'.own2 g hg).2
  clear hI'
  have hB1b : Below b w (w.alloc (.cells (elC a n cap 2 x y) 83)) := hB1.mono (Nat.le_of_lt lb)
  have hel : (w.alloc (.cells (elC a n cap 2 x y) 83)).heap[w.heap.size]? = some (.cells (elC a n cap 2 x y) 83 (0, 0)) := heap_alloc_new w _
  obtain ⟨g0, hg0⟩ : ∃ g, w.heap.size = g := ⟨_, rfl⟩
  have hgb : b < g0 := by omega
  go_enter Tryz.func81, Tryz.ntmps81
  go_upto_region 1 with (fail)
  rw [hg0] at hel hfg
  generalize w.alloc (.cells (elC a n cap 2 x y) 83) = w0 at *
  clear hB1
  have c5 := c5_of hI
  have hcl := clean_any hI.own2 hI.kind (by have := hI.len2; omega)
  have e1 := blk_cell hel 1
  simp at e1
  go_cut [13] (fun v wx => v = .bool false ∧ w0 = wx)
  case first =>
    go_wp2_with (go_at_call 87; refine hcl.mono ?_; rintro e w' ⟨⟨v, rfl⟩, rfl⟩)
    all_goals (
      go_meet
      exact ⟨(by first | rfl | (cases v <;> rfl)), rfl⟩)
  case rest =>
    obtain ⟨rfl, rfl⟩ := hcut
    go_upto_region 7 with (fail)
    go_cut [64] (fun v wx => (∃ vb : Bool, v = .bool vb) ∧ w0 = wx)
    case first =>
      go_wp2_with (go_at_call 87; refine hcl.mono ?_; rintro e w' ⟨⟨v, rfl⟩, rfl⟩)
      all_goals (
        go_meet
        exact ⟨⟨_, rfl⟩, rfl⟩)
    case rest =>
      obtain ⟨⟨vb, rfl⟩, rfl⟩ := hcut
      clear hcl
      go_upto_if 64 with (fail)
      go_cut [] (fun wx => LxL F s b p ts (c + 1) wx ∧ Below b w wx ∧ wx.heap[g0]? = some (.cells (elC a n cap 2 x y) 83 (0, 0)))
      case first =>
        cases vb with
        | false =>
          go_wp2_with fail
          go_meet
          exact ⟨LxL.more ⟨_, _, _, _, _, _, _, _, _, _, _, _, _, _, hI⟩ (by omega), hB1b, hel⟩
        | true =>
          have lb0 := hI.lt
          have hl2 := hI.len2
          have hbt : some b ≠ fv.ownBlock := fun e => by have := (ownBlock_ge hI.own2 b e.symm).1; omega
          have e3 := blk_cell hel 3
          simp at e3
          have hW : ∀ o, Below w0.heap.size w0 (w0.alloc o).drew := fun o => below_drewN ((Below.refl _ _).alloc (Nat.le_refl _) o) 1
          have c5d : ∀ o, (w0.alloc o).drew.cell? ⟨b, 5, none⟩ = some fv := fun o => c5_of (hI.below (hW o))
          have e3d : ∀ o, (w0.alloc o).drew.cell? ⟨g0, 3, none⟩ = some (.int .i64 y) := fun o => by
            have := blk_cell (((hW o).block g0 (blk_lt hel)).trans hel) 3
            simpa using this
          go_wp2_with fail
          go_region_law (first | (refine step_append_lies _ (by rfl) _ _ _ (by rfl) (b + 1) 83 i0 _ 4 48 Tryz.underlying64 hi0 hz0 hz1 hz2 rfl (by omega) fv n2 xs2 (by rfl) (hI1.own2.alloc _) ⟨w1.heap.size, 0, none⟩ 1 1 [.slice (some ⟨w0.heap.size, 0, none⟩) 0 0, .int .i64 0, .int .i64 0, .int .i64 y] (by rfl) (by rfl) (World.news_of_block (cs := #[.slice (some ⟨w0.heap.size, 0, none⟩) 0 0, .int .i64 0, .int .i64 0, .int .i64 y]) (t := 83) (fr := (0, 0)) (heap_alloc_new w1 _)) (by simp [Value.oneCell']) (by omega) (by unfold maxLen; omega) (by omega) (by simp; omega) (w1.heap.size + 1) (by simp) ?_; intro gg cap9 w3 hown3 hgrow hat hlt; (have hb3 := far5 hgrow hI1 hbt); (have z5' := blk_thaw hb3 5); (have c5' := blk_c5 hb3)) | (go_simp; go_at_call 50; refine (mfe_any 0 0 y _ 0 0 _ (.inl ⟨rfl, by omega⟩)).mono ?_; rintro e w1 ⟨rfl, hb1⟩; have hI1 := (hI.below (hW _)).below hb1; have d5 := c5_of hI1; have lb1 := hI1.lt; have hel1 := (hb1.block g0 (Nat.lt_of_lt_of_le (blk_lt hel) (hW _).size)).trans (((hW _).block g0 (blk_lt hel)).trans hel); have hB9 := (hW _).trans (hb1.mono (hW _).size); have al5 : ∀ o, (w1.alloc o).cell? ⟨b, 5, none⟩ = some fv := fun o => c5_of (hI1.below ((Below.refl _ _).alloc (Nat.le_refl _) o))))
          all_goals (
            have hg' := grown_allocK hgrow
            have hfin := hI1.growF hown3 0 rfl hg' hat (Nat.le_succ _) (Nat.le_refl _)
            go_wp2_with fail
            go_meet
            refine ⟨⟨_, _, _, _, _, _, _, _, _, _, _, _, _, _, hfin.1⟩, below_set ((hB1b.trans (hB9.mono (Nat.le_of_lt lb0))).trans hfin.2) _ _, ?_⟩
            rw [set_other _ b 5 _ g0 (by omega), hg'.block g0 (blk_lt hel1) (fun e => by have := hfg g0 e.symm; omega)]
            exact hel1)
      case rest =>
        obtain ⟨HL2, hB2, hel2⟩ := hcut
        generalize wc = w2 at *
        clear hI hel e1 c5 hB1b
        obtain ⟨d, m, sa, tv, fv, tl, tc, fr, ln, ls, n1, n2, xs1, xs2, hI⟩ := HL2
        have c5 := c5_of hI
        have e0 := blk_cell hel2 0
        have e1 := blk_cell hel2 1
        have e2 := blk_cell hel2 2
        have e3 := blk_cell hel2 3
        simp at e0 e1 e2 e3
        have lb2 := hI.lt
        have z5 := blk_thaw hI.blk 5
        have hl2 := hI.len2
        have hown := hI.own2
        have hbt : some b ≠ fv.ownBlock := fun e => by have := (ownBlock_ge hI.own2 b e.symm).1; omega
        have hfz : ∀ o, (w2.alloc o).drew.frozen? ⟨b, 5, none⟩ = false := fun o => by
          show (w2.alloc o).frozen? _ = false
          have := Below.heap_alloc w2 o b lb2
          simp [World.frozen?, this, hI.blk]
        have hfc : ∀ o, (w2.alloc o).drew.cell? ⟨b, 5, none⟩ = some fv := fun o => by
          show (w2.alloc o).cell? _ = _
          rw [World.cell?_of_block (Below.heap_alloc w2 o b lb2)]
          exact c5
        go_wp2_with fail
        go_region_law (first | (refine step_append_lies _ (by rfl) _ _ _ (by rfl) (b + 1) 83 i0 _ 4 48 Tryz.underlying64 hi0 hz0 hz1 hz2 rfl (by omega) fv n2 xs2 (by rfl) ((hown.alloc _).drew) ⟨w2.heap.size, 0, none⟩ 1 1 [.slice a n cap, .int .i64 2, .int .i64 x, .int .i64 y] (by rfl) (by rfl) (World.news_of_block (cs := #[.slice a n cap, .int .i64 2, .int .i64 x, .int .i64 y]) (t := 83) (fr := (0, 0)) (heap_alloc_new w2 _)) (by simp [Value.oneCell']) (by omega) (by unfold maxLen; omega) (by omega) (by simp; omega) (w2.heap.size + 1) (by simp) ?_; intro gg cap9 w1 hown1 hgrow hat hlt; (have z5' : w1.frozen? ⟨b, 5, none⟩ = false := by rw [hgrow.frozen_far _ (by simp; omega) hbt]; exact hfz _); (have c5' : w1.cell? ⟨b, 5, none⟩ = some fv := by rw [hgrow.cell_far _ (by simp; omega) hbt]; exact hfc _)))
        all_goals (
          have hg' := grown_alloc hgrow
          have hfin := hI.growF (w1 := w1) (H := w2.heap.size + 1) hown1 2 rfl hg' hat (by omega) (Nat.le_refl _)
          go_wp2_with fail
          go_end0
          exact ⟨⟨_, rfl⟩, ⟨_, _, _, _, _, _, _, _, _, _, _, _, _, _, hfin.1⟩, below_set (hB2.trans hfin.2) _ _⟩)

set_option maxRecDepth 100000 in
set_option maxHeartbeats 6400000 in
theorem addSafe_any (x y : Int) (a : Option Addr) (n cap : Nat) (h : LxL F s b p ts c w) (hn : 1 ≤ n) (hc : c ≤ 100000) :
    Calls Tryz.prog 63 #[.pointer (some ⟨b, 0, none⟩), .int .i64 2, .int .i64 x, .int .i64 y, .slice a n cap] w fun e w' => (∃ v, e = .returned v) ∧ LxL F s b p ts (c + 2) w' ∧ Below b w w' := by
  have lb := h.lt
  go_enter Tryz.func63, Tryz.ntmps63
  go_upto_region 1 with (go_at_call 50; refine (mfe_any 2 _ _ _ _ _ _ (.inr (.inr ⟨rfl, hn⟩))).mono ?_; rintro e w1 ⟨rfl, hb1⟩)
  have hB2 : Below b w (w1.alloc (.cells (elC a n cap 2 x y) 83)) := (hb1.alloc hb1.size _).mono (Nat.le_of_lt lb)
  have HL2 : LxL F s b p ts c (w1.alloc (.cells (elC a n cap 2 x y) 83)) := h.below (hb1.alloc hb1.size _)
  obtain ⟨g0, hg0⟩ : ∃ g, w1.heap.size = g := ⟨_, rfl⟩
  have hel : (w1.alloc (.cells (elC a n cap 2 x y) 83)).heap[g0]? = some (.cells (elC a n cap 2 x y) 83 (0, 0)) := by rw [← hg0]; exact heap_alloc_new w1 _
  rw [hg0]
  generalize w1.alloc (.cells (elC a n cap 2 x y) 83) = w2 at *
  have e0 := blk_cell hel 0
  have e1 := blk_cell hel 1
  have e2 := blk_cell hel 2
  have e3 := blk_cell hel 3
  simp at e0 e1 e2 e3
  have hd : Below w2.heap.size w2 w2.drew := below_drewN (Below.refl _ w2) 1
  have HLd := HL2.below hd
  have HF := fodAppend_any x y a n cap HLd hc
  go_region_with (go_at_call 81; refine HF.mono ?_; rintro e w3 ⟨⟨v, rfl⟩, hL3, hb3⟩)
  all_goals (
    go_wp2_with fail
    go_end0
    exact ⟨⟨_, rfl⟩, hL3, (hB2.trans (hd.mono (Nat.le_of_lt HL2.lt))).trans hb3⟩)
end Go.Proofs.YtiicdalodfjgaaaGreatFmt
