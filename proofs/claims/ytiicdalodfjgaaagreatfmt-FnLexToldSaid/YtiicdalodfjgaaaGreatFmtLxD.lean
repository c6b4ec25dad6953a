/- The parser's lexer: fodder and tokens are appended. -/
import Derived.Test.YtiicdalodfjgaaaGreatFmtLxC
namespace Go.Proofs.YtiicdalodfjgaaaGreatFmt
open Go.RowKit Go.Extern.Stop Go.Stop Go.Extern
variable {F : Interp} {s : ByteArray} {b p ts c : Nat} {w : World}

theorem fod_append {n : Nat} {xs news : List Value} (h : FodOk n xs) (hl : xs.length = n * 4) (k : Int) (hn : news[1]? = some (.int .i64 k)) : FodOk (n + 1) (xs ++ news) := by
  intro i hi
  by_cases h1 : i < n
  · obtain ⟨k', hk'⟩ := h i h1
    exact ⟨k', by rw [List.getElem?_append_left (by omega)]; exact hk'⟩
  · refine ⟨k, ?_⟩
    rw [List.getElem?_append_right (by omega), show 4 * i + 1 - xs.length = 1 by omega]
    exact hn
section
variable {d m : ByteArray} {sa : Option Addr} {tv fv : Value} {tl tc : Int} {fr : Bool} {ln ls : Int} {n1 n2 : Nat} {xs1 xs2 : List Value}
/-- what an append to the fodder leaves. -/
theorem LxI.growF {w1 : World} {g cap H c' : Nat} {news : List Value} (h : LxI F s b p ts c d m sa tv fv tl tc fr ln ls n1 n2 xs1 xs2 w)
    (hown : w1.ownsRow (b + 1) 83 4 (.slice (some ⟨g, 0, none⟩) (n2 + 1) cap) (n2 + 1) (xs2 ++ news)) (k : Int) (hn : news[1]? = some (.int .i64 k)) (hg : w.grownBy w1 fv.ownBlock) (hat : fv.ownBlock = some g ∨ g = H) (hH : w.heap.size ≤ H) (hc : c + 1 ≤ c') :
    LxI F s b p ts c' d m sa tv (.slice (some ⟨g, 0, none⟩) (n2 + 1) cap) tl tc fr ln ls n1 (n2 + 1) xs1 (xs2 ++ news) (w1.setCell ⟨b, 5, none⟩ (.slice (some ⟨g, 0, none⟩) (n2 + 1) cap)) ∧ Below b w w1 := by
  have hbt : some b ≠ fv.ownBlock := fun e => by have := (ownBlock_ge h.own2 b e.symm).1; omega
  have hblk := hg.block b h.lt hbt
  rw [h.blk] at hblk
  have hown1 : w1.ownsRow (b + 1) 99 11 tv n1 xs1 := row_keep h.own1 (fun j hj hl => hg.block j hl (fun e => h.apart j hj e.symm))
  have hB : Below b w w1 := by
    obtain ⟨g1, g2, g3, g4, g5⟩ := hg
    refine ⟨g1, g2, g3, g4, fun j hj => g5 j (by have := h.lt; omega) (fun e => ?_)⟩
    have := (ownBlock_ge h.own2 j e.symm).1
    omega
  have hlen := h.len2
  have hlen1 := h.len1
  refine ⟨⟨by simpa using blk_set hblk 5 (.slice (some ⟨g, 0, none⟩) (n2 + 1) cap), row_set hown1, row_set hown, ?_, by omega, by omega, h.tsp, h.lep, fod_append h.kind h.own2.1 k hn, ?_, tabs_below h.tabs (below_set hB _ _) h.lo, h.lo⟩, hB⟩
  · intro j hj hc
    have hk' : g = j := by simpa [Value.ownBlock] using hc
    subst hk'
    rcases hat with hat | rfl
    · exact h.apart g hj hat
    · have := (ownBlock_ge h.own1 g hj).2; omega
  · show F.answers (w1.setCell _ _).tape
    rw [(below_set hB 5 _).tape]
    exact h.ans
/-- what an append to the tokens leaves. -/
theorem LxI.growT {w1 : World} {g cap H c' : Nat} {news : List Value} (h : LxI F s b p ts c d m sa tv fv tl tc fr ln ls n1 n2 xs1 xs2 w)
    (hown : w1.ownsRow (b + 1) 99 11 (.slice (some ⟨g, 0, none⟩) (n1 + 1) cap) (n1 + 1) (xs1 ++ news)) (hg : w.grownBy w1 tv.ownBlock) (hat : tv.ownBlock = some g ∨ g = H) (hH : w.heap.size ≤ H) (hc : c + 1 ≤ c') :
    LxI F s b p ts c' d m sa (.slice (some ⟨g, 0, none⟩) (n1 + 1) cap) fv tl tc fr ln ls (n1 + 1) n2 (xs1 ++ news) xs2 (w1.setCell ⟨b, 4, none⟩ (.slice (some ⟨g, 0, none⟩) (n1 + 1) cap)) ∧ Below b w w1 := by
  have hbt : some b ≠ tv.ownBlock := fun e => by have := (ownBlock_ge h.own1 b e.symm).1; omega
  have hblk := hg.block b h.lt hbt
  rw [h.blk] at hblk
  have hown2 : w1.ownsRow (b + 1) 83 4 fv n2 xs2 := row_keep h.own2 (fun j hj hl => hg.block j hl (fun e => h.apart j e.symm hj))
  have hB : Below b w w1 := by
    obtain ⟨g1, g2, g3, g4, g5⟩ := hg
    refine ⟨g1, g2, g3, g4, fun j hj => g5 j (by have := h.lt; omega) (fun e => ?_)⟩
    have := (ownBlock_ge h.own1 j e.symm).1
    omega
  have hlen := h.len2
  have hlen1 := h.len1
  refine ⟨⟨by simpa using blk_set hblk 4 (.slice (some ⟨g, 0, none⟩) (n1 + 1) cap), row_set hown, row_set hown2, ?_, by omega, by omega, h.tsp, h.lep, h.kind, ?_, tabs_below h.tabs (below_set hB _ _) h.lo, h.lo⟩, hB⟩
  · intro j hj hc
    have hk' : g = j := by simpa [Value.ownBlock] using hj
    subst hk'
    rcases hat with hat | rfl
    · exact h.apart g hat hc
    · have := (ownBlock_ge h.own2 g hc).2; omega
  · show F.answers (w1.setCell _ _).tape
    rw [(below_set hB 4 _).tape]
    exact h.ans
/-- new, empty fodder. -/
theorem LxI.newF (h : LxI F s b p ts c d m sa tv fv tl tc fr ln ls n1 n2 xs1 xs2 w) : LxI F s b p ts c d m sa tv (.slice (some ⟨w.heap.size, 0, none⟩) 0 0) tl tc fr ln ls n1 0 xs1 [] ((w.alloc (.cells #[] 83)).setCell ⟨b, 5, none⟩ (.slice (some ⟨w.heap.size, 0, none⟩) 0 0)) := by
  have hal : Below w.heap.size w (w.alloc (.cells #[] 83)) := (Below.refl _ _).alloc (Nat.le_refl _) _
  have h1 := h.below hal
  have hown : (w.alloc (.cells #[] 83)).ownsRow (b + 1) 83 4 (.slice (some ⟨w.heap.size, 0, none⟩) 0 0) 0 [] := World.ownsRow_made w #[] 0 (by have := h.lt; omega) (by unfold maxLen; omega) rfl
  refine ⟨by simpa using blk_set h1.blk 5 (.slice (some ⟨w.heap.size, 0, none⟩) 0 0), row_set h1.own1, row_set hown, ?_, h.len1, Nat.zero_le _, h.tsp, h.lep, fun i hi => by omega, ?_, tabs_below h1.tabs (below_set (Below.refl b _) _ _) h.lo, h.lo⟩
  · intro j hj hc
    have hk' : w.heap.size = j := by simpa [Value.ownBlock] using hc
    subst hk'
    have := (ownBlock_ge h.own1 _ hj).2
    omega
  · exact h1.ans
end
theorem grown_alloc2 {w w1 : World} {o : Obj} {row : Option Nat} (h : (w.alloc o).drew.grownBy w1 row) : w.grownBy w1 row := grown_alloc h

set_option maxRecDepth 100000 in
set_option maxHeartbeats 6400000 in
theorem addFodder_any (k x y : Int) (a : Option Addr) (n cap : Nat) (h : LxL F s b p ts c w) (hk : okF k n x y) (hc : c ≤ 100000) :
    Calls Tryz.prog 29 #[.pointer (some ⟨b, 0, none⟩), .int .i64 k, .int .i64 x, .int .i64 y, .slice a n cap] w fun e w' => (∃ v, e = .returned v) ∧ LxL F s b p ts (c + 1) w' ∧ Below b w w' := by
  have HL := h
  have lb := h.lt
  obtain ⟨i0, hi0, hz0, hz1, hz2⟩ := info_parts info83
  go_enter Tryz.func29, Tryz.ntmps29
  go_upto_region 1 with (go_at_call 50; refine (mfe_any _ _ _ _ _ _ _ hk).mono ?_; rintro e w1 ⟨rfl, hb1⟩)
  have hB2 : Below b w (w1.alloc (.cells #[.slice a n cap, .int .i64 k, .int .i64 x, .int .i64 y] 83)) := (hb1.alloc hb1.size _).mono (Nat.le_of_lt lb)
  have HL2 : LxL F s b p ts c (w1.alloc (.cells #[.slice a n cap, .int .i64 k, .int .i64 x, .int .i64 y] 83)) := h.below (hb1.alloc hb1.size _)
  obtain ⟨g0, hg0⟩ : ∃ g, w1.heap.size = g := ⟨_, rfl⟩
  have hel : (w1.alloc (.cells #[.slice a n cap, .int .i64 k, .int .i64 x, .int .i64 y] 83)).heap[g0]? = some (.cells #[.slice a n cap, .int .i64 k, .int .i64 x, .int .i64 y] 83 (0, 0)) := by rw [← hg0]; exact heap_alloc_new w1 _
  rw [hg0]
  generalize w1.alloc (.cells #[.slice a n cap, .int .i64 k, .int .i64 x, .int .i64 y] 83) = w2 at *
  obtain ⟨d, m, sa, tv, fv, tl, tc, fr, ln, ls, n1, n2, xs1, xs2, hI⟩ := HL2
  have c5 := blk_cell hI.blk 5
  simp [lxC] at c5
  have e0 := blk_cell hel 0
  have e1 := blk_cell hel 1
  have e2 := blk_cell hel 2
  have e3 := blk_cell hel 3
  simp at e0 e1 e2 e3
  have lb2 := hI.lt
  have z5 := blk_thaw hI.blk 5
  have hl2 := hI.len2
  have hown := hI.own2
  have hbt : some b ≠ fv.ownBlock := fun e => by have := (ownBlock_ge hI.own2 b e.symm).1; omega
  have hfz : ∀ o, (w2.alloc o).drew.frozen? ⟨b, 5, none⟩ = false := fun o => by
    show (w2.alloc o).frozen? _ = false
    have := Below.heap_alloc w2 o b lb2
    simp [World.frozen?, this, hI.blk]
  have hfc : ∀ o, (w2.alloc o).drew.cell? ⟨b, 5, none⟩ = some fv := fun o => by
    show (w2.alloc o).cell? _ = _
    rw [World.cell?_of_block (Below.heap_alloc w2 o b lb2)]
    exact c5
  go_region_law (first | (refine step_append_lies _ (by rfl) _ _ _ (by rfl) (b + 1) 83 i0 _ 4 48 Tryz.underlying64 hi0 hz0 hz1 hz2 rfl (by omega) fv n2 xs2 (by rfl) ((hown.alloc _).drew) ⟨w2.heap.size, 0, none⟩ 1 1 [.slice a n cap, .int .i64 k, .int .i64 x, .int .i64 y] (by rfl) (by rfl) (World.news_of_block (cs := #[.slice a n cap, .int .i64 k, .int .i64 x, .int .i64 y]) (t := 83) (fr := (0, 0)) (heap_alloc_new w2 _)) (by simp [Value.oneCell']) (by omega) (by unfold maxLen; omega) (by omega) (by simp; omega) (w2.heap.size + 1) (by simp) ?_; intro gg cap w1 hown1 hgrow hat hlt; (have z5' : w1.frozen? ⟨b, 5, none⟩ = false := by rw [hgrow.frozen_far _ (by simp; omega) hbt]; exact hfz _); (have c5' : w1.cell? ⟨b, 5, none⟩ = some fv := by rw [hgrow.cell_far _ (by simp; omega) hbt]; exact hfc _)))
  all_goals (
    have hg' := grown_alloc hgrow
    have hfin := hI.growF (w1 := w1) (H := w2.heap.size + 1) hown1 k rfl hg' hat (by omega) (Nat.le_refl _)
    go_wp2_with fail
    go_end0
    exact ⟨⟨_, rfl⟩, ⟨_, _, _, _, _, _, _, _, _, _, _, _, _, _, hfin.1⟩, below_set (hB2.trans hfin.2) _ _⟩)
end Go.Proofs.YtiicdalodfjgaaaGreatFmt
