/- The reference's lexer: comments. -/
import Derived.Test.YtiicdalodfjgaaaGreatFmtSpB
namespace Go.Proofs.YtiicdalodfjgaaaGreatFmt
open Go.RowKit

/-- what an append to the comments leaves. -/
theorem SpI.grow2 {s : ByteArray} {b p : Nat} {st : Int} {tv cv : Value} {wd co : Bool} {n1 n2 : Nat} {xs1 xs2 news : List Value} {w w1 : World} {g cap H : Nat} (h : SpI s b p st tv cv wd co n1 n2 xs1 xs2 w)
    (hown : w1.ownsRow (b + 1) 9 1 (.slice (some ⟨g, 0, none⟩) (n2 + 1) cap) (n2 + 1) news) (hg : w.grownBy w1 cv.ownBlock) (hat : cv.ownBlock = some g ∨ g = H) (hH : w.heap.size ≤ H) (hn : n2 + 1 ≤ p) :
    SpI s b p st tv (.slice (some ⟨g, 0, none⟩) (n2 + 1) cap) wd co n1 (n2 + 1) xs1 news (w1.setCell ⟨b, 4, none⟩ (.slice (some ⟨g, 0, none⟩) (n2 + 1) cap)) ∧ Below b w w1 := by
  have hbt : some b ≠ cv.ownBlock := fun e => by have := (ownBlock_ge h.own2 b e.symm).1; omega
  have hblk : w1.heap[b]? = some (.cells #[.string s, .int .i64 p, .int .i64 st, tv, cv, .bool wd, .bool co] 27 (0, 0)) := by rw [hg.block b (blk_lt h.blk) hbt]; exact h.blk
  have hown1 : w1.ownsRow (b + 1) 75 3 tv n1 xs1 := row_keep h.own1 (fun k hk hl => hg.block k hl (fun e => h.apart k hk e.symm))
  refine ⟨⟨by simpa using blk_set hblk 4 (.slice (some ⟨g, 0, none⟩) (n2 + 1) cap), row_set hown1, row_set hown, ?_, h.len1, hn⟩, ?_⟩
  · intro k hk hc
    have hk' : g = k := by simpa [Value.ownBlock] using hc
    subst hk'
    rcases hat with hat | rfl
    · exact h.apart g hk hat
    · have := (ownBlock_ge h.own1 g hk).2; omega
  · obtain ⟨g1, g2, g3, g4, g5⟩ := hg
    refine ⟨g1, g2, g3, g4, fun k hk => g5 k (by have := blk_lt h.blk; omega) (fun e => ?_)⟩
    have := (ownBlock_ge h.own2 k e.symm).1
    omega

theorem SpI.grow2' {s : ByteArray} {b p : Nat} {st : Int} {tv cv : Value} {wd co : Bool} {n1 n2 : Nat} {xs1 xs2 news : List Value} {w w1 : World} {g cap H : Nat} (h : SpI s b p st tv cv wd co n1 n2 xs1 xs2 w)
    (hown : w1.ownsRow (b + 1) 9 1 (.slice (some ⟨g, 0, none⟩) (n2 + 1) cap) (n2 + 1) news) (hg : w.grownBy w1 cv.ownBlock) (hat : cv.ownBlock = some g ∨ g = H) (hH : w.heap.size ≤ H) (q : Nat) (hq : p < q) :
    SpI s b q st tv (.slice (some ⟨g, 0, none⟩) (n2 + 1) cap) wd co n1 (n2 + 1) xs1 news ((w1.setCell ⟨b, 4, none⟩ (.slice (some ⟨g, 0, none⟩) (n2 + 1) cap)).setCell ⟨b, 1, none⟩ (.int .i64 q)) ∧ Below b w w1 := by
  have h2 := h.len2
  have hI : SpI s b q st tv cv wd co n1 n2 xs1 xs2 (w.setCell ⟨b, 1, none⟩ (.int .i64 q)) := h.setAt q (by omega)
  have hbt : some b ≠ cv.ownBlock := fun e => by have := (ownBlock_ge h.own2 b e.symm).1; omega
  have hblk : w1.heap[b]? = some (.cells #[.string s, .int .i64 p, .int .i64 st, tv, cv, .bool wd, .bool co] 27 (0, 0)) := by rw [hg.block b (blk_lt h.blk) hbt]; exact h.blk
  have hown1 : w1.ownsRow (b + 1) 75 3 tv n1 xs1 := row_keep h.own1 (fun k hk hl => hg.block k hl (fun e => h.apart k hk e.symm))
  refine ⟨⟨by simpa using blk_set (blk_set hblk 4 (.slice (some ⟨g, 0, none⟩) (n2 + 1) cap)) 1 (.int .i64 q), row_set (row_set hown1), row_set (row_set hown), ?_, hI.len1, by omega⟩, ?_⟩
  · intro k hk hc
    have hk' : g = k := by simpa [Value.ownBlock] using hc
    subst hk'
    rcases hat with hat | rfl
    · exact h.apart g hk hat
    · have := (ownBlock_ge h.own1 g hk).2; omega
  · obtain ⟨g1, g2, g3, g4, g5⟩ := hg
    refine ⟨g1, g2, g3, g4, fun k hk => g5 k (by have := blk_lt h.blk; omega) (fun e => ?_)⟩
    have := (ownBlock_ge h.own2 k e.symm).1
    omega

set_option maxRecDepth 100000 in
set_option maxHeartbeats 6400000 in
theorem line_any (s : ByteArray) (b p : Nat) (st : Int) (w : World) (h : SpL s b p st w) (hp : p < s.size) (hf : nolB (gb s p) = true) (hs : s.size ≤ 2000) :
    Calls Tryz.prog 10 #[.pointer (some ⟨b, 0, none⟩)] w fun e w' => (∃ v, e = .returned v) ∧ SpL s b (scan s nolB p) st w' ∧ Below b w w' := by
  obtain ⟨tv, cv, wd, co, n1, n2, xs1, xs2, hI⟩ := h
  obtain ⟨i0, hi0, hz0, hz1, hz2⟩ := info_parts info9
  have c0 := blk_cell hI.blk 0
  have c1 := blk_cell hI.blk 1
  have c4 := blk_cell hI.blk 4
  simp at c0 c1 c4
  have lb := blk_lt hI.blk
  have z4 := blk_thaw hI.blk 4
  have z1 := blk_thaw hI.blk 1
  have hl2 := hI.len2
  have hown := hI.own2
  have hbt : some b ≠ cv.ownBlock := fun e => by have := (ownBlock_ge hI.own2 b e.symm).1; omega
  have hfz : ∀ o, (w.alloc o).drew.frozen? ⟨b, 4, none⟩ = false := fun o => by
    show (w.alloc o).frozen? _ = false
    have := Below.heap_alloc w o b lb
    simp [World.frozen?, this, hI.blk]
  have hfc : ∀ o, (w.alloc o).drew.cell? ⟨b, 4, none⟩ = some cv := fun o => by
    show (w.alloc o).cell? _ = _
    rw [World.cell?_of_block (Below.heap_alloc w o b lb)]
    exact c4
  have hbd := scan_bounds s nolB (p + 1) (by omega)
  have hst := scan_step s nolB p hp hf
  go_enter Tryz.func10, Tryz.ntmps10
  go_wp2_with fail
  go_loopw [2] (fun i wr => ∃ j : Nat, i = .int .i64 j ∧ Hid (scan s nolB j = scan s nolB p) ∧ p ≤ j ∧ j ≤ s.size ∧ wr = w) (fun i _ => s.size - (intOf i).toNat)
  case atStart => exact ⟨p, rfl, Lib.hid rfl, Nat.le_refl _, by omega, rfl⟩
  case round =>
    obtain ⟨j, rfl, HS, hpj, hj, rfl⟩ := hrel
    by_cases hlt : j < s.size ∧ nolB (gb s j) = true
    · obtain ⟨hlt, hd⟩ := hlt
      have hgb : ∀ h : j < s.size, (s[j]'h).toNat = gb s j := fun h => (gb_in s j h).symm
      have HST := Lib.hid (scan_step s nolB j hlt hd)
      have hd' : gb s j ≠ 10 := by unfold nolB at hd; simpa using hd
      have t : ((gb s j : Int) == 10) = false := by simp; omega
      have t' : ((gb s j : Int) != 10) = true := by simp; omega
      go_wp2_with fail
      go_roundw
      case rel => exact ⟨j + 1, rfl, Lib.hid (by rw [← HS.out, HST.out]), by omega, by omega, trivial⟩
      case measure => simp [intOf]; omega
    · have hj' : scan s nolB p = j := by rw [← HS.out, scan_stop s nolB j hlt]
      have HJ := Lib.hid hj'
      rw [hj'] at hst
      rw [← hst] at hbd
      have hp0 : (0 : Int) ≤ (p : Int) := Int.natCast_nonneg _
      have hpq' : (p : Int) ≤ (j : Int) := by omega
      have hq' : (j : Int) ≤ (s.size : Int) := by omega
      have hpj1 : p < j := by omega
      clear hst hbd HS hj'
      by_cases hjs : j < s.size
      · have hgb : ∀ h : j < s.size, (s[j]'h).toNat = gb s j := fun h => (gb_in s j h).symm
        have h10 : gb s j = 10 := by
          have : ¬ nolB (gb s j) = true := fun hh => hlt ⟨hjs, hh⟩
          unfold nolB at this
          simpa using this
        have t : ((gb s j : Int) == 10) = true := by simp; omega
        have t' : ((gb s j : Int) != 10) = false := by simp; omega
        clear hlt
        go_wp2_with fail
        go_region_law (first | (refine step_append_lies _ (by rfl) _ _ _ (by rfl) (b + 1) 9 i0 _ 1 16 Tryz.underlying25 hi0 hz0 hz1 hz2 rfl (by omega) cv n2 xs2 (by rfl) ((hown.alloc _).drew) ⟨wr.heap.size, 0, none⟩ 1 1 [.string (s.extract p j)] (by rfl) (by rfl) (World.news_of_block (cs := #[.string (s.extract p j)]) (t := 9) (fr := (0, 0)) (heap_alloc_new wr _)) (by simp [Value.oneCell']) (by omega) (by unfold maxLen; omega) (by omega) (by simp; omega) (wr.heap.size + 1) (by simp) ?_; intro gg cap w1 hown1 hgrow hat hlt1; (have z4' : w1.frozen? ⟨b, 4, none⟩ = false := by rw [hgrow.frozen_far _ (by simp; omega) hbt]; exact hfz _); (have c4' : w1.cell? ⟨b, 4, none⟩ = some cv := by rw [hgrow.cell_far _ (by simp; omega) hbt]; exact hfc _)))
        all_goals (
          have hg' := grown_alloc hgrow
          have hfin := hI.grow2' (w1 := w1) (H := wr.heap.size + 1) hown1 hg' hat (by omega) j hpj1
          have z1' : w1.frozen? ⟨b, 1, none⟩ = false := by rw [hg'.frozen_far _ lb hbt]; exact z1
          have c1' : w1.cell? ⟨b, 1, none⟩ = some (.int .i64 p) := by rw [hg'.cell_far _ lb hbt]; exact c1
          go_wp2_with fail
          go_end0
          rw [HJ.out]
          exact ⟨⟨_, rfl⟩, ⟨_, _, _, _, _, _, _, _, hfin.1⟩, below_set (below_set hfin.2 _ _) _ _⟩)
      · clear hlt
        go_wp2_with fail
        go_region_law (first | (refine step_append_lies _ (by rfl) _ _ _ (by rfl) (b + 1) 9 i0 _ 1 16 Tryz.underlying25 hi0 hz0 hz1 hz2 rfl (by omega) cv n2 xs2 (by rfl) ((hown.alloc _).drew) ⟨wr.heap.size, 0, none⟩ 1 1 [.string (s.extract p j)] (by rfl) (by rfl) (World.news_of_block (cs := #[.string (s.extract p j)]) (t := 9) (fr := (0, 0)) (heap_alloc_new wr _)) (by simp [Value.oneCell']) (by omega) (by unfold maxLen; omega) (by omega) (by simp; omega) (wr.heap.size + 1) (by simp) ?_; intro gg cap w1 hown1 hgrow hat hlt1; (have z4' : w1.frozen? ⟨b, 4, none⟩ = false := by rw [hgrow.frozen_far _ (by simp; omega) hbt]; exact hfz _); (have c4' : w1.cell? ⟨b, 4, none⟩ = some cv := by rw [hgrow.cell_far _ (by simp; omega) hbt]; exact hfc _)))
        all_goals (
          have hg' := grown_alloc hgrow
          have hfin := hI.grow2' (w1 := w1) (H := wr.heap.size + 1) hown1 hg' hat (by omega) j hpj1
          have z1' : w1.frozen? ⟨b, 1, none⟩ = false := by rw [hg'.frozen_far _ lb hbt]; exact z1
          have c1' : w1.cell? ⟨b, 1, none⟩ = some (.int .i64 p) := by rw [hg'.cell_far _ lb hbt]; exact c1
          go_wp2_with fail
          go_end0
          rw [HJ.out]
          exact ⟨⟨_, rfl⟩, ⟨_, _, _, _, _, _, _, _, hfin.1⟩, below_set (below_set hfin.2 _ _) _ _⟩)
end Go.Proofs.YtiicdalodfjgaaaGreatFmt
