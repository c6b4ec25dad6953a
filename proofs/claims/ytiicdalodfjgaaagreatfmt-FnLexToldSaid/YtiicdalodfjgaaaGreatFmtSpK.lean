/- The reference's lexer: comments between signs. -/
import Derived.Test.YtiicdalodfjgaaaGreatFmtSpC
import Derived.Deep.LoopGhost
import Derived.Deep.DeepCutAuto
import Derived.Deep.LoopGhost
import Derived.Deep.DeepCutAuto
namespace Go.Proofs.YtiicdalodfjgaaaGreatFmt
open Go.RowKit

def CmPost (s : ByteArray) (b _p : Nat) (r : Option Nat) (w : World) (e : Ending) (w' : World) : Prop :=
  (∃ v, e = .returned v) ∧ (match r with | some q => SpL s b (q + 2) 1 w' | none => ∃ q, SpL s b q 2 w') ∧ Below b w w'

set_option maxRecDepth 100000 in
set_option maxHeartbeats 6400000 in
theorem comment_any (s : ByteArray) (b p : Nat) (w : World) (h : SpL s b p 1 w) (hp : p + 2 ≤ s.size) (hs : s.size ≤ 2000) :
    Calls Tryz.prog 11 #[.pointer (some ⟨b, 0, none⟩)] w fun e w' => CmPost s b p (starN s (s.size + 1) (p + 2)) w e w' := by
  obtain ⟨r, hr⟩ : ∃ r, starN s (s.size + 1) (p + 2) = r := ⟨_, rfl⟩
  rw [hr]
  have h0 : ∃ w2, w2 = w.setCell ⟨b, 1, none⟩ (.int .i64 ((p + 2 : Nat) : Int)) := ⟨_, rfl⟩
  have HS2 : SpL s b (p + 2) 1 (w.setCell ⟨b, 1, none⟩ (.int .i64 ((p + 2 : Nat) : Int))) := by
    obtain ⟨tv, cv, wd, co, n1, n2, xs1, xs2, hI⟩ := h
    exact ⟨tv, cv, wd, co, n1, n2, xs1, xs2, hI.setAt (p + 2) (by omega)⟩
  have hB2 : Below b w (w.setCell ⟨b, 1, none⟩ (.int .i64 ((p + 2 : Nat) : Int))) := below_set (Below.refl b w) _ _
  clear h0
  obtain ⟨tv, cv, wd, co, n1, n2, xs1, xs2, hI⟩ := h
  have c1 := blk_cell hI.blk 1
  simp at c1
  have z1 := blk_thaw hI.blk 1
  have hw : IntKind.i64.wrap ((p : Int) + 2) = (p : Int) + 2 := IntWalk.i64_in _ (by omega)
  have hc : ((p + 2 : Nat) : Int) = (p : Int) + 2 := by omega
  rw [hc] at HS2 hB2
  clear hc
  go_enter Tryz.func11, Tryz.ntmps11
  go_wp2_with fail
  go_loopg [] (s.size + 1) (fun k wr => ∃ j : Nat, Hid (starN s k j = r) ∧ s.size - j < k ∧ p + 2 ≤ j ∧ j ≤ s.size ∧ SpL s b j 1 wr ∧ Below b w wr)
  case atStart => exact ⟨p + 2, Lib.hid hr, by omega, by omega, by omega, HS2, hB2⟩
  case round =>
    clear hr HS2 hB2 hI c1 z1 hw
    obtain ⟨j, HS, hf, hpj, hj, HL, hB⟩ := hrel
    obtain ⟨d, rfl⟩ : ∃ m, gk = m + 1 := ⟨gk - 1, by omega⟩
    obtain ⟨tv, cv, wd, co, n1, n2, xs1, xs2, hI⟩ := HL
    have HL : SpL s b j 1 wr := ⟨tv, cv, wd, co, n1, n2, xs1, xs2, hI⟩
    have HLd : ∀ n, SpL s b j 1 (wr.drewN n) := fun n => HL.below (below_drewN (Below.refl wr.heap.size wr) n)
    have HB9 := fun n => begins_any s b j 1 ⟨#[42, 47]⟩ (wr.drewN n) (HLd n) hj hs (by decide)
    have c0 := blk_cell hI.blk 0
    have c1 := blk_cell hI.blk 1
    simp at c0 c1
    have z1 := blk_thaw hI.blk 1
    by_cases hlt : j < s.size
    · have HST := Lib.hid (starN_step s d j hlt)
      cases hbg : begB s j ⟨#[42, 47]⟩ with
      | true =>
        rw [hbg] at HB9
        have hbb : j + 2 ≤ s.size := by
          unfold begB at hbg
          simp at hbg
          exact hbg.1
        have HR : Hid (some j = r) := Lib.hid (by rw [← HS.out, HST.out, if_pos hbg])
        have hlt' : (j : Int) < (s.size : Int) := by omega
        have hle' : ¬ (s.size : Int) ≤ (j : Int) := by omega
        have HI3 : ∀ n, SpI s b (j + 2) 1 tv cv wd co n1 n2 xs1 xs2 ((wr.drewN n).setCell ⟨b, 1, none⟩ (.int .i64 ((j : Int) + 2))) := fun n => by
          have h3 : SpI s b j 1 tv cv wd co n1 n2 xs1 xs2 (wr.drewN n) := hI.below (below_drewN (Below.refl wr.heap.size wr) n)
          exact h3.setAt (j + 2) (by omega)
        have HB3 : ∀ n, Below b w ((wr.drewN n).setCell ⟨b, 1, none⟩ (.int .i64 ((j : Int) + 2))) := fun n => below_set (below_drewN hB n) _ _
        go_wp2_with fail
        go_quiet ((go_at_call 9; refine Calls.quiet_of (HB9 _)))
        go_wp2_with fail
        go_quiet (fail)
        go_upto_region 7 with (fail)
        generalize hw3 : World.setCell _ _ _ = w3
        have hI3 : SpI s b (j + 2) 1 tv cv wd co n1 n2 xs1 xs2 w3 := hw3 ▸ HI3 _
        have hB3 : Below b w w3 := hw3 ▸ HB3 _
        have hl0 := hI.len2
        clear hw3 HI3 HB3 HB9 HLd HL hB hI c0 c1 z1
        obtain ⟨i0, hi0, hz0, hz1, hz2⟩ := info_parts info9
        have c0 := blk_cell hI3.blk 0
        have c1 := blk_cell hI3.blk 1
        have c4 := blk_cell hI3.blk 4
        simp at c0 c1 c4
        have lb := blk_lt hI3.blk
        have z4 := blk_thaw hI3.blk 4
        have hl2 := hI3.len2
        have hown := hI3.own2
        have hbt : some b ≠ cv.ownBlock := fun e => by have := (ownBlock_ge hI3.own2 b e.symm).1; omega
        have hfz : ∀ o, (w3.alloc o).drew.frozen? ⟨b, 4, none⟩ = false := fun o => by
          show (w3.alloc o).frozen? _ = false
          have := Below.heap_alloc w3 o b lb
          simp [World.frozen?, this, hI3.blk]
        have hfc : ∀ o, (w3.alloc o).drew.cell? ⟨b, 4, none⟩ = some cv := fun o => by
          show (w3.alloc o).cell? _ = _
          rw [World.cell?_of_block (Below.heap_alloc w3 o b lb)]
          exact c4
        have hp0 : (0 : Int) ≤ (p : Int) := Int.natCast_nonneg _
        have hpq' : (p : Int) ≤ (j : Int) + 2 := by omega
        have hq' : (j : Int) + 2 ≤ (s.size : Int) := by omega
        have hn2 : ((j : Int) + 2).toNat = j + 2 := by omega
        go_region_law (first | (refine step_append_lies _ (by rfl) _ _ _ (by rfl) (b + 1) 9 i0 _ 1 16 Tryz.underlying25 hi0 hz0 hz1 hz2 rfl (by omega) cv n2 xs2 (by rfl) ((hown.alloc _).drew) ⟨w3.heap.size, 0, none⟩ 1 1 [.string (s.extract p (j + 2))] (by rfl) (by rfl) (World.news_of_block (cs := #[.string (s.extract p (j + 2))]) (t := 9) (fr := (0, 0)) (heap_alloc_new w3 _)) (by simp [Value.oneCell']) (by omega) (by unfold maxLen; omega) (by omega) (by simp; omega) (w3.heap.size + 1) (by simp) ?_; intro gg cap w1 hown1 hgrow hat hlt1; (have z4' : w1.frozen? ⟨b, 4, none⟩ = false := by rw [hgrow.frozen_far _ (by simp; omega) hbt]; exact hfz _); (have c4' : w1.cell? ⟨b, 4, none⟩ = some cv := by rw [hgrow.cell_far _ (by simp; omega) hbt]; exact hfc _)))
        all_goals (
          have hg' := grown_alloc hgrow
          have hfin := hI3.grow2 (w1 := w1) (H := w3.heap.size + 1) hown1 hg' hat (by omega) (by omega)
          go_wp2_with fail
          go_end0
          unfold CmPost
          rw [← HR.out]
          exact ⟨⟨_, rfl⟩, ⟨_, _, _, _, _, _, _, _, hfin.1⟩, below_set (hB3.trans hfin.2) _ _⟩)
      | false =>
        rw [hbg] at HB9
        have hlt' : (j : Int) < (s.size : Int) := by omega
        go_wp2_with fail
        go_quiet ((go_at_call 9; refine Calls.quiet_of (HB9 _)))
        have HI2 : SpL s b (j + 1) 1 ((wr.drewN nq).setCell ⟨b, 1, none⟩ (.int .i64 ((j + 1 : Nat) : Int))) := by
          obtain ⟨tv, cv, wd, co, n1, n2, xs1, xs2, hI⟩ := HLd nq
          exact ⟨tv, cv, wd, co, n1, n2, xs1, xs2, hI.setAt (j + 1) (by omega)⟩
        have hBq : Below b w ((wr.drewN nq).setCell ⟨b, 1, none⟩ (.int .i64 ((j + 1 : Nat) : Int))) := below_set (below_drewN hB nq) _ _
        go_wp2_with fail
        go_roundg d
        case measure => omega
        case rel => exact ⟨j + 1, Lib.hid (by rw [← HS.out, HST.out, if_neg (by rw [hbg]; decide)]), by omega, by omega, by omega, HI2, hBq⟩
    · have HR : Hid (none = r) := Lib.hid (by rw [← HS.out, starN_end s (d + 1) j hlt])
      have hlt' : ¬ (j : Int) < (s.size : Int) := by omega
      have hltd : decide ((j : Int) < (s.size : Int)) = false := by simpa using hlt'
      go_wp2_with fail
      go_quiet (fail)
      go_wp2_with fail
      go_quiet (fail)
      go_wp2_with fail
      refine (stop_any s b j 1 2 _ (HLd _)).mono ?_
      rintro e w1 ⟨⟨v, rfl⟩, hL1, hb1⟩
      go_wp2_with fail
      (try simp only [Exit.inBlock, Exit.then])
      refine bodyPost_ret (results_none rfl _ _ _) rfl ?_
      unfold CmPost
      rw [← HR.out]
      exact ⟨⟨_, rfl⟩, ⟨j, hL1⟩, (below_drewN hB _).trans hb1⟩
end Go.Proofs.YtiicdalodfjgaaaGreatFmt
