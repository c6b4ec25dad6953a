/- The reference's lexer: strings between quotes. -/
import Derived.Test.YtiicdalodfjgaaaGreatFmtSpD
import Derived.Deep.RegionWith
namespace Go.Proofs.YtiicdalodfjgaaaGreatFmt
open Go.RowKit

theorem below_drew' {w w' : World} (h : Below w.drew.heap.size w.drew w') : Below w.heap.size w w' := by
  obtain ⟨h1, h2, h3, h4, h5⟩ := h
  exact ⟨h1, h2, h3, h4, h5⟩
def QuPost (s : ByteArray) (b : Nat) (r : Int × Nat) (w : World) (e : Ending) (w' : World) : Prop :=
  (∃ v, e = .returned v) ∧ SpL s b r.2 r.1 w' ∧ Below b w w'

set_option maxRecDepth 100000 in
set_option maxHeartbeats 6400000 in
theorem quoted_any (s : ByteArray) (b p q : Nat) (kd : Int) (w : World) (h : SpL s b p 1 w) (hp : p + 1 ≤ s.size) (hs : s.size ≤ 2000) :
    Calls Tryz.prog 14 #[.pointer (some ⟨b, 0, none⟩), .int .u8 q, .int .i64 kd] w fun e w' => QuPost s b (quoS s p (quoN s q (s.size + 1) (p + 1))) w e w' := by
  have HL := h
  obtain ⟨tv, cv, wd, co, n1, n2, xs1, xs2, hI⟩ := h
  obtain ⟨r, hr⟩ : ∃ r, quoN s q (s.size + 1) (p + 1) = r := ⟨_, rfl⟩
  rw [hr]
  have c0 := blk_cell hI.blk 0
  have c1 := blk_cell hI.blk 1
  simp at c0 c1
  go_enter Tryz.func14, Tryz.ntmps14
  go_wp2_with fail
  go_loopw [6] (fun i wr => ∃ (f j : Nat), i = .int .i64 j ∧ Hid (quoN s q f j = r) ∧ s.size - j < f ∧ p + 1 ≤ j ∧ j ≤ s.size + 1 ∧ wr = w) (fun i _ => s.size - (intOf i).toNat)
  case atStart => exact ⟨s.size + 1, p + 1, rfl, Lib.hid hr, by omega, by omega, by omega, rfl⟩
  case round =>
    clear hr
    obtain ⟨f, j, rfl, HS, hf, hpj, hj, rfl⟩ := hrel
    obtain ⟨f, rfl⟩ : ∃ m, f = m + 1 := ⟨f - 1, by omega⟩
    by_cases hlt : j < s.size
    · have hgb : ∀ h : j < s.size, (s[j]'h).toNat = gb s j := fun h => (gb_in s j h).symm
      by_cases e1 : gb s j = q
      · have t1 : ((gb s j : Int) != (q : Int)) = false := by simp; omega
        have HF := Lib.hid (quoN_fine s q f j hlt e1)
        obtain ⟨t, ht⟩ : ∃ t, s.extract (p + 1) j = t := ⟨_, rfl⟩
        have htz : t.size ≤ 20000 := by rw [← ht]; simp; omega
        have H44 := fun w => spec_any t w htz
        obtain ⟨txt, htxt⟩ : ∃ x, (unesc t).1 = x := ⟨_, rfl⟩
        obtain ⟨st, hst⟩ : ∃ x, (unesc t).2 = x := ⟨_, rfl⟩
        unfold SpPost at H44
        rw [htxt, hst] at H44
        have HR : Hid (quoS s p r = if st = 1 then (1, j + 1) else (0, p)) := Lib.hid (by
          rw [← HS.out, HF.out]
          unfold quoS
          rw [if_pos rfl, ht, hst])
        clear htxt hst HF HS
        have hw1 : IntKind.i64.wrap ((p : Int) + 1) = (p : Int) + 1 := IntWalk.i64_in _ (by omega)
        have hp0 : (0 : Int) ≤ (p : Int) + 1 := by omega
        have hpj' : (p : Int) + 1 ≤ (j : Int) := by omega
        have hj' : (j : Int) ≤ (s.size : Int) := by omega
        have hn1 : ((p : Int) + 1).toNat = p + 1 := by omega
        go_wp2_with fail
        go_region_with (go_at_call 44; refine (H44 _).mono ?_; rintro e w5 ⟨rfl, hb5⟩)
        all_goals (
          have hb5' : Below wr.heap.size wr w5 := below_drew' hb5
          have hI5 := hI.below hb5'
          have hL5 := HL.below hb5'
          have hbw5 : Below b wr w5 := hb5'.mono (Nat.le_of_lt (blk_lt hI.blk))
          obtain ⟨i0, hi0, hz0, hz1, hz2⟩ := info_parts info75
          have c1'5 := blk_cell hI5.blk 1
          have c3 := blk_cell hI5.blk 3
          simp at c1'5 c3
          have lb5 := blk_lt hI5.blk
          have z3 := blk_thaw hI5.blk 3
          have z1 := blk_thaw hI5.blk 1
          have hl1 := hI5.len1
          have hbt : some b ≠ tv.ownBlock := fun e => by have := (ownBlock_ge hI5.own1 b e.symm).1; omega
          by_cases hst1 : st = 1
          · subst hst1
            go_wp2_with (at_builtin; (refine wpList_append_lies _ (by rfl) _ _ _ (by rfl) (b + 1) 75 i0 _ 3 32 Tryz.underlying24 hi0 hz0 hz1 hz2 rfl (by omega) tv n1 xs1 (by rfl) (hI5.own1.alloc _) ⟨w5.heap.size, 0, none⟩ 1 1 [.int .i64 4, .string ⟨txt.toArray⟩, .int .i64 kd] (by rfl) (by rfl) (World.news_of_block (cs := #[.int .i64 4, .string ⟨txt.toArray⟩, .int .i64 kd]) (t := 75) (fr := (0, 0)) (heap_alloc_new w5 _)) (by simp [Value.oneCell']) (by omega) (by unfold maxLen; omega) (by omega) (by simp; omega) (w5.heap.size + 1) (by simp) ?_); (intro gg cap w1 hown1 hgrow hat hlt1); (have hg' := grown_alloc0 hgrow); (have z3' : w1.frozen? ⟨b, 3, none⟩ = false := by rw [hg'.frozen_far _ lb5 hbt]; exact z3); (have c3' : w1.cell? ⟨b, 3, none⟩ = some tv := by rw [hg'.cell_far _ lb5 hbt]; exact c3); (have z1' : w1.frozen? ⟨b, 1, none⟩ = false := by rw [hg'.frozen_far _ lb5 hbt]; exact z1); (have c1' : w1.cell? ⟨b, 1, none⟩ = some (.int .i64 p) := by rw [hg'.cell_far _ lb5 hbt]; exact c1'5))
            have hfin := hI5.grow1 (w1 := w1) (H := w5.heap.size + 1) hown1 hg' hat (by omega) (j + 1) (by omega)
            go_end0
            unfold QuPost
            rw [HR.out]
            exact ⟨⟨_, rfl⟩, ⟨_, _, _, _, _, _, _, _, hfin.1⟩, below_set (below_set (hbw5.trans (hfin.2)) _ _) _ _⟩
          · have tst : (st != 1) = true := by simpa using hst1
            have tst' : (st == 1) = false := by simpa using hst1
            go_wp2_with fail
            refine (stop_any s b p 1 0 _ hL5).mono ?_
            rintro e w6 ⟨⟨v, rfl⟩, hL6, hb6⟩
            go_wp2_with fail
            go_end0
            unfold QuPost
            rw [HR.out, if_neg hst1]
            exact ⟨⟨_, rfl⟩, hL6, hbw5.trans hb6⟩)
      · have t1 : ((gb s j : Int) != (q : Int)) = true := by simp; omega
        have t1' : ((gb s j : Int) == (q : Int)) = false := by simp; omega
        have HST := Lib.hid (quoN_step s q f j ⟨hlt, e1⟩)
        by_cases e10 : gb s j = 10
        · have t2 : ((gb s j : Int) == 10) = true := by simp; omega
          have HR : Hid (quoS s p r = (0, p)) := Lib.hid (by rw [← HS.out, HST.out, if_pos e10]; rfl)
          go_wp2_with fail
          refine (stop_any s b p 1 0 _ HL).mono ?_
          rintro e w6 ⟨⟨v, rfl⟩, hL6, hb6⟩
          go_wp2_with fail
          go_end0
          unfold QuPost
          rw [HR.out]
          exact ⟨⟨_, rfl⟩, hL6, hb6⟩
        · have t2 : ((gb s j : Int) == 10) = false := by simp; omega
          by_cases e92 : gb s j = 92
          · have t3 : ((gb s j : Int) == 92) = true := by simp; omega
            go_wp2_with fail
            go_roundw
            case rel => exact ⟨f, j + 2, by congr 1, Lib.hid (by rw [← HS.out, HST.out, if_neg e10, if_pos e92]), by omega, by omega, by omega, trivial⟩
            case measure => simp [intOf]; omega
          · have t3 : ((gb s j : Int) == 92) = false := by simp; omega
            go_wp2_with fail
            go_roundw
            case rel => exact ⟨f, j + 1, rfl, Lib.hid (by rw [← HS.out, HST.out, if_neg e10, if_neg e92]), by omega, by omega, by omega, trivial⟩
            case measure => simp [intOf]; omega
    · have HR : Hid (quoS s p r = (2, p)) := Lib.hid (by rw [← HS.out, quoN_end s q (f + 1) j hlt]; rfl)
      go_wp2_with fail
      refine (stop_any s b p 1 2 _ HL).mono ?_
      rintro e w6 ⟨⟨v, rfl⟩, hL6, hb6⟩
      go_wp2_with fail
      go_end0
      unfold QuPost
      rw [HR.out]
      exact ⟨⟨_, rfl⟩, hL6, hb6⟩
end Go.Proofs.YtiicdalodfjgaaaGreatFmt
