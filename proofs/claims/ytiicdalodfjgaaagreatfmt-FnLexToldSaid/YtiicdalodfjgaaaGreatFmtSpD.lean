/- The reference's lexer: strings in which nothing is escaped. -/
import Derived.Test.YtiicdalodfjgaaaGreatFmtSpB
namespace Go.Proofs.YtiicdalodfjgaaaGreatFmt
open Go.RowKit

theorem grown_alloc0 {w w1 : World} {o : Obj} {row : Option Nat} (h : (w.alloc o).grownBy w1 row) : w.grownBy w1 row := grown_alloc (o := o) ⟨h.1, h.2, h.3, h.4, h.5⟩
def VbPost (s : ByteArray) (b p : Nat) (r : Option Nat) (w : World) (e : Ending) (w' : World) : Prop :=
  (∃ v, e = .returned v) ∧ (match r with | some k => SpL s b k 1 w' | none => SpL s b p 2 w') ∧ Below b w w'

/-- a token behind a plain region's append, and the place moved on. -/
theorem str_byte2 (o s : ByteArray) (k : Nat) (h : k < s.size) : (o ++ s.extract k (k + 1)).size = o.size + 1 := by
  simp [ByteArray.size_append, ByteArray.size_extract]
  omega

set_option maxRecDepth 100000 in
set_option maxHeartbeats 6400000 in
theorem verbatim_any (s : ByteArray) (b p q : Nat) (kd : Int) (w : World) (h : SpL s b p 1 w) (hp : p + 2 ≤ s.size) (hs : s.size ≤ 2000) (_hq : q < 256) :
    Calls Tryz.prog 13 #[.pointer (some ⟨b, 0, none⟩), .int .u8 q, .int .i64 kd] w fun e w' => VbPost s b p (verbN s q (s.size + 1) (p + 2)) w e w' := by
  have HL := h
  obtain ⟨tv, cv, wd, co, n1, n2, xs1, xs2, hI⟩ := h
  obtain ⟨i0, hi0, hz0, hz1, hz2⟩ := info_parts info75
  obtain ⟨r, hr⟩ : ∃ r, verbN s q (s.size + 1) (p + 2) = r := ⟨_, rfl⟩
  rw [hr]
  have c0 := blk_cell hI.blk 0
  have c1 := blk_cell hI.blk 1
  have c3 := blk_cell hI.blk 3
  simp at c0 c1 c3
  have lb := blk_lt hI.blk
  have z3 := blk_thaw hI.blk 3
  have z1 := blk_thaw hI.blk 1
  have hl1 := hI.len1
  have hown := hI.own1
  have hbt : some b ≠ tv.ownBlock := fun e => by have := (ownBlock_ge hI.own1 b e.symm).1; omega
  have hfz : ∀ o, (w.alloc o).drew.frozen? ⟨b, 3, none⟩ = false := fun o => by
    show (w.alloc o).frozen? _ = false
    have := Below.heap_alloc w o b lb
    simp [World.frozen?, this, hI.blk]
  have hfc : ∀ o, (w.alloc o).drew.cell? ⟨b, 3, none⟩ = some tv := fun o => by
    show (w.alloc o).cell? _ = _
    rw [World.cell?_of_block (Below.heap_alloc w o b lb)]
    exact c3
  go_enter Tryz.func13, Tryz.ntmps13
  go_wp2_with fail
  go_loopw [6, 7] (fun o i wr => ∃ (f j : Nat) (t : ByteArray), o = .string t ∧ i = .int .i64 j ∧ Hid (verbN s q f j = r) ∧ s.size - j < f ∧ p + 2 ≤ j ∧ j ≤ s.size ∧ t.size ≤ j ∧ wr = w) (fun _ i _ => s.size - (intOf i).toNat)
  case atStart => exact ⟨s.size + 1, p + 2, ⟨#[]⟩, rfl, rfl, Lib.hid hr, by omega, by omega, by omega, Nat.zero_le _, rfl⟩
  case round =>
    clear hr
    obtain ⟨f, j, t, rfl, rfl, HS, hf, hpj, hj, ht, rfl⟩ := hrel
    by_cases hlt : j < s.size
    · obtain ⟨f, rfl⟩ : ∃ m, f = m + 1 := ⟨f - 1, by omega⟩
      have HST := Lib.hid (verbN_step s q f j hlt)
      have hgb : ∀ h : j < s.size, (s[j]'h).toNat = gb s j := fun h => (gb_in s j h).symm
      by_cases e1 : gb s j = q
      · have t1 : ((gb s j : Int) == (q : Int)) = true := by simp; omega
        by_cases e2 : j + 1 < s.size
        · have hgb2 : ∀ h : j + 1 < s.size, (s[j + 1]'h).toNat = gb s (j + 1) := fun h => (gb_in s (j + 1) h).symm
          by_cases e3 : gb s (j + 1) = q
          · have t2 : ((gb s (j + 1) : Int) != (q : Int)) = false := by simp; omega
            have hz : (t ++ s.extract (j + 1) (j + 1 + 1)).size = t.size + 1 := str_byte2 t s (j + 1) e2
            go_wp2_with fail
            go_roundw
            case rel => exact ⟨f, j + 2, _, rfl, by congr 1, Lib.hid (by rw [← HS.out, HST.out, if_pos e1, if_pos ⟨e2, e3⟩]), by omega, by omega, by omega, by omega, trivial⟩
            case measure => simp [intOf]; omega
          · have t2 : ((gb s (j + 1) : Int) != (q : Int)) = true := by simp; omega
            have t2' : ((gb s (j + 1) : Int) == (q : Int)) = false := by simp; omega
            have HR : Hid (some (j + 1) = r) := Lib.hid (by rw [← HS.out, HST.out, if_pos e1, if_neg (fun h => e3 h.2)])
            go_wp2_with (at_builtin; (refine wpList_append_lies _ (by rfl) _ _ _ (by rfl) (b + 1) 75 i0 _ 3 32 Tryz.underlying24 hi0 hz0 hz1 hz2 rfl (by omega) tv n1 xs1 (by rfl) (hown.alloc _) ⟨wr.heap.size, 0, none⟩ 1 1 [.int .i64 4, .string t, .int .i64 kd] (by rfl) (by rfl) (World.news_of_block (cs := #[.int .i64 4, .string t, .int .i64 kd]) (t := 75) (fr := (0, 0)) (heap_alloc_new wr _)) (by simp [Value.oneCell']) (by omega) (by unfold maxLen; omega) (by omega) (by simp; omega) (wr.heap.size + 1) (by simp) ?_); (intro gg cap w1 hown1 hgrow hat hlt1); (have hg' := grown_alloc0 hgrow); (have z3' : w1.frozen? ⟨b, 3, none⟩ = false := by rw [hg'.frozen_far _ lb hbt]; exact z3); (have c3' : w1.cell? ⟨b, 3, none⟩ = some tv := by rw [hg'.cell_far _ lb hbt]; exact c3); (have z1' : w1.frozen? ⟨b, 1, none⟩ = false := by rw [hg'.frozen_far _ lb hbt]; exact z1); (have c1' : w1.cell? ⟨b, 1, none⟩ = some (.int .i64 p) := by rw [hg'.cell_far _ lb hbt]; exact c1))
            have hfin := hI.grow1 (w1 := w1) (H := wr.heap.size + 1) hown1 hg' hat (by omega) (j + 1) (by omega)
            go_end0
            unfold VbPost
            rw [← HR.out]
            exact ⟨⟨_, rfl⟩, ⟨_, _, _, _, _, _, _, _, hfin.1⟩, below_set (below_set hfin.2 _ _) _ _⟩
        · have HR : Hid (some (j + 1) = r) := Lib.hid (by rw [← HS.out, HST.out, if_pos e1, if_neg (fun h => e2 h.1)])
          go_wp2_with (at_builtin; (refine wpList_append_lies _ (by rfl) _ _ _ (by rfl) (b + 1) 75 i0 _ 3 32 Tryz.underlying24 hi0 hz0 hz1 hz2 rfl (by omega) tv n1 xs1 (by rfl) (hown.alloc _) ⟨wr.heap.size, 0, none⟩ 1 1 [.int .i64 4, .string t, .int .i64 kd] (by rfl) (by rfl) (World.news_of_block (cs := #[.int .i64 4, .string t, .int .i64 kd]) (t := 75) (fr := (0, 0)) (heap_alloc_new wr _)) (by simp [Value.oneCell']) (by omega) (by unfold maxLen; omega) (by omega) (by simp; omega) (wr.heap.size + 1) (by simp) ?_); (intro gg cap w1 hown1 hgrow hat hlt1); (have hg' := grown_alloc0 hgrow); (have z3' : w1.frozen? ⟨b, 3, none⟩ = false := by rw [hg'.frozen_far _ lb hbt]; exact z3); (have c3' : w1.cell? ⟨b, 3, none⟩ = some tv := by rw [hg'.cell_far _ lb hbt]; exact c3); (have z1' : w1.frozen? ⟨b, 1, none⟩ = false := by rw [hg'.frozen_far _ lb hbt]; exact z1); (have c1' : w1.cell? ⟨b, 1, none⟩ = some (.int .i64 p) := by rw [hg'.cell_far _ lb hbt]; exact c1))
          have hfin := hI.grow1 (w1 := w1) (H := wr.heap.size + 1) hown1 hg' hat (by omega) (j + 1) (by omega)
          go_end0
          unfold VbPost
          rw [← HR.out]
          exact ⟨⟨_, rfl⟩, ⟨_, _, _, _, _, _, _, _, hfin.1⟩, below_set (below_set hfin.2 _ _) _ _⟩
      · have t1 : ((gb s j : Int) == (q : Int)) = false := by simp; omega
        have hz : (t ++ s.extract j (j + 1)).size = t.size + 1 := str_byte2 t s j hlt
        go_wp2_with fail
        go_roundw
        case rel => exact ⟨f, j + 1, _, rfl, rfl, Lib.hid (by rw [← HS.out, HST.out, if_neg e1]), by omega, by omega, by omega, by omega, trivial⟩
        case measure => simp [intOf]; omega
    · have HR : Hid (none = r) := Lib.hid (by rw [← HS.out, verbN_end s q f j hlt])
      go_wp2_with fail
      refine (stop_any s b p 1 2 _ HL).mono ?_
      rintro e w1 ⟨⟨v, rfl⟩, hL1, hb1⟩
      go_wp2_with fail
      go_end0
      unfold VbPost
      rw [← HR.out]
      exact ⟨⟨_, rfl⟩, hL1, hb1⟩
end Go.Proofs.YtiicdalodfjgaaaGreatFmt
