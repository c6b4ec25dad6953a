/- The reference's lexer as it lies in memory, and its small methods: stop, put. -/
import Derived.Test.YtiicdalodfjgaaaGreatFmtUnB
import Derived.Tactics
import Derived.Tactics2
import Derived.WalkKit
import Derived.WalkSpells
import Derived.StillTactics
import Derived.OwnWalk
import Derived.Laws.Pointers
import Derived.Deep.RegionHeld3
import Derived.Deep.RegionLaw
import Derived.Deep.DrawnRows
import Derived.Deep.AppendLies
import Derived.Deep.QuietTactic
import Derived.BigQuiet
import Derived.KernelRfl
namespace Go.Proofs.YtiicdalodfjgaaaGreatFmt
open Go.RowKit

theorem info75 : (Tryz.prog.info? 75).map (fun i => (i.zero, i.size, i.bytes)) = some (some (.agg #[.int .i64 0, .string ⟨#[]⟩, .int .i64 0]), 3, 32) := by kernel_rfl
theorem info9 : (Tryz.prog.info? 9).map (fun i => (i.zero, i.size, i.bytes)) = some (some (.string ⟨#[]⟩), 1, 16) := by kernel_rfl

theorem blk_cell {w : World} {b : Nat} {C : Array Value} {t : TypeId} {fr : Nat × Nat} (h : w.heap[b]? = some (.cells C t fr)) (i : Nat) : w.cell? ⟨b, i, none⟩ = C[i]? := cell_of_row w b i C t fr h
theorem blk_thaw {w : World} {b : Nat} {C : Array Value} {t : TypeId} (h : w.heap[b]? = some (.cells C t (0, 0))) (i : Nat) : w.frozen? ⟨b, i, none⟩ = false := by simp [World.frozen?, h]
theorem blk_lt {w : World} {b : Nat} {o : Obj} (h : w.heap[b]? = some o) : b < w.heap.size := (Array.getElem?_eq_some_iff.1 h).1
theorem blk_set {w : World} {b : Nat} {C : Array Value} {t : TypeId} {fr : Nat × Nat} (h : w.heap[b]? = some (.cells C t fr)) (i : Nat) (u : Value) : (w.setCell ⟨b, i, none⟩ u).heap[b]? = some (.cells (C.setIfInBounds i u) t fr) := by
  simp [World.setCell, Array.getElem?_modify, h]
theorem set_other (w : World) (b i : Nat) (u : Value) (k : Nat) (hk : k ≠ b) : (w.setCell ⟨b, i, none⟩ u).heap[k]? = w.heap[k]? := Below.heap_setCell w ⟨b, i, none⟩ u k hk
theorem set_size (w : World) (a : Addr) (u : Value) : (w.setCell a u).heap.size = w.heap.size := by simp [World.setCell]
/-- a row that lies behind b is not turned by a store in b. -/
theorem row_set {w : World} {b i : Nat} {u : Value} {e : TypeId} {size : Nat} {v : Value} {n : Nat} {xs : List Value} (h : w.ownsRow (b + 1) e size v n xs) : (w.setCell ⟨b, i, none⟩ u).ownsRow (b + 1) e size v n xs := by
  obtain ⟨h1, h2⟩ := h
  refine ⟨h1, ?_⟩
  rcases h2 with h2 | ⟨g, cap, cur, hv, hb, hg, hr⟩
  · exact .inl h2
  · exact .inr ⟨g, cap, cur, hv, hb, by rw [set_other w b i u g (by omega)]; exact hg, hr⟩
theorem row_keep {w w' : World} {base : Nat} {e : TypeId} {size : Nat} {v : Value} {n : Nat} {xs : List Value} (h : w.ownsRow base e size v n xs) (hk : ∀ g, v.ownBlock = some g → g < w.heap.size → w'.heap[g]? = w.heap[g]?) : w'.ownsRow base e size v n xs := by
  obtain ⟨h1, h2⟩ := h
  refine ⟨h1, ?_⟩
  rcases h2 with h2 | ⟨g, cap, cur, hv, hb, hg, hr⟩
  · exact .inl h2
  · exact .inr ⟨g, cap, cur, hv, hb, by rw [hk g (by rw [hv]; rfl) (blk_lt hg)]; exact hg, hr⟩

/-- the reference's lexer: at block b, its text s, its place p, its state st. -/
structure SpI (s : ByteArray) (b p : Nat) (st : Int) (tv cv : Value) (wd co : Bool) (n1 n2 : Nat) (xs1 xs2 : List Value) (w : World) : Prop where
  blk : w.heap[b]? = some (.cells #[.string s, .int .i64 p, .int .i64 st, tv, cv, .bool wd, .bool co] 27 (0, 0))
  own1 : w.ownsRow (b + 1) 75 3 tv n1 xs1
  own2 : w.ownsRow (b + 1) 9 1 cv n2 xs2
  apart : ∀ g, tv.ownBlock = some g → cv.ownBlock ≠ some g
  len1 : n1 ≤ p
  len2 : n2 ≤ p
def SpL (s : ByteArray) (b p : Nat) (st : Int) (w : World) : Prop := ∃ tv cv wd co n1 n2 xs1 xs2, SpI s b p st tv cv wd co n1 n2 xs1 xs2 w
theorem ownBlock_ge {w : World} {base : Nat} {e : TypeId} {size : Nat} {v : Value} {n : Nat} {xs : List Value} (h : w.ownsRow base e size v n xs) (g : Nat) (hg : v.ownBlock = some g) : base ≤ g ∧ g < w.heap.size := by
  rcases h.2 with ⟨hv, _⟩ | ⟨g', cap, cur, hv, hb, hg', hr⟩
  · rw [hv] at hg; cases hg
  · rw [hv] at hg
    have : g' = g := by simpa [Value.ownBlock] using hg
    subst this
    exact ⟨hb, blk_lt hg'⟩
theorem SpI.below {s : ByteArray} {b p : Nat} {st : Int} {tv cv : Value} {wd co : Bool} {n1 n2 : Nat} {xs1 xs2 : List Value} {w w' : World} (h : SpI s b p st tv cv wd co n1 n2 xs1 xs2 w) (hb : Below w.heap.size w w') : SpI s b p st tv cv wd co n1 n2 xs1 xs2 w' :=
  ⟨by rw [hb.block b (blk_lt h.blk)]; exact h.blk, row_keep h.own1 (fun g _ hl => hb.block g hl), row_keep h.own2 (fun g _ hl => hb.block g hl), h.apart, h.len1, h.len2⟩
theorem SpL.below {s : ByteArray} {b p : Nat} {st : Int} {w w' : World} (h : SpL s b p st w) (hb : Below w.heap.size w w') : SpL s b p st w' := by
  obtain ⟨tv, cv, wd, co, n1, n2, xs1, xs2, h⟩ := h
  exact ⟨tv, cv, wd, co, n1, n2, xs1, xs2, h.below hb⟩
theorem SpL.lt {s : ByteArray} {b p : Nat} {st : Int} {w : World} (h : SpL s b p st w) : b < w.heap.size := by
  obtain ⟨tv, cv, wd, co, n1, n2, xs1, xs2, h⟩ := h
  exact blk_lt h.blk
theorem below_set {b : Nat} {w w' : World} (h : Below b w w') (i : Nat) (u : Value) : Below b w (w'.setCell ⟨b, i, none⟩ u) := by
  obtain ⟨h1, h2, h3, h4, h5⟩ := h
  exact ⟨h1, h2, h3, by rw [set_size]; exact h4, fun k hk => by rw [set_other w' b i u k (by omega)]; exact h5 k hk⟩

theorem SpI.setSt {s : ByteArray} {b p : Nat} {st : Int} {tv cv : Value} {wd co : Bool} {n1 n2 : Nat} {xs1 xs2 : List Value} {w : World} (h : SpI s b p st tv cv wd co n1 n2 xs1 xs2 w) (m : Int) : SpI s b p m tv cv wd co n1 n2 xs1 xs2 (w.setCell ⟨b, 2, none⟩ (.int .i64 m)) :=
  ⟨by simpa using blk_set h.blk 2 (.int .i64 m), row_set h.own1, row_set h.own2, h.apart, h.len1, h.len2⟩
theorem SpI.setAt {s : ByteArray} {b p : Nat} {st : Int} {tv cv : Value} {wd co : Bool} {n1 n2 : Nat} {xs1 xs2 : List Value} {w : World} (h : SpI s b p st tv cv wd co n1 n2 xs1 xs2 w) (q : Nat) (hq : p ≤ q) : SpI s b q st tv cv wd co n1 n2 xs1 xs2 (w.setCell ⟨b, 1, none⟩ (.int .i64 q)) :=
  ⟨by simpa using blk_set h.blk 1 (.int .i64 q), row_set h.own1, row_set h.own2, h.apart, by have := h.len1; omega, by have := h.len2; omega⟩
theorem SpI.setWd {s : ByteArray} {b p : Nat} {st : Int} {tv cv : Value} {wd co : Bool} {n1 n2 : Nat} {xs1 xs2 : List Value} {w : World} (h : SpI s b p st tv cv wd co n1 n2 xs1 xs2 w) (x : Bool) : SpI s b p st tv cv x co n1 n2 xs1 xs2 (w.setCell ⟨b, 5, none⟩ (.bool x)) :=
  ⟨by simpa using blk_set h.blk 5 (.bool x), row_set h.own1, row_set h.own2, h.apart, h.len1, h.len2⟩
theorem SpI.setCo {s : ByteArray} {b p : Nat} {st : Int} {tv cv : Value} {wd co : Bool} {n1 n2 : Nat} {xs1 xs2 : List Value} {w : World} (h : SpI s b p st tv cv wd co n1 n2 xs1 xs2 w) (x : Bool) : SpI s b p st tv cv wd x n1 n2 xs1 xs2 (w.setCell ⟨b, 6, none⟩ (.bool x)) :=
  ⟨by simpa using blk_set h.blk 6 (.bool x), row_set h.own1, row_set h.own2, h.apart, h.len1, h.len2⟩
theorem stop_any (s : ByteArray) (b p : Nat) (st m : Int) (w : World) (h : SpL s b p st w) :
    Calls Tryz.prog 23 #[.pointer (some ⟨b, 0, none⟩), .int .i64 m] w fun e w' => (∃ v, e = .returned v) ∧ SpL s b p (if st = 1 then m else st) w' ∧ Below b w w' := by
  obtain ⟨tv, cv, wd, co, n1, n2, xs1, xs2, hI⟩ := h
  have hc2 := blk_cell hI.blk 2
  simp at hc2
  have hz2 := blk_thaw hI.blk 2
  by_cases h1 : st = 1
  · subst h1
    go_enter Tryz.func23, Tryz.ntmps23
    go_wp2_with fail
    go_end0
    exact ⟨⟨_, rfl⟩, ⟨tv, cv, wd, co, n1, n2, xs1, xs2, hI.setSt m⟩, below_set (Below.refl _ _) _ _⟩
  · have t1 : (st == 1) = false := by simpa using h1
    go_enter Tryz.func23, Tryz.ntmps23
    go_wp2_with fail
    go_end0
    exact ⟨⟨_, rfl⟩, ⟨tv, cv, wd, co, n1, n2, xs1, xs2, hI⟩, Below.refl _ _⟩

theorem grown_alloc {w w1 : World} {o : Obj} {row : Option Nat} (h : (w.alloc o).drew.grownBy w1 row) : w.grownBy w1 row := by
  obtain ⟨h1, h2, h3, h4, h5⟩ := h
  refine ⟨h1, h2, h3, ?_, ?_⟩
  · have h4' : (w.alloc o).heap.size ≤ w1.heap.size := h4
    simp at h4'
    omega
  · intro k hk hne
    have h5' : w1.heap[k]? = (w.alloc o).heap[k]? := h5 k (by show k < (w.alloc o).heap.size; simp; omega) hne
    rw [h5']
    exact Below.heap_alloc w o k hk
/-- what an append to the tokens leaves. -/
theorem SpI.grow1 {s : ByteArray} {b p : Nat} {st : Int} {tv cv : Value} {wd co : Bool} {n1 n2 : Nat} {xs1 xs2 news : List Value} {w w1 : World} {g cap H : Nat} (h : SpI s b p st tv cv wd co n1 n2 xs1 xs2 w)
    (hown : w1.ownsRow (b + 1) 75 3 (.slice (some ⟨g, 0, none⟩) (n1 + 1) cap) (n1 + 1) news) (hg : w.grownBy w1 tv.ownBlock) (hat : tv.ownBlock = some g ∨ g = H) (hH : w.heap.size ≤ H) (q : Nat) (hq : p < q) :
    SpI s b q st (.slice (some ⟨g, 0, none⟩) (n1 + 1) cap) cv wd co (n1 + 1) n2 news xs2 ((w1.setCell ⟨b, 3, none⟩ (.slice (some ⟨g, 0, none⟩) (n1 + 1) cap)).setCell ⟨b, 1, none⟩ (.int .i64 q)) ∧ Below b w w1 := by
  have hbt : some b ≠ tv.ownBlock := fun e => by have := (ownBlock_ge h.own1 b e.symm).1; omega
  have hblk : w1.heap[b]? = some (.cells #[.string s, .int .i64 p, .int .i64 st, tv, cv, .bool wd, .bool co] 27 (0, 0)) := by rw [hg.block b (blk_lt h.blk) hbt]; exact h.blk
  have hown2 : w1.ownsRow (b + 1) 9 1 cv n2 xs2 := row_keep h.own2 (fun k hk hl => hg.block k hl (fun e => h.apart k e.symm hk))
  refine ⟨⟨by simpa using blk_set (blk_set hblk 3 (.slice (some ⟨g, 0, none⟩) (n1 + 1) cap)) 1 (.int .i64 q), row_set (row_set hown), row_set (row_set hown2), ?_, by have := h.len1; omega, by have := h.len2; omega⟩, ?_⟩
  · intro k hk hc
    have hk' : g = k := by simpa [Value.ownBlock] using hk
    subst hk'
    rcases hat with hat | rfl
    · exact h.apart g hat hc
    · have := (ownBlock_ge h.own2 g hc).2; omega
  · obtain ⟨g1, g2, g3, g4, g5⟩ := hg
    refine ⟨g1, g2, g3, g4, fun k hk => g5 k (by have := blk_lt h.blk; omega) (fun e => ?_)⟩
    have := (ownBlock_ge h.own1 k e.symm).1
    omega

set_option maxRecDepth 100000 in
set_option maxHeartbeats 3200000 in
theorem put_any (s : ByteArray) (b p : Nat) (st k : Int) (q : Nat) (w : World) (h : SpL s b p st w) (hpq : p < q) (hq : q ≤ s.size) (hs : s.size ≤ 2000) :
    Calls Tryz.prog 20 #[.pointer (some ⟨b, 0, none⟩), .int .i64 k, .int .i64 q] w fun e w' => (∃ v, e = .returned v) ∧ SpL s b q st w' ∧ Below b w w' := by
  obtain ⟨tv, cv, wd, co, n1, n2, xs1, xs2, hI⟩ := h
  obtain ⟨i0, hi0, hz0, hz1, hz2⟩ := info_parts info75
  have c0 := blk_cell hI.blk 0
  have c1 := blk_cell hI.blk 1
  have c3 := blk_cell hI.blk 3
  simp at c0 c1 c3
  have lb := blk_lt hI.blk
  have z3 := blk_thaw hI.blk 3
  have z1 := blk_thaw hI.blk 1
  have hl1 := hI.len1
  have hp0 : (0 : Int) ≤ (p : Int) := Int.natCast_nonneg _
  have hpq' : (p : Int) ≤ (q : Int) := by omega
  have hq' : (q : Int) ≤ (s.size : Int) := by omega
  have hown := hI.own1
  have hbt : some b ≠ tv.ownBlock := fun e => by have := (ownBlock_ge hI.own1 b e.symm).1; omega
  have hfz : ∀ o, (w.alloc o).drew.frozen? ⟨b, 3, none⟩ = false := fun o => by
    show (w.alloc o).frozen? _ = false
    have := Below.heap_alloc w o b lb
    simp [World.frozen?, this, hI.blk]
  have hfc : ∀ o, (w.alloc o).drew.cell? ⟨b, 3, none⟩ = some tv := fun o => by
    show (w.alloc o).cell? _ = _
    rw [World.cell?_of_block (Below.heap_alloc w o b lb)]
    exact c3
  go_enter Tryz.func20, Tryz.ntmps20
  go_wp2_with fail
  go_region_law (first | (refine step_append_lies _ (by rfl) _ _ _ (by rfl) (b + 1) 75 i0 _ 3 32 Tryz.underlying24 hi0 hz0 hz1 hz2 rfl (by omega) tv n1 xs1 (by rfl) ((hown.alloc _).drew) ⟨w.heap.size, 0, none⟩ 1 1 [.int .i64 k, .string (s.extract p q), .int .i64 0] (by rfl) (by rfl) (World.news_of_block (cs := #[.int .i64 k, .string (s.extract p q), .int .i64 0]) (t := 75) (fr := (0, 0)) (heap_alloc_new w _)) (by simp [Value.oneCell']) (by omega) (by unfold maxLen; omega) (by omega) (by simp; omega) (w.heap.size + 1) (by simp) ?_; intro gg cap w1 hown1 hgrow hat hlt; (have z3' : w1.frozen? ⟨b, 3, none⟩ = false := by rw [hgrow.frozen_far _ (by simp; omega) hbt]; exact hfz _); (have c3' : w1.cell? ⟨b, 3, none⟩ = some tv := by rw [hgrow.cell_far _ (by simp; omega) hbt]; exact hfc _)))
  all_goals (
    have hg' := grown_alloc hgrow
    have hfin := hI.grow1 (w1 := w1) (H := w.heap.size + 1) hown1 hg' hat (by omega) q hpq
    have z1' : w1.frozen? ⟨b, 1, none⟩ = false := by rw [hg'.frozen_far _ lb hbt]; exact z1
    have c1' : w1.cell? ⟨b, 1, none⟩ = some (.int .i64 p) := by rw [hg'.cell_far _ lb hbt]; exact c1
    go_wp2_with fail
    go_end0
    exact ⟨⟨_, rfl⟩, ⟨_, _, _, _, _, _, _, _, hfin.1⟩, below_set (below_set hfin.2 _ _) _ _⟩)
end Go.Proofs.YtiicdalodfjgaaaGreatFmt
