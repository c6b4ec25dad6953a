/- The reference's lexer: one step. Written by genSpU.py. -/
import Derived.Test.YtiicdalodfjgaaaGreatFmtSpT
import Derived.Test.YtiicdalodfjgaaaGreatFmtSpN
import Derived.Test.YtiicdalodfjgaaaGreatFmtSpK
import Derived.Test.YtiicdalodfjgaaaGreatFmtSpE
import Derived.Deep.RegionWith
import Derived.Deep.RegionHeldLaw
import Derived.Deep.DeepCutAuto
namespace Go.Proofs.YtiicdalodfjgaaaGreatFmt
open Go.RowKit

theorem dn' {s : ByteArray} {b p : Nat} {st : Int} {w w' : World} {n : Nat} (h : SpL s b p st w) (hw : w' = w.drewN n) : SpL s b p st w' := by
  subst hw
  exact h.below (below_drewN (Below.refl _ _) n)
theorem bn' {b : Nat} {w0 w w' : World} {n : Nat} (h : Below b w0 w) (hw : w' = w.drewN n) : Below b w0 w' := by
  subst hw
  exact below_drewN h n
theorem bk_res {s : ByteArray} {b q : Nat} {st : Int} {r : Int × Nat} {w w' : World} {v : Value} (h : SpL s b q st w') (h1 : st = r.1) (h2 : r.1 = 1 → q = r.2) (hb : Below b w w') : BkPost s b r w (.returned v) w' := ⟨⟨_, rfl⟩, ⟨st, q, h, .inr ⟨h1, h2⟩⟩, hb⟩
def keL : List ByteArray := [⟨#[97, 115, 115, 101, 114, 116]⟩, ⟨#[101, 108, 115, 101]⟩, ⟨#[101, 114, 114, 111, 114]⟩, ⟨#[102, 97, 108, 115, 101]⟩, ⟨#[102, 111, 114]⟩, ⟨#[102, 117, 110, 99, 116, 105, 111, 110]⟩, ⟨#[105, 102]⟩, ⟨#[105, 109, 112, 111, 114, 116]⟩, ⟨#[105, 109, 112, 111, 114, 116, 115, 116, 114]⟩, ⟨#[105, 109, 112, 111, 114, 116, 98, 105, 110]⟩, ⟨#[105, 110]⟩, ⟨#[108, 111, 99, 97, 108]⟩, ⟨#[110, 117, 108, 108]⟩, ⟨#[116, 97, 105, 108, 115, 116, 114, 105, 99, 116]⟩, ⟨#[116, 104, 101, 110]⟩, ⟨#[115, 101, 108, 102]⟩, ⟨#[115, 117, 112, 101, 114]⟩, ⟨#[116, 114, 117, 101]⟩]
def keC : Array Value := (keL.map Value.string).toArray
theorem keC_at (i : Nat) (h : i < 18) : keC[i]? = some (.string (keL.getD i ⟨#[]⟩)) := by
  have hl : keL.length = 18 := rfl
  unfold keC
  simp [hl, h]
set_option maxRecDepth 100000 in
theorem keys_any (w : World) : Calls Tryz.prog 19 #[] w fun e w' => e = .returned (.slice (some ⟨w.heap.size, 0, none⟩) 18 18) ∧ w' = w.alloc (.cells keC 9) := by
  go_enter Tryz.func19, Tryz.ntmps19
  go_wp2_with fail
  go_ret
  exact ⟨rfl, rfl⟩
theorem below_al {w : World} (o : Obj) : Below w.heap.size w (w.alloc o) := (Below.refl _ _).alloc (Nat.le_refl _) o
theorem keys_below (w : World) : Calls Tryz.prog 19 #[] w fun e w' => e = .returned (.slice (some ⟨w.heap.size, 0, none⟩) 18 18) ∧ (∀ i, i < 18 → w'.cell? ⟨w.heap.size, i, none⟩ = some (.string (keL.getD i ⟨#[]⟩))) ∧ Below w.heap.size w w' := (keys_any w).mono (by
  rintro e w' ⟨rfl, rfl⟩
  refine ⟨rfl, fun i hi => ?_, below_al _⟩
  rw [cell_of_row _ _ i keC 9 (0, 0) (heap_alloc_new w _)]
  exact keC_at i hi)
def lsL : List ByteArray := [⟨#[123]⟩, ⟨#[125]⟩, ⟨#[91]⟩, ⟨#[93]⟩, ⟨#[40]⟩, ⟨#[41]⟩, ⟨#[44]⟩, ⟨#[46]⟩, ⟨#[59]⟩]
abbrev lsC : Array Value := #[.string ⟨#[123]⟩, .string ⟨#[125]⟩, .string ⟨#[91]⟩, .string ⟨#[93]⟩, .string ⟨#[40]⟩, .string ⟨#[41]⟩, .string ⟨#[44]⟩, .string ⟨#[46]⟩, .string ⟨#[59]⟩]
theorem lsC_at (i : Nat) (h : i < 9) : lsC[i]? = some (.string (lsL.getD i ⟨#[]⟩)) :=
  match i, h with
  | 0, _ => rfl
  | 1, _ => rfl
  | 2, _ => rfl
  | 3, _ => rfl
  | 4, _ => rfl
  | 5, _ => rfl
  | 6, _ => rfl
  | 7, _ => rfl
  | 8, _ => rfl
theorem lsL_eq : lsL = [123, 125, 91, 93, 40, 41, 44, 46, 59].map (fun c => ⟨#[UInt8.ofNat c]⟩) := rfl
theorem lsL_has (s : ByteArray) (k : Nat) (h : k < s.size) : hasL lsL (s.extract k (k + 1)) = lisB (gb s k) := by
  rw [lsL_eq, hasL_one _ (by decide) s k h]
  unfold lisB
  rw [Bool.eq_iff_iff]
  simp
  omega
theorem ne_int {c k : Nat} (h : c ≠ k) : ((c : Int) == (k : Int)) = false := by simp; omega
theorem eq_int {c k : Nat} (h : c = k) : ((c : Int) == (k : Int)) = true := by simp; omega

set_option maxRecDepth 100000 in
set_option maxHeartbeats 6400000 in
theorem one_w32 (s : ByteArray) (b p c : Nat) (r : Int × Nat) (w : World) (h : SpL s b p 1 w) (hp : p < s.size) (hs : s.size ≤ 2000) (hc : gb s p = c) (hk : c = 32) (hr : r = (1, p + 1)) :
    Calls Tryz.prog 7 #[.pointer (some ⟨b, 0, none⟩)] w fun e w' => BkPost s b r w e w' := by
  have hgb : ∀ h : p < s.size, (s[p]'h).toNat = c := fun h => by rw [← hc]; exact (gb_in s p h).symm
  have hpl : p ≤ s.size := Nat.le_of_lt hp
  have c0 := h.c0
  have c1 := h.c1
  have hp0 : (0 : Int) ≤ (p : Int) := Int.natCast_nonneg _
  have hp1 : (p : Int) < (s.size : Int) := by omega
  subst hk
  go_enter Tryz.func7, Tryz.ntmps7
  go_wp2_with fail
  go_quiet (fail)
  have HL2 := h.below (below_drewN (Below.refl w.heap.size w) nq)
  have hB2 : Below b w (w.drewN nq) := below_drewN (Below.refl b w) nq
  generalize w.drewN nq = w2 at HL2 hB2
  clear h c0 c1
  obtain ⟨tv, cv, wd, co, n1, n2, xs1, xs2, hI⟩ := HL2
  have c1 := blk_cell hI.blk 1
  simp at c1
  have z1 := blk_thaw hI.blk 1
  have hw1 : IntKind.i64.wrap ((p : Int) + 1) = ((p + 1 : Nat) : Int) := by rw [IntWalk.i64_in _ (by omega)]; omega
  go_wp2_with fail
  go_end0
  exact bk_res ⟨_, _, _, _, _, _, _, _, hI.setAt (p + 1) (by omega)⟩ (by rw [hr]) (fun _ => by rw [hr]) (below_set hB2 _ _)
set_option maxRecDepth 100000 in
set_option maxHeartbeats 6400000 in
theorem one_w9 (s : ByteArray) (b p c : Nat) (r : Int × Nat) (w : World) (h : SpL s b p 1 w) (hp : p < s.size) (hs : s.size ≤ 2000) (hc : gb s p = c) (hk : c = 9) (hr : r = (1, p + 1)) :
    Calls Tryz.prog 7 #[.pointer (some ⟨b, 0, none⟩)] w fun e w' => BkPost s b r w e w' := by
  have hgb : ∀ h : p < s.size, (s[p]'h).toNat = c := fun h => by rw [← hc]; exact (gb_in s p h).symm
  have hpl : p ≤ s.size := Nat.le_of_lt hp
  have c0 := h.c0
  have c1 := h.c1
  have hp0 : (0 : Int) ≤ (p : Int) := Int.natCast_nonneg _
  have hp1 : (p : Int) < (s.size : Int) := by omega
  subst hk
  go_enter Tryz.func7, Tryz.ntmps7
  go_wp2_with fail
  go_quiet (fail)
  have HL2 := h.below (below_drewN (Below.refl w.heap.size w) nq)
  have hB2 : Below b w (w.drewN nq) := below_drewN (Below.refl b w) nq
  generalize w.drewN nq = w2 at HL2 hB2
  clear h c0 c1
  obtain ⟨tv, cv, wd, co, n1, n2, xs1, xs2, hI⟩ := HL2
  have c1 := blk_cell hI.blk 1
  simp at c1
  have z1 := blk_thaw hI.blk 1
  have hw1 : IntKind.i64.wrap ((p : Int) + 1) = ((p + 1 : Nat) : Int) := by rw [IntWalk.i64_in _ (by omega)]; omega
  go_wp2_with fail
  go_end0
  exact bk_res ⟨_, _, _, _, _, _, _, _, hI.setAt (p + 1) (by omega)⟩ (by rw [hr]) (fun _ => by rw [hr]) (below_set hB2 _ _)
set_option maxRecDepth 100000 in
set_option maxHeartbeats 6400000 in
theorem one_w10 (s : ByteArray) (b p c : Nat) (r : Int × Nat) (w : World) (h : SpL s b p 1 w) (hp : p < s.size) (hs : s.size ≤ 2000) (hc : gb s p = c) (hk : c = 10) (hr : r = (1, p + 1)) :
    Calls Tryz.prog 7 #[.pointer (some ⟨b, 0, none⟩)] w fun e w' => BkPost s b r w e w' := by
  have hgb : ∀ h : p < s.size, (s[p]'h).toNat = c := fun h => by rw [← hc]; exact (gb_in s p h).symm
  have hpl : p ≤ s.size := Nat.le_of_lt hp
  have c0 := h.c0
  have c1 := h.c1
  have hp0 : (0 : Int) ≤ (p : Int) := Int.natCast_nonneg _
  have hp1 : (p : Int) < (s.size : Int) := by omega
  subst hk
  go_enter Tryz.func7, Tryz.ntmps7
  go_wp2_with fail
  go_quiet (fail)
  have HL2 := h.below (below_drewN (Below.refl w.heap.size w) nq)
  have hB2 : Below b w (w.drewN nq) := below_drewN (Below.refl b w) nq
  generalize w.drewN nq = w2 at HL2 hB2
  clear h c0 c1
  obtain ⟨tv, cv, wd, co, n1, n2, xs1, xs2, hI⟩ := HL2
  have c1 := blk_cell hI.blk 1
  simp at c1
  have z1 := blk_thaw hI.blk 1
  have hw1 : IntKind.i64.wrap ((p : Int) + 1) = ((p + 1 : Nat) : Int) := by rw [IntWalk.i64_in _ (by omega)]; omega
  go_wp2_with fail
  go_end0
  exact bk_res ⟨_, _, _, _, _, _, _, _, hI.setAt (p + 1) (by omega)⟩ (by rw [hr]) (fun _ => by rw [hr]) (below_set hB2 _ _)
set_option maxRecDepth 100000 in
set_option maxHeartbeats 6400000 in
theorem one_w13 (s : ByteArray) (b p c : Nat) (r : Int × Nat) (w : World) (h : SpL s b p 1 w) (hp : p < s.size) (hs : s.size ≤ 2000) (hc : gb s p = c) (hk : c = 13) (hr : r = (1, p + 1)) :
    Calls Tryz.prog 7 #[.pointer (some ⟨b, 0, none⟩)] w fun e w' => BkPost s b r w e w' := by
  have hgb : ∀ h : p < s.size, (s[p]'h).toNat = c := fun h => by rw [← hc]; exact (gb_in s p h).symm
  have hpl : p ≤ s.size := Nat.le_of_lt hp
  have c0 := h.c0
  have c1 := h.c1
  have hp0 : (0 : Int) ≤ (p : Int) := Int.natCast_nonneg _
  have hp1 : (p : Int) < (s.size : Int) := by omega
  subst hk
  go_enter Tryz.func7, Tryz.ntmps7
  go_wp2_with fail
  go_quiet (fail)
  have HL2 := h.below (below_drewN (Below.refl w.heap.size w) nq)
  have hB2 : Below b w (w.drewN nq) := below_drewN (Below.refl b w) nq
  generalize w.drewN nq = w2 at HL2 hB2
  clear h c0 c1
  obtain ⟨tv, cv, wd, co, n1, n2, xs1, xs2, hI⟩ := HL2
  have c1 := blk_cell hI.blk 1
  simp at c1
  have z1 := blk_thaw hI.blk 1
  have hw1 : IntKind.i64.wrap ((p : Int) + 1) = ((p + 1 : Nat) : Int) := by rw [IntWalk.i64_in _ (by omega)]; omega
  go_wp2_with fail
  go_end0
  exact bk_res ⟨_, _, _, _, _, _, _, _, hI.setAt (p + 1) (by omega)⟩ (by rw [hr]) (fun _ => by rw [hr]) (below_set hB2 _ _)
set_option maxRecDepth 100000 in
set_option maxHeartbeats 6400000 in
theorem one_l35 (s : ByteArray) (b p c : Nat) (r : Int × Nat) (w : World) (h : SpL s b p 1 w) (hp : p < s.size) (hs : s.size ≤ 2000) (hc : gb s p = c) (hk : c = 35) (hr : r = (1, scan s nolB p)) :
    Calls Tryz.prog 7 #[.pointer (some ⟨b, 0, none⟩)] w fun e w' => BkPost s b r w e w' := by
  have hgb : ∀ h : p < s.size, (s[p]'h).toNat = c := fun h => by rw [← hc]; exact (gb_in s p h).symm
  have hpl : p ≤ s.size := Nat.le_of_lt hp
  have c0 := h.c0
  have c1 := h.c1
  have hp0 : (0 : Int) ≤ (p : Int) := Int.natCast_nonneg _
  have hp1 : (p : Int) < (s.size : Int) := by omega
  subst hk
  go_enter Tryz.func7, Tryz.ntmps7
  go_wp2_with fail
  go_quiet (fail)
  have HL2 := h.below (below_drewN (Below.refl w.heap.size w) nq)
  have hB2 : Below b w (w.drewN nq) := below_drewN (Below.refl b w) nq
  generalize w.drewN nq = w2 at HL2 hB2
  clear h c0 c1
  go_wp2_with fail
  refine (line_any s b p 1 _ (by assumption) hp (by rw [nolB_ten, hc]; omega) hs).mono ?_
  rintro ev w9 ⟨⟨v, rfl⟩, hL9, hb9⟩
  go_wp2_with fail
  go_end0
  exact bk_res hL9 (by rw [hr]) (fun _ => by rw [hr]) (Below.trans (by assumption) hb9)
set_option maxRecDepth 100000 in
set_option maxHeartbeats 6400000 in
theorem one_lsl (s : ByteArray) (b p c : Nat) (r : Int × Nat) (w : World) (h : SpL s b p 1 w) (hp : p < s.size) (hs : s.size ≤ 2000) (hc : gb s p = c) (hw : wsB c = false) (h35 : c ≠ 35) (hk : begB s p ⟨#[47, 47]⟩ = true) (hr : r = (1, scan s nolB p)) :
    Calls Tryz.prog 7 #[.pointer (some ⟨b, 0, none⟩)] w fun e w' => BkPost s b r w e w' := by
  have hgb : ∀ h : p < s.size, (s[p]'h).toNat = c := fun h => by rw [← hc]; exact (gb_in s p h).symm
  have hpl : p ≤ s.size := Nat.le_of_lt hp
  have c0 := h.c0
  have c1 := h.c1
  have hp0 : (0 : Int) ≤ (p : Int) := Int.natCast_nonneg _
  have hp1 : (p : Int) < (s.size : Int) := by omega
  have hne : c ≠ 32 ∧ c ≠ 9 ∧ c ≠ 10 ∧ c ≠ 13 := by unfold wsB at hw; simp at hw; omega
  have t32 : ((c : Int) == 32) = false := by simp; omega
  have t9 : ((c : Int) == 9) = false := by simp; omega
  have t10 : ((c : Int) == 10) = false := by simp; omega
  have t13 : ((c : Int) == 13) = false := by simp; omega
  have t35 : ((c : Int) == 35) = false := by simp; omega
  go_enter Tryz.func7, Tryz.ntmps7
  go_wp2_with fail
  go_quiet (fail)
  have HL2 := h.below (below_drewN (Below.refl w.heap.size w) nq)
  have hB2 : Below b w (w.drewN nq) := below_drewN (Below.refl b w) nq
  generalize w.drewN nq = w2 at HL2 hB2
  clear h c0 c1
  go_wp2_with (go_at_call 9; refine (begins_any s b p 1 _ _ (by assumption) hpl hs (by decide)).mono ?_; rintro e w' ⟨rfl, n, hw⟩; have hL' := dn' (by assumption) hw; have hB' := bn' (by assumption) hw; clear hw)
  refine (line_any s b p 1 _ (by assumption) hp (by rw [nolB_ten, hc]; omega) hs).mono ?_
  rintro ev w9 ⟨⟨v, rfl⟩, hL9, hb9⟩
  go_wp2_with fail
  go_end0
  exact bk_res hL9 (by rw [hr]) (fun _ => by rw [hr]) (Below.trans (by assumption) hb9)
set_option maxRecDepth 100000 in
set_option maxHeartbeats 6400000 in
theorem one_cm (s : ByteArray) (b p c : Nat) (r : Int × Nat) (w : World) (h : SpL s b p 1 w) (hp : p < s.size) (hs : s.size ≤ 2000) (hc : gb s p = c) (hw : wsB c = false) (h35 : c ≠ 35) (hb0 : begB s p ⟨#[47, 47]⟩ = false) (hk : begB s p ⟨#[47, 42]⟩ = true) (hr : r = optS p ((starE s (p + 2)).map (· + 2))) :
    Calls Tryz.prog 7 #[.pointer (some ⟨b, 0, none⟩)] w fun e w' => BkPost s b r w e w' := by
  have hgb : ∀ h : p < s.size, (s[p]'h).toNat = c := fun h => by rw [← hc]; exact (gb_in s p h).symm
  have hpl : p ≤ s.size := Nat.le_of_lt hp
  have c0 := h.c0
  have c1 := h.c1
  have hp0 : (0 : Int) ≤ (p : Int) := Int.natCast_nonneg _
  have hp1 : (p : Int) < (s.size : Int) := by omega
  have hne : c ≠ 32 ∧ c ≠ 9 ∧ c ≠ 10 ∧ c ≠ 13 := by unfold wsB at hw; simp at hw; omega
  have t32 : ((c : Int) == 32) = false := by simp; omega
  have t9 : ((c : Int) == 9) = false := by simp; omega
  have t10 : ((c : Int) == 10) = false := by simp; omega
  have t13 : ((c : Int) == 13) = false := by simp; omega
  have t35 : ((c : Int) == 35) = false := by simp; omega
  go_enter Tryz.func7, Tryz.ntmps7
  go_wp2_with fail
  go_quiet (fail)
  have HL2 := h.below (below_drewN (Below.refl w.heap.size w) nq)
  have hB2 : Below b w (w.drewN nq) := below_drewN (Below.refl b w) nq
  generalize w.drewN nq = w2 at HL2 hB2
  clear h c0 c1
  go_wp2_with (go_at_call 9; refine (begins_any s b p 1 _ _ (by assumption) hpl hs (by decide)).mono ?_; rintro e w' ⟨rfl, n, hw⟩; have hL' := dn' (by assumption) hw; have hB' := bn' (by assumption) hw; clear hw)
  refine (comment_any s b p _ (by assumption) (beg_size s p _ hk) hs).mono ?_
  rintro ev w9 ⟨⟨v, rfl⟩, hL9, hb9⟩
  go_wp2_with fail
  go_end0
  change (match starE s (p + 2) with | some q => SpL s b (q + 2) 1 w9 | none => ∃ q, SpL s b q 2 w9) at hL9
  cases hq : starE s (p + 2) with
  | some q =>
    rw [hq] at hL9 hr
    exact bk_res hL9 (by rw [hr]; rfl) (fun _ => by rw [hr]; rfl) (Below.trans (by assumption) hb9)
  | none =>
    rw [hq] at hL9 hr
    obtain ⟨q, hL9⟩ := hL9
    exact bk_wrong hL9 (by rw [hr]; rfl) (Below.trans (by assumption) hb9)
set_option maxRecDepth 100000 in
set_option maxHeartbeats 6400000 in
theorem one_bk (s : ByteArray) (b p c : Nat) (r : Int × Nat) (w : World) (h : SpL s b p 1 w) (hp : p < s.size) (hs : s.size ≤ 2000) (hc : gb s p = c) (hw : wsB c = false) (h35 : c ≠ 35) (hb0 : begB s p ⟨#[47, 47]⟩ = false) (hb1 : begB s p ⟨#[47, 42]⟩ = false) (hk : begB s p ⟨#[124, 124, 124]⟩ = true) (hr : r = blkS s p) :
    Calls Tryz.prog 7 #[.pointer (some ⟨b, 0, none⟩)] w fun e w' => BkPost s b r w e w' := by
  have hgb : ∀ h : p < s.size, (s[p]'h).toNat = c := fun h => by rw [← hc]; exact (gb_in s p h).symm
  have hpl : p ≤ s.size := Nat.le_of_lt hp
  have c0 := h.c0
  have c1 := h.c1
  have hp0 : (0 : Int) ≤ (p : Int) := Int.natCast_nonneg _
  have hp1 : (p : Int) < (s.size : Int) := by omega
  have hne : c ≠ 32 ∧ c ≠ 9 ∧ c ≠ 10 ∧ c ≠ 13 := by unfold wsB at hw; simp at hw; omega
  have t32 : ((c : Int) == 32) = false := by simp; omega
  have t9 : ((c : Int) == 9) = false := by simp; omega
  have t10 : ((c : Int) == 10) = false := by simp; omega
  have t13 : ((c : Int) == 13) = false := by simp; omega
  have t35 : ((c : Int) == 35) = false := by simp; omega
  go_enter Tryz.func7, Tryz.ntmps7
  go_wp2_with fail
  go_quiet (fail)
  have HL2 := h.below (below_drewN (Below.refl w.heap.size w) nq)
  have hB2 : Below b w (w.drewN nq) := below_drewN (Below.refl b w) nq
  generalize w.drewN nq = w2 at HL2 hB2
  clear h c0 c1
  go_wp2_with (go_at_call 9; refine (begins_any s b p 1 _ _ (by assumption) hpl hs (by decide)).mono ?_; rintro e w' ⟨rfl, n, hw⟩; have hL' := dn' (by assumption) hw; have hB' := bn' (by assumption) hw; clear hw)
  refine (block_any s b p _ (by assumption) (beg_size s p _ hk) hs).mono ?_
  rintro ev w9 ⟨⟨v, rfl⟩, ⟨st, q, hL9, hst⟩, hb9⟩
  go_wp2_with fail
  go_end0
  rw [← hr] at hst
  exact ⟨⟨_, rfl⟩, ⟨st, q, hL9, hst⟩, Below.trans (by assumption) hb9⟩
set_option maxRecDepth 100000 in
set_option maxHeartbeats 6400000 in
theorem one_vd (s : ByteArray) (b p c : Nat) (r : Int × Nat) (w : World) (h : SpL s b p 1 w) (hp : p < s.size) (hs : s.size ≤ 2000) (hc : gb s p = c) (hw : wsB c = false) (h35 : c ≠ 35) (hb0 : begB s p ⟨#[47, 47]⟩ = false) (hb1 : begB s p ⟨#[47, 42]⟩ = false) (hb2 : begB s p ⟨#[124, 124, 124]⟩ = false) (hk : begB s p ⟨#[64, 34]⟩ = true) (hr : r = optS p (verbE s 34 (p + 2))) :
    Calls Tryz.prog 7 #[.pointer (some ⟨b, 0, none⟩)] w fun e w' => BkPost s b r w e w' := by
  have hgb : ∀ h : p < s.size, (s[p]'h).toNat = c := fun h => by rw [← hc]; exact (gb_in s p h).symm
  have hpl : p ≤ s.size := Nat.le_of_lt hp
  have c0 := h.c0
  have c1 := h.c1
  have hp0 : (0 : Int) ≤ (p : Int) := Int.natCast_nonneg _
  have hp1 : (p : Int) < (s.size : Int) := by omega
  have hne : c ≠ 32 ∧ c ≠ 9 ∧ c ≠ 10 ∧ c ≠ 13 := by unfold wsB at hw; simp at hw; omega
  have t32 : ((c : Int) == 32) = false := by simp; omega
  have t9 : ((c : Int) == 9) = false := by simp; omega
  have t10 : ((c : Int) == 10) = false := by simp; omega
  have t13 : ((c : Int) == 13) = false := by simp; omega
  have t35 : ((c : Int) == 35) = false := by simp; omega
  go_enter Tryz.func7, Tryz.ntmps7
  go_wp2_with fail
  go_quiet (fail)
  have HL2 := h.below (below_drewN (Below.refl w.heap.size w) nq)
  have hB2 : Below b w (w.drewN nq) := below_drewN (Below.refl b w) nq
  generalize w.drewN nq = w2 at HL2 hB2
  clear h c0 c1
  go_wp2_with (go_at_call 9; refine (begins_any s b p 1 _ _ (by assumption) hpl hs (by decide)).mono ?_; rintro e w' ⟨rfl, n, hw⟩; have hL' := dn' (by assumption) hw; have hB' := bn' (by assumption) hw; clear hw)
  refine (verbatim_any s b p 34 3 _ (by assumption) (beg_size s p _ hk) hs (by decide)).mono ?_
  rintro ev w9 ⟨⟨v, rfl⟩, hL9, hb9⟩
  go_wp2_with fail
  go_end0
  change (match verbE s 34 (p + 2) with | some k => SpL s b k 1 w9 | none => SpL s b p 2 w9) at hL9
  cases hq : verbE s 34 (p + 2) with
  | some q =>
    rw [hq] at hL9 hr
    exact bk_res hL9 (by rw [hr]; rfl) (fun _ => by rw [hr]; rfl) (Below.trans (by assumption) hb9)
  | none =>
    rw [hq] at hL9 hr
    exact bk_wrong hL9 (by rw [hr]; rfl) (Below.trans (by assumption) hb9)
set_option maxRecDepth 100000 in
set_option maxHeartbeats 6400000 in
theorem one_vs (s : ByteArray) (b p c : Nat) (r : Int × Nat) (w : World) (h : SpL s b p 1 w) (hp : p < s.size) (hs : s.size ≤ 2000) (hc : gb s p = c) (hw : wsB c = false) (h35 : c ≠ 35) (hb0 : begB s p ⟨#[47, 47]⟩ = false) (hb1 : begB s p ⟨#[47, 42]⟩ = false) (hb2 : begB s p ⟨#[124, 124, 124]⟩ = false) (hb3 : begB s p ⟨#[64, 34]⟩ = false) (hk : begB s p ⟨#[64, 39]⟩ = true) (hr : r = optS p (verbE s 39 (p + 2))) :
    Calls Tryz.prog 7 #[.pointer (some ⟨b, 0, none⟩)] w fun e w' => BkPost s b r w e w' := by
  have hgb : ∀ h : p < s.size, (s[p]'h).toNat = c := fun h => by rw [← hc]; exact (gb_in s p h).symm
  have hpl : p ≤ s.size := Nat.le_of_lt hp
  have c0 := h.c0
  have c1 := h.c1
  have hp0 : (0 : Int) ≤ (p : Int) := Int.natCast_nonneg _
  have hp1 : (p : Int) < (s.size : Int) := by omega
  have hne : c ≠ 32 ∧ c ≠ 9 ∧ c ≠ 10 ∧ c ≠ 13 := by unfold wsB at hw; simp at hw; omega
  have t32 : ((c : Int) == 32) = false := by simp; omega
  have t9 : ((c : Int) == 9) = false := by simp; omega
  have t10 : ((c : Int) == 10) = false := by simp; omega
  have t13 : ((c : Int) == 13) = false := by simp; omega
  have t35 : ((c : Int) == 35) = false := by simp; omega
  go_enter Tryz.func7, Tryz.ntmps7
  go_wp2_with fail
  go_quiet (fail)
  have HL2 := h.below (below_drewN (Below.refl w.heap.size w) nq)
  have hB2 : Below b w (w.drewN nq) := below_drewN (Below.refl b w) nq
  generalize w.drewN nq = w2 at HL2 hB2
  clear h c0 c1
  go_wp2_with (go_at_call 9; refine (begins_any s b p 1 _ _ (by assumption) hpl hs (by decide)).mono ?_; rintro e w' ⟨rfl, n, hw⟩; have hL' := dn' (by assumption) hw; have hB' := bn' (by assumption) hw; clear hw)
  refine (verbatim_any s b p 39 4 _ (by assumption) (beg_size s p _ hk) hs (by decide)).mono ?_
  rintro ev w9 ⟨⟨v, rfl⟩, hL9, hb9⟩
  go_wp2_with fail
  go_end0
  change (match verbE s 39 (p + 2) with | some k => SpL s b k 1 w9 | none => SpL s b p 2 w9) at hL9
  cases hq : verbE s 39 (p + 2) with
  | some q =>
    rw [hq] at hL9 hr
    exact bk_res hL9 (by rw [hr]; rfl) (fun _ => by rw [hr]; rfl) (Below.trans (by assumption) hb9)
  | none =>
    rw [hq] at hL9 hr
    exact bk_wrong hL9 (by rw [hr]; rfl) (Below.trans (by assumption) hb9)
set_option maxRecDepth 100000 in
set_option maxHeartbeats 6400000 in
theorem one_qd (s : ByteArray) (b p c : Nat) (r : Int × Nat) (w : World) (h : SpL s b p 1 w) (hp : p < s.size) (hs : s.size ≤ 2000) (hc : gb s p = c) (hw : wsB c = false) (h35 : c ≠ 35) (hb0 : begB s p ⟨#[47, 47]⟩ = false) (hb1 : begB s p ⟨#[47, 42]⟩ = false) (hb2 : begB s p ⟨#[124, 124, 124]⟩ = false) (hb3 : begB s p ⟨#[64, 34]⟩ = false) (hb4 : begB s p ⟨#[64, 39]⟩ = false) (hk : c = 34) (hr : r = quoS s p (quoN s 34 (s.size + 1) (p + 1))) :
    Calls Tryz.prog 7 #[.pointer (some ⟨b, 0, none⟩)] w fun e w' => BkPost s b r w e w' := by
  have hgb : ∀ h : p < s.size, (s[p]'h).toNat = c := fun h => by rw [← hc]; exact (gb_in s p h).symm
  have hpl : p ≤ s.size := Nat.le_of_lt hp
  have c0 := h.c0
  have c1 := h.c1
  have hp0 : (0 : Int) ≤ (p : Int) := Int.natCast_nonneg _
  have hp1 : (p : Int) < (s.size : Int) := by omega
  have hne : c ≠ 32 ∧ c ≠ 9 ∧ c ≠ 10 ∧ c ≠ 13 := by unfold wsB at hw; simp at hw; omega
  have t32 : ((c : Int) == 32) = false := by simp; omega
  have t9 : ((c : Int) == 9) = false := by simp; omega
  have t10 : ((c : Int) == 10) = false := by simp; omega
  have t13 : ((c : Int) == 13) = false := by simp; omega
  have t35 : ((c : Int) == 35) = false := by simp; omega
  subst hk
  go_enter Tryz.func7, Tryz.ntmps7
  go_wp2_with fail
  go_quiet (fail)
  have HL2 := h.below (below_drewN (Below.refl w.heap.size w) nq)
  have hB2 : Below b w (w.drewN nq) := below_drewN (Below.refl b w) nq
  generalize w.drewN nq = w2 at HL2 hB2
  clear h c0 c1
  go_wp2_with (go_at_call 9; refine (begins_any s b p 1 _ _ (by assumption) hpl hs (by decide)).mono ?_; rintro e w' ⟨rfl, n, hw⟩; have hL' := dn' (by assumption) hw; have hB' := bn' (by assumption) hw; clear hw)
  refine (quoted_any s b p 34 1 _ (by assumption) (by omega) hs).mono ?_
  rintro ev w9 ⟨⟨v, rfl⟩, hL9, hb9⟩
  go_wp2_with fail
  go_end0
  exact bk_res hL9 (by rw [hr]) (fun _ => by rw [hr]) (Below.trans (by assumption) hb9)
set_option maxRecDepth 100000 in
set_option maxHeartbeats 6400000 in
theorem one_qs (s : ByteArray) (b p c : Nat) (r : Int × Nat) (w : World) (h : SpL s b p 1 w) (hp : p < s.size) (hs : s.size ≤ 2000) (hc : gb s p = c) (hw : wsB c = false) (h35 : c ≠ 35) (hb0 : begB s p ⟨#[47, 47]⟩ = false) (hb1 : begB s p ⟨#[47, 42]⟩ = false) (hb2 : begB s p ⟨#[124, 124, 124]⟩ = false) (hb3 : begB s p ⟨#[64, 34]⟩ = false) (hb4 : begB s p ⟨#[64, 39]⟩ = false) (hk : c = 39) (hr : r = quoS s p (quoN s 39 (s.size + 1) (p + 1))) :
    Calls Tryz.prog 7 #[.pointer (some ⟨b, 0, none⟩)] w fun e w' => BkPost s b r w e w' := by
  have hgb : ∀ h : p < s.size, (s[p]'h).toNat = c := fun h => by rw [← hc]; exact (gb_in s p h).symm
  have hpl : p ≤ s.size := Nat.le_of_lt hp
  have c0 := h.c0
  have c1 := h.c1
  have hp0 : (0 : Int) ≤ (p : Int) := Int.natCast_nonneg _
  have hp1 : (p : Int) < (s.size : Int) := by omega
  have hne : c ≠ 32 ∧ c ≠ 9 ∧ c ≠ 10 ∧ c ≠ 13 := by unfold wsB at hw; simp at hw; omega
  have t32 : ((c : Int) == 32) = false := by simp; omega
  have t9 : ((c : Int) == 9) = false := by simp; omega
  have t10 : ((c : Int) == 10) = false := by simp; omega
  have t13 : ((c : Int) == 13) = false := by simp; omega
  have t35 : ((c : Int) == 35) = false := by simp; omega
  subst hk
  go_enter Tryz.func7, Tryz.ntmps7
  go_wp2_with fail
  go_quiet (fail)
  have HL2 := h.below (below_drewN (Below.refl w.heap.size w) nq)
  have hB2 : Below b w (w.drewN nq) := below_drewN (Below.refl b w) nq
  generalize w.drewN nq = w2 at HL2 hB2
  clear h c0 c1
  go_wp2_with (go_at_call 9; refine (begins_any s b p 1 _ _ (by assumption) hpl hs (by decide)).mono ?_; rintro e w' ⟨rfl, n, hw⟩; have hL' := dn' (by assumption) hw; have hB' := bn' (by assumption) hw; clear hw)
  refine (quoted_any s b p 39 0 _ (by assumption) (by omega) hs).mono ?_
  rintro ev w9 ⟨⟨v, rfl⟩, hL9, hb9⟩
  go_wp2_with fail
  go_end0
  exact bk_res hL9 (by rw [hr]) (fun _ => by rw [hr]) (Below.trans (by assumption) hb9)
set_option maxRecDepth 100000 in
set_option maxHeartbeats 6400000 in
theorem one_nu (s : ByteArray) (b p c : Nat) (r : Int × Nat) (w : World) (h : SpL s b p 1 w) (hp : p < s.size) (hs : s.size ≤ 2000) (hc : gb s p = c) (hw : wsB c = false) (h35 : c ≠ 35) (hb0 : begB s p ⟨#[47, 47]⟩ = false) (hb1 : begB s p ⟨#[47, 42]⟩ = false) (hb2 : begB s p ⟨#[124, 124, 124]⟩ = false) (hb3 : begB s p ⟨#[64, 34]⟩ = false) (hb4 : begB s p ⟨#[64, 39]⟩ = false) (h34 : c ≠ 34) (h39 : c ≠ 39) (hk : nuB (c : Int) = true) (hr : r = optO p (numS s p)) :
    Calls Tryz.prog 7 #[.pointer (some ⟨b, 0, none⟩)] w fun e w' => BkPost s b r w e w' := by
  have hgb : ∀ h : p < s.size, (s[p]'h).toNat = c := fun h => by rw [← hc]; exact (gb_in s p h).symm
  have hpl : p ≤ s.size := Nat.le_of_lt hp
  have c0 := h.c0
  have c1 := h.c1
  have hp0 : (0 : Int) ≤ (p : Int) := Int.natCast_nonneg _
  have hp1 : (p : Int) < (s.size : Int) := by omega
  have hne : c ≠ 32 ∧ c ≠ 9 ∧ c ≠ 10 ∧ c ≠ 13 := by unfold wsB at hw; simp at hw; omega
  have t32 : ((c : Int) == 32) = false := by simp; omega
  have t9 : ((c : Int) == 9) = false := by simp; omega
  have t10 : ((c : Int) == 10) = false := by simp; omega
  have t13 : ((c : Int) == 13) = false := by simp; omega
  have t35 : ((c : Int) == 35) = false := by simp; omega
  have t34 : ((c : Int) == 34) = false := by simp; omega
  have t39 : ((c : Int) == 39) = false := by simp; omega
  go_enter Tryz.func7, Tryz.ntmps7
  go_wp2_with fail
  go_quiet (fail)
  have HL2 := h.below (below_drewN (Below.refl w.heap.size w) nq)
  have hB2 : Below b w (w.drewN nq) := below_drewN (Below.refl b w) nq
  generalize w.drewN nq = w2 at HL2 hB2
  clear h c0 c1
  go_wp2_with (first | (go_at_call 9; refine (begins_any s b p 1 _ _ (by assumption) hpl hs (by decide)).mono ?_; rintro e w' ⟨rfl, n, hw⟩; have hL' := dn' (by assumption) hw; have hB' := bn' (by assumption) hw; clear hw) | (go_at_call 15; refine (digit_any _ _).mono ?_; rintro e w' ⟨rfl, rfl⟩))
  refine (number_any s b p _ (by assumption) hp (by rw [hc]; exact hk) hs).mono ?_
  rintro ev w9 ⟨⟨v, rfl⟩, hL9, hb9⟩
  go_wp2_with fail
  go_end0
  cases hq : numS s p with
  | some q =>
    rw [hq] at hL9 hr
    exact bk_res hL9 (by rw [hr]; rfl) (fun _ => by rw [hr]; rfl) (Below.trans (by assumption) hb9)
  | none =>
    rw [hq] at hL9
    exact bk_open hL9 (Below.trans (by assumption) hb9)
set_option maxRecDepth 100000 in
set_option maxHeartbeats 6400000 in
theorem one_id (s : ByteArray) (b p c : Nat) (r : Int × Nat) (w : World) (h : SpL s b p 1 w) (hp : p < s.size) (hs : s.size ≤ 2000) (hc : gb s p = c) (hw : wsB c = false) (h35 : c ≠ 35) (hb0 : begB s p ⟨#[47, 47]⟩ = false) (hb1 : begB s p ⟨#[47, 42]⟩ = false) (hb2 : begB s p ⟨#[124, 124, 124]⟩ = false) (hb3 : begB s p ⟨#[64, 34]⟩ = false) (hb4 : begB s p ⟨#[64, 39]⟩ = false) (h34 : c ≠ 34) (h39 : c ≠ 39) (hd : nuB (c : Int) = false) (hk : letB c = true) (hr : r = (1, scan s idB p)) :
    Calls Tryz.prog 7 #[.pointer (some ⟨b, 0, none⟩)] w fun e w' => BkPost s b r w e w' := by
  have hgb : ∀ h : p < s.size, (s[p]'h).toNat = c := fun h => by rw [← hc]; exact (gb_in s p h).symm
  have hpl : p ≤ s.size := Nat.le_of_lt hp
  have c0 := h.c0
  have c1 := h.c1
  have hp0 : (0 : Int) ≤ (p : Int) := Int.natCast_nonneg _
  have hp1 : (p : Int) < (s.size : Int) := by omega
  have hne : c ≠ 32 ∧ c ≠ 9 ∧ c ≠ 10 ∧ c ≠ 13 := by unfold wsB at hw; simp at hw; omega
  have t32 : ((c : Int) == 32) = false := by simp; omega
  have t9 : ((c : Int) == 9) = false := by simp; omega
  have t10 : ((c : Int) == 10) = false := by simp; omega
  have t13 : ((c : Int) == 13) = false := by simp; omega
  have t35 : ((c : Int) == 35) = false := by simp; omega
  have t34 : ((c : Int) == 34) = false := by simp; omega
  have t39 : ((c : Int) == 39) = false := by simp; omega
  go_enter Tryz.func7, Tryz.ntmps7
  go_wp2_with fail
  go_quiet (fail)
  have HL2 := h.below (below_drewN (Below.refl w.heap.size w) nq)
  have hB2 : Below b w (w.drewN nq) := below_drewN (Below.refl b w) nq
  generalize w.drewN nq = w2 at HL2 hB2
  clear h c0 c1
  obtain ⟨E, hE⟩ : ∃ E, scan s idB p = E := ⟨_, rfl⟩
  have hEb : p < E ∧ E ≤ s.size := by
    rw [← hE, scan_step s idB p hp (by rw [hc]; exact letB_id _ hk)]
    have := scan_bounds s idB (p + 1) (by omega)
    omega
  have HE := Lib.hid hE
  rw [hE] at hr
  clear hE
  go_upto_region 21 with (first | (go_at_call 9; refine (begins_any s b p 1 _ _ (by assumption) hpl hs (by decide)).mono ?_; rintro e w' ⟨rfl, n, hw⟩; have hL' := dn' (by assumption) hw; have hB' := bn' (by assumption) hw; clear hw) | (go_at_call 15; refine (digit_any _ _).mono ?_; rintro e w' ⟨rfl, rfl⟩) | (go_at_call 17; refine (letter_any _ _).mono ?_; rintro e w' ⟨rfl, rfl⟩))
  go_cut [3] (fun v wx => v = .int .i64 p ∧ SpL s b p 1 wx ∧ Below b w wx)
  case first =>
    have c1a := SpL.c1 (s := s) (b := b) (p := p) (st := 1) (by assumption)
    go_wp2_with fail
    go_meet
    exact ⟨rfl, by assumption, by assumption⟩
  case rest =>
    obtain ⟨rfl, HL3, HB3⟩ := hcut
    generalize wc = w3 at *
    have c03 := HL3.c0
    go_wp2_with fail
    go_loopw [3] (fun i wr => ∃ j : Nat, i = .int .i64 j ∧ Hid (scan s idB j = E) ∧ p ≤ j ∧ j ≤ s.size ∧ w3 = wr) (fun i _ => s.size - (intOf i).toNat)
    case atStart => exact ⟨p, rfl, HE, Nat.le_refl _, hpl, rfl⟩
    case round =>
      obtain ⟨j, rfl, HS, hpj, hj, rfl⟩ := hrel
      go_upto_region 22 with (fail)
      go_cut [113] (fun v wx => v = .bool (decide (j < s.size) && idB (gb s j)) ∧ w3 = wx)
      case first => as_aux_lemma =>
        by_cases hlt : j < s.size
        · have hgj : ∀ h : j < s.size, (s[j]'h).toNat = gb s j := fun h => (gb_in s j h).symm
          cases hlj : letB (gb s j) with
          | true =>
            have HF : Hid (true = (decide (j < s.size) && idB (gb s j))) := Lib.hid (by rw [decide_eq_true hlt, letB_id _ hlj]; rfl)
            go_wp2_with (go_at_call 17; refine (letter_any _ _).mono ?_; rintro e w' ⟨rfl, rfl⟩)
            go_meet
            exact ⟨by rw [← HF.out], rfl⟩
          | false =>
            have HF : Hid (nuB (gb s j : Int) = (decide (j < s.size) && idB (gb s j))) := Lib.hid (by rw [decide_eq_true hlt]; unfold idB digB; rw [hlj]; rfl)
            go_wp2_with (first | (go_at_call 15; refine (digit_any _ _).mono ?_; rintro e w' ⟨rfl, rfl⟩) | (go_at_call 17; refine (letter_any _ _).mono ?_; rintro e w' ⟨rfl, rfl⟩))
            go_meet
            exact ⟨by rw [← HF.out], rfl⟩
        · have HF : Hid (false = (decide (j < s.size) && idB (gb s j))) := Lib.hid (by rw [decide_eq_false hlt]; rfl)
          go_wp2_with fail
          go_meet
          exact ⟨by rw [← HF.out], rfl⟩
      case rest =>
        obtain ⟨rfl, rfl⟩ := hcut
        cases hg : (decide (j < s.size) && idB (gb s j)) with
        | true =>
          have hg' := hg
          simp only [Bool.and_eq_true, decide_eq_true_eq] at hg'
          obtain ⟨h1, h2⟩ := hg'
          have HN : Hid (scan s idB (j + 1) = E) := Lib.hid (by rw [← HS.out, scan_step s idB j h1 h2])
          clear h2
          go_wp2_with fail
          go_roundw
          case rel => exact ⟨j + 1, rfl, HN, by omega, by omega, trivial⟩
          case measure => simp [intOf]; omega
        | false =>
          have hjE : j = E := by
            rw [← HS.out, scan_stop s idB j]
            rintro ⟨h1, h2⟩
            rw [decide_eq_true h1, h2] at hg
            cases hg
          subst hjE
          clear HS hg HE
          have q1 : (p : Int) ≤ (j : Int) := by omega
          have q2 : (j : Int) ≤ (s.size : Int) := by omega
          go_upto_region 25 with (fail)
          go_cut [127] (fun v wx => ∃ vb : Bool, v = .bool vb ∧ SpL s b p 1 wx ∧ Below b w wx)
          case first =>
            have hd3 : Below w3.heap.size w3 w3.drew := below_drewN (Below.refl _ w3) 1
            have SH : ∀ w', Below w3.heap.size w3 w' → (w'.cell? ⟨b, 0, none⟩ = some (.string s) ∧ w'.cell? ⟨b, 1, none⟩ = some (.int .i64 p)) := fun w' hb => ⟨(HL3.below hb).c0, (HL3.below hb).c1⟩
            have S0 := SH w3.drew hd3
            go_region_held_law (fun w' => w'.cell? ⟨b, 0, none⟩ = some (.string s) ∧ w'.cell? ⟨b, 1, none⟩ = some (.int .i64 p)) (first | exact S0 | exact S1) (first | (go_simp; go_at_call 19; refine (keys_below _).mono ?_; rintro e w1 ⟨rfl, hk1, hb1⟩; have hb2 := hd3.trans hb1; have S1 := SH w1 hb2) | (go_simp; go_at_call 18; refine (has_any keL _ _ 18 18 _ rfl (by omega) hk1).mono ?_; rintro e w2 ⟨rfl, rfl⟩))
            all_goals (
              go_wp2_with fail
              go_meet
              exact ⟨_, rfl, HL3.below hb2, HB3.trans (hb2.mono (Nat.le_of_lt HL3.lt))⟩)
          case rest =>
            obtain ⟨vb, rfl, HL4, HB4⟩ := hcut
            cases vb
            all_goals (
              go_wp2_with fail
              refine (put_any s b p 1 _ j _ HL4 hEb.1 hEb.2 hs).mono ?_
              rintro ev w9 ⟨⟨v, rfl⟩, hL9, hb9⟩
              go_wp2_with fail
              go_end0
              exact bk_res hL9 (by rw [hr]) (fun _ => by rw [hr]) (HB4.trans hb9))
set_option maxRecDepth 100000 in
set_option maxHeartbeats 6400000 in
theorem one_re (s : ByteArray) (b p c : Nat) (r : Int × Nat) (w : World) (h : SpL s b p 1 w) (hp : p < s.size) (hs : s.size ≤ 2000) (hc : gb s p = c) (hw : wsB c = false) (h35 : c ≠ 35) (hb0 : begB s p ⟨#[47, 47]⟩ = false) (hb1 : begB s p ⟨#[47, 42]⟩ = false) (hb2 : begB s p ⟨#[124, 124, 124]⟩ = false) (hb3 : begB s p ⟨#[64, 34]⟩ = false) (hb4 : begB s p ⟨#[64, 39]⟩ = false) (h34 : c ≠ 34) (h39 : c ≠ 39) (hd : nuB (c : Int) = false) (hl : letB c = false) (hr : r = if lisB c = true then (1, p + 1) else if opB c = true then sgS s p else if c < 128 then (2, p) else (0, p)) :
    Calls Tryz.prog 7 #[.pointer (some ⟨b, 0, none⟩)] w fun e w' => BkPost s b r w e w' := by
  have hgb : ∀ h : p < s.size, (s[p]'h).toNat = c := fun h => by rw [← hc]; exact (gb_in s p h).symm
  have hpl : p ≤ s.size := Nat.le_of_lt hp
  have c0 := h.c0
  have c1 := h.c1
  have hp0 : (0 : Int) ≤ (p : Int) := Int.natCast_nonneg _
  have hp1 : (p : Int) < (s.size : Int) := by omega
  have hne : c ≠ 32 ∧ c ≠ 9 ∧ c ≠ 10 ∧ c ≠ 13 := by unfold wsB at hw; simp at hw; omega
  have t32 : ((c : Int) == 32) = false := by simp; omega
  have t9 : ((c : Int) == 9) = false := by simp; omega
  have t10 : ((c : Int) == 10) = false := by simp; omega
  have t13 : ((c : Int) == 13) = false := by simp; omega
  have t35 : ((c : Int) == 35) = false := by simp; omega
  have t34 : ((c : Int) == 34) = false := by simp; omega
  have t39 : ((c : Int) == 39) = false := by simp; omega
  go_enter Tryz.func7, Tryz.ntmps7
  go_wp2_with fail
  go_quiet (fail)
  have HL2 := h.below (below_drewN (Below.refl w.heap.size w) nq)
  have hB2 : Below b w (w.drewN nq) := below_drewN (Below.refl b w) nq
  generalize w.drewN nq = w2 at HL2 hB2
  clear h c0 c1
  go_upto_region 18 with ((go_at_call 9; refine (begins_any s b p 1 _ _ (by assumption) hpl hs (by decide)).mono ?_; rintro e w' ⟨rfl, n, hw⟩; have hL' := dn' (by assumption) hw; have hB' := bn' (by assumption) hw; clear hw))
  go_cut [77] (fun v wx => v = .bool false ∧ SpL s b p 1 wx ∧ Below b w wx)
  case first =>
    go_wp2_with ((go_at_call 15; refine (digit_any _ _).mono ?_; rintro e w' ⟨rfl, rfl⟩))
    go_meet
    exact ⟨rfl, by assumption, by assumption⟩
  case rest =>
    obtain ⟨rfl, HL0, HB0⟩ := hcut
    generalize wc = w0 at *
    clear HL2 hB2
    have c00 := HL0.c0
    have c10 := HL0.c1
    go_upto_region 28 with ((go_at_call 17; refine (letter_any _ _).mono ?_; rintro e w' ⟨rfl, rfl⟩))
    go_cut [132] (fun v wx => v = .bool (lisB c) ∧ SpL s b p 1 wx ∧ Below b w wx)
    case first =>
      have hw1 : IntKind.i64.wrap ((p : Int) + 1) = ((p + 1 : Nat) : Int) := by rw [IntWalk.i64_in _ (by omega)]; omega
      have q1 : (p : Int) ≤ ((p + 1 : Nat) : Int) := by omega
      have q2 : ((p + 1 : Nat) : Int) ≤ (s.size : Int) := by omega
      have hH : hasL lsL (s.extract p (p + 1)) = lisB c := by rw [lsL_has s p hp, hc]
      have hd0 : Below w0.heap.size w0 w0.drew := below_drewN (Below.refl _ w0) 1
      have SH : ∀ w', Below w0.heap.size w0 w' → (w'.cell? ⟨b, 0, none⟩ = some (.string s) ∧ w'.cell? ⟨b, 1, none⟩ = some (.int .i64 p)) := fun w' hb => ⟨(HL0.below hb).c0, (HL0.below hb).c1⟩
      have S0 := SH w0.drew hd0
      have hal : ∀ o, Below w0.heap.size w0 (w0.alloc o).drew := fun o => below_drewN ((Below.refl _ _).alloc (Nat.le_refl _) o) 1
      have SA := fun o => SH _ (hal o)
      have H18 : ∀ g, Calls Tryz.prog 18 #[.slice (some ⟨w0.heap.size, 0, none⟩) 9 9, .string (s.extract p (p + 1))] (w0.alloc (.cells #[.string ⟨#[123]⟩, .string ⟨#[125]⟩, .string ⟨#[91]⟩, .string ⟨#[93]⟩, .string ⟨#[40]⟩, .string ⟨#[41]⟩, .string ⟨#[44]⟩, .string ⟨#[46]⟩, .string ⟨#[59]⟩] g)).drew fun e w' => e = .returned (.bool (lisB c)) ∧ (w0.alloc (.cells lsC g)).drew = w' := fun g => by
        have := has_any lsL (s.extract p (p + 1)) w0.heap.size 9 9 (w0.alloc (.cells lsC g)).drew rfl (by omega) (fun i hi => by
          have h1 := cell_of_row (w0.alloc (.cells lsC g)) w0.heap.size i lsC g (0, 0) (heap_alloc_new w0 _)
          show (w0.alloc (.cells lsC g)).cell? _ = _
          rw [h1]
          exact lsC_at i hi)
        rw [hH] at this
        exact this
      go_region_held_law (fun w' => w'.cell? ⟨b, 0, none⟩ = some (.string s) ∧ w'.cell? ⟨b, 1, none⟩ = some (.int .i64 p)) (first | exact S0 | exact SA _) (first | (go_simp; go_at_call 18; refine (H18 _).mono ?_; rintro e w2 ⟨rfl, rfl⟩))
      all_goals (
        go_wp2_with fail
        go_meet
        exact ⟨rfl, HL0.below (hal _), HB0.trans ((hal _).mono (Nat.le_of_lt HL0.lt))⟩)
    case rest =>
      obtain ⟨rfl, HL3, HB3⟩ := hcut
      generalize wc = w3 at *
      have c13 := HL3.c1
      have hw1 : IntKind.i64.wrap ((p : Int) + 1) = ((p + 1 : Nat) : Int) := by rw [IntWalk.i64_in _ (by omega)]; omega
      cases hli : lisB c with
      | true =>
        rw [if_pos hli] at hr
        go_wp2_with fail
        refine (put_any s b p 1 5 (p + 1) _ HL3 (by omega) (by omega) hs).mono ?_
        rintro ev w9 ⟨⟨v, rfl⟩, hL9, hb9⟩
        go_wp2_with fail
        go_end0
        exact bk_res hL9 (by rw [hr]) (fun _ => by rw [hr]) (HB3.trans hb9)
      | false =>
        rw [if_neg (by rw [hli]; decide)] at hr
        have Hop := fun w => op_any c w
        cases hop : opB c with
        | true =>
          rw [if_pos hop] at hr
          rw [hop] at Hop
          have hop' : opB (gb s p) = true := by rw [hc]; exact hop
          clear hop
          go_wp2_with (go_at_call 21; refine (Hop _).mono ?_; rintro e w4 ⟨rfl, hb4⟩)
          have HL4 := HL3.below hb4
          have HB4 : Below b w w4 := HB3.trans (hb4.mono (Nat.le_of_lt HL3.lt))
          refine (sign_any s b p _ HL4 hp hop' hs).mono ?_
          rintro ev w9 ⟨⟨v, rfl⟩, hL9, hb9⟩
          go_wp2_with fail
          go_end0
          exact bk_res hL9 (by rw [hr]) (fun _ => by rw [hr]) (HB4.trans hb9)
        | false =>
          rw [if_neg (by rw [hop]; decide)] at hr
          rw [hop] at Hop
          clear hop
          by_cases h128 : c < 128
          · rw [if_pos h128] at hr
            have t128 : (c : Int) < 128 := by omega
            go_wp2_with (go_at_call 21; refine (Hop _).mono ?_; rintro e w4 ⟨rfl, hb4⟩)
            have HL4 := HL3.below hb4
            have HB4 : Below b w w4 := HB3.trans (hb4.mono (Nat.le_of_lt HL3.lt))
            refine (stop_any s b p 1 2 _ HL4).mono ?_
            rintro ev w9 ⟨⟨v, rfl⟩, hL9, hb9⟩
            go_wp2_with fail
            go_end0
            exact bk_wrong hL9 (by rw [hr]) (HB4.trans hb9)
          · rw [if_neg h128] at hr
            have t128 : decide ((c : Int) < 128) = false := by simp; omega
            go_wp2_with (go_at_call 21; refine (Hop _).mono ?_; rintro e w4 ⟨rfl, hb4⟩)
            have HL4 := HL3.below hb4
            have HB4 : Below b w w4 := HB3.trans (hb4.mono (Nat.le_of_lt HL3.lt))
            refine (stop_any s b p 1 0 _ HL4).mono ?_
            rintro ev w9 ⟨⟨v, rfl⟩, hL9, hb9⟩
            go_wp2_with fail
            go_end0
            exact bk_open hL9 (HB4.trans hb9)

theorem one_any (s : ByteArray) (b p : Nat) (w : World) (h : SpL s b p 1 w) (hp : p < s.size) (hs : s.size ≤ 2000) :
    Calls Tryz.prog 7 #[.pointer (some ⟨b, 0, none⟩)] w fun e w' => BkPost s b (sone s p) w e w' := by
  obtain ⟨c, hc⟩ : ∃ c, gb s p = c := ⟨_, rfl⟩
  have hr : sone s p = if wsB c = true then (1, p + 1)
      else if c = 35 ∨ begB s p slsl = true then (1, scan s nolB p)
      else if begB s p slst = true then optS p ((starE s (p + 2)).map (· + 2))
      else if begB s p bar3 = true then blkS s p
      else if begB s p atdq = true then optS p (verbE s 34 (p + 2))
      else if begB s p atsq = true then optS p (verbE s 39 (p + 2))
      else if c = 34 then quoS s p (quoN s 34 (s.size + 1) (p + 1))
      else if c = 39 then quoS s p (quoN s 39 (s.size + 1) (p + 1))
      else if digB c = true then optO p (numS s p)
      else if letB c = true then (1, scan s idB p)
      else if lisB c = true then (1, p + 1)
      else if opB c = true then sgS s p
      else if c < 128 then (2, p) else (0, p) := by unfold sone; rw [hc]
  generalize sone s p = r at hr ⊢
  cases hw : wsB c with
  | true =>
    rw [if_pos hw] at hr
    have h4 : c = 32 ∨ c = 9 ∨ c = 10 ∨ c = 13 := by unfold wsB at hw; simp at hw; omega
    rcases h4 with h4 | h4 | h4 | h4
    · exact one_w32 s b p c r w h hp hs hc h4 hr
    · exact one_w9 s b p c r w h hp hs hc h4 hr
    · exact one_w10 s b p c r w h hp hs hc h4 hr
    · exact one_w13 s b p c r w h hp hs hc h4 hr
  | false =>
    rw [if_neg (by rw [hw]; decide)] at hr
    by_cases h35 : c = 35
    · rw [if_pos (.inl h35)] at hr
      exact one_l35 s b p c r w h hp hs hc h35 hr
    cases hb0 : begB s p slsl with
    | true =>
      rw [if_pos (.inr hb0)] at hr
      exact one_lsl s b p c r w h hp hs hc hw h35 hb0 hr
    | false =>
    rw [if_neg (by rw [hb0]; simp [h35])] at hr
    cases hb1 : begB s p slst with
    | true =>
      rw [if_pos hb1] at hr
      exact one_cm s b p c r w h hp hs hc hw h35 hb0 hb1 hr
    | false =>
    rw [if_neg (by rw [hb1]; decide)] at hr
    cases hb2 : begB s p bar3 with
    | true =>
      rw [if_pos hb2] at hr
      exact one_bk s b p c r w h hp hs hc hw h35 hb0 hb1 hb2 hr
    | false =>
    rw [if_neg (by rw [hb2]; decide)] at hr
    cases hb3 : begB s p atdq with
    | true =>
      rw [if_pos hb3] at hr
      exact one_vd s b p c r w h hp hs hc hw h35 hb0 hb1 hb2 hb3 hr
    | false =>
    rw [if_neg (by rw [hb3]; decide)] at hr
    cases hb4 : begB s p atsq with
    | true =>
      rw [if_pos hb4] at hr
      exact one_vs s b p c r w h hp hs hc hw h35 hb0 hb1 hb2 hb3 hb4 hr
    | false =>
    rw [if_neg (by rw [hb4]; decide)] at hr
    by_cases h34 : c = 34
    · rw [if_pos h34] at hr
      exact one_qd s b p c r w h hp hs hc hw h35 hb0 hb1 hb2 hb3 hb4 h34 hr
    rw [if_neg h34] at hr
    by_cases h39 : c = 39
    · rw [if_pos h39] at hr
      exact one_qs s b p c r w h hp hs hc hw h35 hb0 hb1 hb2 hb3 hb4 h39 hr
    rw [if_neg h39] at hr
    cases hd : nuB (c : Int) with
    | true =>
      rw [if_pos (show digB c = true from hd)] at hr
      exact one_nu s b p c r w h hp hs hc hw h35 hb0 hb1 hb2 hb3 hb4 h34 h39 hd hr
    | false =>
    rw [if_neg (show ¬ digB c = true by unfold digB; rw [hd]; decide)] at hr
    cases hl : letB c with
    | true =>
      rw [if_pos hl] at hr
      exact one_id s b p c r w h hp hs hc hw h35 hb0 hb1 hb2 hb3 hb4 h34 h39 hd hl hr
    | false =>
    rw [if_neg (by rw [hl]; decide)] at hr
    exact one_re s b p c r w h hp hs hc hw h35 hb0 hb1 hb2 hb3 hb4 h34 h39 hd hl hr
end Go.Proofs.YtiicdalodfjgaaaGreatFmt
