/- The parser's lexer: errors, acceptN, checkWhitespace. -/
import Derived.Test.YtiicdalodfjgaaaGreatFmtLxD
import Derived.Deep.RegionHeldLaw
import Derived.Deep.DeepCutAuto
namespace Go.Proofs.YtiicdalodfjgaaaGreatFmt
open Go.RowKit Go.Extern.Stop Go.Stop Go.Extern
variable {F : Interp} {s : ByteArray} {b p ts c : Nat} {w : World}

theorem mlr_any (f : ByteArray) (a : Option Addr) (x y z u : Int) (w : World) : Calls Tryz.prog 55 #[.string f, .pointer a, .agg #[.int .i64 x, .int .i64 y], .agg #[.int .i64 z, .int .i64 u]] w fun e w' => e = .returned (.agg #[.pointer a, .string f, .int .i64 x, .int .i64 y, .int .i64 z, .int .i64 u]) ∧ Below w.heap.size w w' := by
  go_enter Tryz.func55, Tryz.ntmps55
  go_wp2_with fail
  go_returns
  exact ⟨rfl, (((Below.refl _ _).alloc (Nat.le_refl _) _).alloc (by simp) _).alloc (by simp; omega) _⟩
theorem mse_any (msg f : ByteArray) (a : Option Addr) (x y z u : Int) (w : World) : Calls Tryz.prog 54 #[.string msg, .agg #[.pointer a, .string f, .int .i64 x, .int .i64 y, .int .i64 z, .int .i64 u]] w fun e w' => (∃ v, e = .returned (.iface 120 v)) ∧ Below w.heap.size w w' := by
  go_enter Tryz.func54, Tryz.ntmps54
  go_wp2_with fail
  go_ret
  exact ⟨⟨_, rfl⟩, (Below.refl _ _).alloc (Nat.le_refl _) _⟩
theorem acceptN_any (n : Nat) (h : LxL F s b p ts c w) (hs : s.size ≤ 2000) (hn : ∀ k, k < n → p + k < s.size ∧ gb s (p + k) < 128) :
    Calls Tryz.prog 65 #[.pointer (some ⟨b, 0, none⟩), .int .i64 n] w fun e w' => (∃ v, e = .returned v) ∧ LxL F s b (p + n) ts c w' ∧ Below b w w' := by
  have hn2 : n ≤ 2000 := by
    by_cases h0 : n = 0
    · omega
    · have := (hn (n - 1) (by omega)).1
      omega
  have hB0 : Below b w w := Below.refl b w
  go_enter Tryz.func65, Tryz.ntmps65
  go_wp2_with fail
  go_loopw [4] (fun i wr => ∃ j : Nat, i = .int .i64 j ∧ j ≤ n ∧ LxL F s b (p + j) ts c wr ∧ Below b w wr) (fun i _ => n - (intOf i).toNat)
  case atStart => exact ⟨0, rfl, Nat.zero_le _, h, hB0⟩
  case round =>
    obtain ⟨j, rfl, hj, HL, hB⟩ := hrel
    by_cases hlt : j < n
    · have t : (j : Int) < (n : Int) := by omega
      have hk := hn j hlt
      have HX := next_any HL hs
      unfold NxPost at HX
      rw [nx_low s (p + j) hk.1 hk.2] at HX
      go_wp2_with (go_at_call 27; refine HX.mono ?_; rintro e w1 ⟨rfl, hL1, hb1, hg1⟩)
      go_roundw
      case rel => exact ⟨j + 1, rfl, by omega, hL1, hB.trans hb1⟩
      case measure => simp [intOf]; omega
    · have t : ¬ (j : Int) < (n : Int) := by omega
      have hjn : j = n := by omega
      subst hjn
      go_wp2_with fail
      go_end0
      exact ⟨⟨_, rfl⟩, HL, hB⟩

/-- the white space that two texts have in common at their heads. -/
def cwN (x y : ByteArray) : Nat → Nat → Nat
  | 0, _ => 0
  | f + 1, i => if i < x.size then (if blaB (gb x i) = true then (if i < y.size then (if gb x i = gb y i then cwN x y f (i + 1) else 0) else 0) else i) else i
theorem cwN_step (x y : ByteArray) (f i : Nat) : cwN x y (f + 1) i = if i < x.size then (if blaB (gb x i) = true then (if i < y.size then (if gb x i = gb y i then cwN x y f (i + 1) else 0) else 0) else i) else i := rfl
set_option maxRecDepth 100000 in
set_option maxHeartbeats 3200000 in
theorem cw_any (x y : ByteArray) (w : World) (hx : x.size ≤ 2000) (_hy : y.size ≤ 2000) : Calls Tryz.prog 66 #[.string x, .string y] w fun e w' => e = .returned (.int .i64 (cwN x y (x.size + 1) 0)) ∧ Below w.heap.size w w' := by
  obtain ⟨r, hr⟩ : ∃ r, cwN x y (x.size + 1) 0 = r := ⟨_, rfl⟩
  rw [hr]
  go_enter Tryz.func66, Tryz.ntmps66
  go_wp2_with fail
  go_loopw [5] (fun i wr => ∃ (f j : Nat), i = .int .i64 j ∧ j ≤ x.size ∧ x.size - j < f ∧ Hid (cwN x y f j = r) ∧ ∃ n, wr = w.drewN n) (fun i _ => x.size - (intOf i).toNat)
  case atStart => exact ⟨x.size + 1, 0, rfl, Nat.zero_le _, by omega, Lib.hid hr, 0, rfl⟩
  case round =>
    clear hr
    obtain ⟨f, j, rfl, hj, hf, HS, n, rfl⟩ := hrel
    obtain ⟨f, rfl⟩ : ∃ m, f = m + 1 := ⟨f - 1, by omega⟩
    have HST := Lib.hid (cwN_step x y f j)
    have hB : Below w.heap.size w (w.drewN n) := below_drewN (Below.refl _ _) n
    by_cases hlt : j < x.size
    · have hgb : ∀ h : j < x.size, (x[j]'h).toNat = gb x j := fun h => (gb_in x j h).symm
      obtain ⟨cx, hcx⟩ : ∃ v, gb x j = v := ⟨_, rfl⟩
      have t0 : (j : Int) < (x.size : Int) := by omega
      rw [hcx] at HST hgb
      by_cases hbl : blaB cx = true
      · have hor : cx = 32 ∨ cx = 9 := by unfold blaB at hbl; simp at hbl; omega
        by_cases hy2 : j < y.size
        · have hgy : ∀ h : j < y.size, (y[j]'h).toNat = gb y j := fun h => (gb_in y j h).symm
          obtain ⟨cy, hcy⟩ : ∃ v, gb y j = v := ⟨_, rfl⟩
          rw [hcy] at HST hgy
          have t2 : decide ((y.size : Int) ≤ (j : Int)) = false := by simp; omega
          have t3 : (j : Int) < (y.size : Int) := by omega
          have t4 : (0 : Int) ≤ (j : Int) := by omega
          by_cases he : cx = cy
          · have HF : Hid (cwN x y f (j + 1) = r) := Lib.hid (by rw [← HS.out, HST.out, if_pos hlt, if_pos hbl, if_pos hy2, if_pos he])
            have te : ((cx : Int) != (cy : Int)) = false := by simp; omega
            clear HS HST hbl
            by_cases h32 : cx = 32
            · have t5 : ((cx : Int) != 32) = false := by simp; omega
              go_wp2_with fail
              go_quiet (fail)
              go_wp2_with fail
              go_roundw
              case rel => exact ⟨f, j + 1, rfl, by omega, by omega, HF, _, rfl⟩
              case measure => simp [intOf]; omega
            · have t5 : ((cx : Int) != 32) = true := by simp; omega
              have t6 : ((cx : Int) != 9) = false := by simp; omega
              go_wp2_with fail
              go_quiet (fail)
              go_wp2_with fail
              go_roundw
              case rel => exact ⟨f, j + 1, rfl, by omega, by omega, HF, _, rfl⟩
              case measure => simp [intOf]; omega
          · have HF : Hid (0 = r) := Lib.hid (by rw [← HS.out, HST.out, if_pos hlt, if_pos hbl, if_pos hy2, if_neg he])
            have te : ((cx : Int) != (cy : Int)) = true := by simp; omega
            clear HS HST hbl
            by_cases h32 : cx = 32
            · have t5 : ((cx : Int) != 32) = false := by simp; omega
              go_wp2_with fail
              go_quiet (fail)
              go_wp2_with fail
              go_ret
              exact ⟨ret_int (by rw [← HF.out]; rfl), below_drewN hB _⟩
            · have t5 : ((cx : Int) != 32) = true := by simp; omega
              have t6 : ((cx : Int) != 9) = false := by simp; omega
              go_wp2_with fail
              go_quiet (fail)
              go_wp2_with fail
              go_ret
              exact ⟨ret_int (by rw [← HF.out]; rfl), below_drewN hB _⟩
        · have HF : Hid (0 = r) := Lib.hid (by rw [← HS.out, HST.out, if_pos hlt, if_pos hbl, if_neg hy2])
          have t2 : (y.size : Int) ≤ (j : Int) := by omega
          clear HS HST hbl
          by_cases h32 : cx = 32
          · have t5 : ((cx : Int) != 32) = false := by simp; omega
            go_wp2_with fail
            go_ret
            exact ⟨ret_int (by rw [← HF.out]; rfl), hB⟩
          · have t5 : ((cx : Int) != 32) = true := by simp; omega
            have t6 : ((cx : Int) != 9) = false := by simp; omega
            go_wp2_with fail
            go_ret
            exact ⟨ret_int (by rw [← HF.out]; rfl), hB⟩
      · have HF : Hid (j = r) := Lib.hid (by rw [← HS.out, HST.out, if_pos hlt, if_neg hbl])
        have hne : cx ≠ 32 ∧ cx ≠ 9 := by unfold blaB at hbl; simp at hbl; omega
        have t5 : ((cx : Int) != 32) = true := by simp; omega
        have t6 : ((cx : Int) != 9) = true := by simp; omega
        clear HS HST hbl
        go_wp2_with fail
        go_ret
        exact ⟨ret_int (by rw [← HF.out]), hB⟩
    · have HF : Hid (j = r) := Lib.hid (by rw [← HS.out, HST.out, if_neg hlt])
      have t0 : ¬ (j : Int) < (x.size : Int) := by omega
      go_wp2_with fail
      go_ret
      exact ⟨ret_int (by rw [← HF.out]), hB⟩

set_option maxRecDepth 100000 in
set_option maxHeartbeats 6400000 in
theorem err_any (msg : ByteArray) (l k : Int) (h : LxL F s b p ts c w) :
    Calls Tryz.prog 33 #[.pointer (some ⟨b, 0, none⟩), .string msg, .agg #[.int .i64 l, .int .i64 k]] w fun e w' => (∃ v, e = .returned (.iface 120 v)) ∧ Below w.heap.size w w' := by
  have lb := h.lt
  go_enter Tryz.func33, Tryz.ntmps33
  go_upto_region 1 with (fail)
  have hB1 : Below w.heap.size w (w.alloc (.cells #[.int .i64 l, .int .i64 k] 56)) := (Below.refl _ _).alloc (Nat.le_refl _) _
  have HL1 := h.below hB1
  obtain ⟨g0, hg0⟩ : ∃ g, w.heap.size = g := ⟨_, rfl⟩
  have hel : (w.alloc (.cells #[.int .i64 l, .int .i64 k] 56)).heap[g0]? = some (.cells #[.int .i64 l, .int .i64 k] 56 (0, 0)) := by rw [← hg0]; exact heap_alloc_new w _
  rw [hg0] at *
  generalize w.alloc (.cells #[.int .i64 l, .int .i64 k] 56) = w0 at *
  obtain ⟨d, m, sa, tv, fv, tl, tc, fr, ln, ls, n1, n2, xs1, xs2, hI⟩ := HL1
  have SH : ∀ w', Below w0.heap.size w0 w' → (w'.cell? ⟨b, 1, none⟩ = some (.string m) ∧ w'.cell? ⟨b, 3, none⟩ = some (.pointer sa) ∧ w'.cell? ⟨g0, 0, none⟩ = some (.int .i64 l) ∧ w'.cell? ⟨g0, 1, none⟩ = some (.int .i64 k)) := fun w' hb => by
    have h1 := blk_cell (hI.below hb).blk 1
    have h3 := blk_cell (hI.below hb).blk 3
    have hel' := (hb.block g0 (blk_lt hel)).trans hel
    have e0 := blk_cell hel' 0
    have e1 := blk_cell hel' 1
    simp [lxC] at h1 h3 e0 e1
    exact ⟨h1, h3, e0, e1⟩
  have S0 := SH w0.drew (below_drewN (Below.refl _ _) 1)
  have hd : Below w0.heap.size w0 w0.drew := below_drewN (Below.refl _ _) 1
  go_region_held_law (fun w' => w'.cell? ⟨b, 1, none⟩ = some (.string m) ∧ w'.cell? ⟨b, 3, none⟩ = some (.pointer sa) ∧ w'.cell? ⟨g0, 0, none⟩ = some (.int .i64 l) ∧ w'.cell? ⟨g0, 1, none⟩ = some (.int .i64 k)) (first | exact S0 | exact S1 | exact S2) (first | (go_simp; go_at_call 55; refine (mlr_any _ _ _ _ _ _ _).mono ?_; rintro e w1 ⟨rfl, hb1⟩; have hB2 := hd.trans hb1; have S1 := SH w1 hB2) | (go_simp; go_at_call 54; refine (mse_any _ _ _ _ _ _ _ _).mono ?_; rintro e w2 ⟨⟨v, rfl⟩, hb2⟩; have hB3 := hB2.trans (hb2.mono hB2.size); have S2 := SH w2 hB3))
  all_goals (
    go_wp2_with fail
    go_ret
    exact ⟨⟨_, rfl⟩, hB1.trans (hB3.mono hB1.size)⟩)
end Go.Proofs.YtiicdalodfjgaaaGreatFmt
