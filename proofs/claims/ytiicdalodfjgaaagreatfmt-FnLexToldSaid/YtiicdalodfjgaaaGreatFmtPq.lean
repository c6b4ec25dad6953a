/- The parser's lexer: plain laws on white space in common, for the blocks of text. -/
import Derived.Test.YtiicdalodfjgaaaGreatFmtLb
namespace Go.Proofs.YtiicdalodfjgaaaGreatFmt
open Go.RowKit

theorem cw_yes (x y : ByteArray) (hb : ∀ m, m < x.size → blaB (gb x m) = true) : ∀ f i, x.size - i < f → i ≤ x.size → (∀ m, i ≤ m → m < x.size → m < y.size ∧ gb x m = gb y m) → cwN x y f i = x.size := by
  intro f
  induction f with
  | zero => intro i h; omega
  | succ f ih =>
    intro i hf hi hm
    rw [cwN_step]
    by_cases h : i < x.size
    · rw [if_pos h, if_pos (hb i h), if_pos (hm i (Nat.le_refl _) h).1, if_pos (hm i (Nat.le_refl _) h).2]
      exact ih (i + 1) (by omega) (by omega) (fun m h1 h2 => hm m (by omega) h2)
    · rw [if_neg h]; omega
theorem cw_no (x y : ByteArray) (hb : ∀ m, m < x.size → blaB (gb x m) = true) : ∀ f i m, x.size - i < f → i ≤ m → m < x.size → ¬ (m < y.size ∧ gb x m = gb y m) → cwN x y f i = 0 := by
  intro f
  induction f with
  | zero => intro i m h; omega
  | succ f ih =>
    intro i m hf hi hm hn
    rw [cwN_step, if_pos (show i < x.size by omega), if_pos (hb i (by omega))]
    by_cases h1 : i < y.size
    · rw [if_pos h1]
      by_cases h2 : gb x i = gb y i
      · rw [if_pos h2]
        by_cases h3 : i = m
        · subst h3; exact absurd ⟨h1, h2⟩ hn
        · exact ih (i + 1) m (by omega) (by omega) hm hn
      · rw [if_neg h2]
    · rw [if_neg h1]
theorem cw_ind (s ind : ByteArray) (k : Nat) (hk : k ≤ s.size) (hb : ∀ m, m < ind.size → blaB (gb ind m) = true) :
    (begB s k ind = true → cwN ind (s.extract k s.size) (ind.size + 1) 0 = ind.size) ∧ (begB s k ind = false → cwN ind (s.extract k s.size) (ind.size + 1) 0 = 0) := by
  have hsz : (s.extract k s.size).size = s.size - k := ext_size s k s.size (Nat.le_refl _)
  have hg : ∀ m, k + m < s.size → gb (s.extract k s.size) m = gb s (k + m) := fun m hm => gb_ext s k s.size m (by omega) (Nat.le_refl _)
  constructor
  · intro h
    obtain ⟨h1, h2⟩ := (beg_iff s k ind).1 h
    exact cw_yes _ _ hb _ 0 (by omega) (by omega) (fun m _ hm => ⟨by omega, by rw [hg m (by omega)]; exact (h2 m hm).symm⟩)
  · intro h
    have hnot : ¬ ∀ m, m < ind.size → m < (s.extract k s.size).size ∧ gb ind m = gb (s.extract k s.size) m := by
      intro hall
      have : begB s k ind = true := (beg_iff s k ind).2 ⟨by
        by_cases h0 : ind.size = 0
        · omega
        · have := (hall (ind.size - 1) (by omega)).1; omega, fun m hm => by
        have := hall m hm
        rw [hg m (by omega)] at this
        exact this.2.symm⟩
      rw [h] at this
      cases this
    obtain ⟨m, hm⟩ := Classical.not_forall.1 hnot
    obtain ⟨h1, h2⟩ := Classical.not_imp.1 hm
    exact cw_no _ _ hb _ 0 m (by omega) (by omega) h1 h2
theorem cw_self' (s : ByteArray) (a : Nat) : ∀ f i, (s.extract a s.size).size - i < f → a + i ≤ s.size → a + cwN (s.extract a s.size) (s.extract a s.size) f i = scan s blaB (a + i) := by
  have hsz : (s.extract a s.size).size = s.size - a := ext_size s a s.size (Nat.le_refl _)
  intro f
  induction f with
  | zero => intro i h; omega
  | succ f ih =>
    intro i hf hi
    rw [cwN_step]
    by_cases h : i < (s.extract a s.size).size
    · have hg : gb (s.extract a s.size) i = gb s (a + i) := gb_ext s a s.size i (by omega) (Nat.le_refl _)
      rw [if_pos h, hg]
      by_cases hb : blaB (gb s (a + i)) = true
      · rw [if_pos hb, if_pos h, if_pos rfl, ih (i + 1) (by omega) (by omega), scan_step s blaB (a + i) (by omega) hb]
        rfl
      · rw [if_neg hb, scan_stop s blaB (a + i) (fun hh => hb hh.2)]
    · rw [if_neg h, scan_stop s blaB (a + i) (by omega)]
theorem cw_self (s : ByteArray) (a : Nat) (ha : a ≤ s.size) : cwN (s.extract a s.size) (s.extract a s.size) ((s.extract a s.size).size + 1) 0 = scan s blaB a - a := by
  have := cw_self' s a ((s.extract a s.size).size + 1) 0 (by omega) (by omega)
  rw [show a + 0 = a from Nat.add_zero a] at this
  have := scan_bounds s blaB a ha
  omega
/-- the line's indentation is blank. -/
theorem ind_blank (s : ByteArray) (a : Nat) (ha : a ≤ s.size) : ∀ m, m < (s.extract a (scan s blaB a)).size → blaB (gb (s.extract a (scan s blaB a)) m) = true := by
  intro m hm
  have hb := scan_bounds s blaB a ha
  rw [ext_size s a _ hb.2] at hm
  rw [gb_ext s a _ m (by omega) hb.2]
  exact scan_facts s blaB _ a rfl ha (a + m) (by omega) (by omega)
theorem blaB_low (x : Nat) (h : blaB x = true) : x < 128 ∧ x ≠ 10 := by unfold blaB at h; simp at h; omega
theorem ind_low (s ind : ByteArray) (k : Nat) (hb : ∀ m, m < ind.size → blaB (gb ind m) = true) (h : begB s k ind = true) : ∀ m, m < ind.size → k + m < s.size ∧ gb s (k + m) < 128 := by
  intro m hm
  obtain ⟨h1, h2⟩ := (beg_iff s k ind).1 h
  have h3 := (blaB_low _ (hb m hm)).1
  rw [← h2 m hm] at h3
  exact ⟨by omega, h3⟩
/-- the code's lines, a step. -/
theorem blkL_step (s ind : ByteArray) (f k : Nat) : blkL s ind (f + 1) k = if scan s nolB (k + ind.size) < s.size then (if begB s (scan s nlB (scan s nolB (k + ind.size) + 1)) ind = true then blkL s ind f (scan s nlB (scan s nolB (k + ind.size) + 1)) else if begB s (scan s blaB (scan s nlB (scan s nolB (k + ind.size) + 1))) bar3 = true then some (scan s blaB (scan s nlB (scan s nolB (k + ind.size) + 1)) + 3) else none) else none := rfl
set_option maxRecDepth 100000 in
set_option maxHeartbeats 3200000 in
theorem cw_q (x y : ByteArray) (w : World) (hx : x.size ≤ 2000) (_hy : y.size ≤ 2000) : Calls Tryz.prog 66 #[.string x, .string y] w fun e w' => e = .returned (.int .i64 (cwN x y (x.size + 1) 0)) ∧ ∃ n, w' = w.drewN n := by
  obtain ⟨r, hr⟩ : ∃ r, cwN x y (x.size + 1) 0 = r := ⟨_, rfl⟩
  rw [hr]
  go_enter Tryz.func66, Tryz.ntmps66
  go_wp2_with fail
  go_loopw [5] (fun i wr => ∃ (f j : Nat), i = .int .i64 j ∧ j ≤ x.size ∧ x.size - j < f ∧ Hid (cwN x y f j = r) ∧ ∃ n, wr = w.drewN n) (fun i _ => x.size - (intOf i).toNat)
  case atStart => exact ⟨x.size + 1, 0, rfl, Nat.zero_le _, by omega, Lib.hid hr, 0, rfl⟩
  case round =>
    clear hr
    obtain ⟨f, j, rfl, hj, hf, HS, n, rfl⟩ := hrel
    obtain ⟨f, rfl⟩ : ∃ m, f = m + 1 := ⟨f - 1, by omega⟩
    have HST := Lib.hid (cwN_step x y f j)
    by_cases hlt : j < x.size
    · have hgb : ∀ h : j < x.size, (x[j]'h).toNat = gb x j := fun h => (gb_in x j h).symm
      obtain ⟨cx, hcx⟩ : ∃ v, gb x j = v := ⟨_, rfl⟩
      have t0 : (j : Int) < (x.size : Int) := by omega
      rw [hcx] at HST hgb
      by_cases hbl : blaB cx = true
      · have hor : cx = 32 ∨ cx = 9 := by unfold blaB at hbl; simp at hbl; omega
        by_cases hy2 : j < y.size
        · have hgy : ∀ h : j < y.size, (y[j]'h).toNat = gb y j := fun h => (gb_in y j h).symm
          obtain ⟨cy, hcy⟩ : ∃ v, gb y j = v := ⟨_, rfl⟩
          rw [hcy] at HST hgy
          have t2 : decide ((y.size : Int) ≤ (j : Int)) = false := by simp; omega
          have t3 : (j : Int) < (y.size : Int) := by omega
          have t4 : (0 : Int) ≤ (j : Int) := by omega
          by_cases he : cx = cy
          · have HF : Hid (cwN x y f (j + 1) = r) := Lib.hid (by rw [← HS.out, HST.out, if_pos hlt, if_pos hbl, if_pos hy2, if_pos he])
            have te : ((cx : Int) != (cy : Int)) = false := by simp; omega
            clear HS HST hbl
            by_cases h32 : cx = 32
            · have t5 : ((cx : Int) != 32) = false := by simp; omega
              go_wp2_with fail
              go_quiet (fail)
              go_wp2_with fail
              go_roundw
              case rel => exact ⟨f, j + 1, rfl, by omega, by omega, HF, _, rfl⟩
              case measure => simp [intOf]; omega
            · have t5 : ((cx : Int) != 32) = true := by simp; omega
              have t6 : ((cx : Int) != 9) = false := by simp; omega
              go_wp2_with fail
              go_quiet (fail)
              go_wp2_with fail
              go_roundw
              case rel => exact ⟨f, j + 1, rfl, by omega, by omega, HF, _, rfl⟩
              case measure => simp [intOf]; omega
          · have HF : Hid (0 = r) := Lib.hid (by rw [← HS.out, HST.out, if_pos hlt, if_pos hbl, if_pos hy2, if_neg he])
            have te : ((cx : Int) != (cy : Int)) = true := by simp; omega
            clear HS HST hbl
            by_cases h32 : cx = 32
            · have t5 : ((cx : Int) != 32) = false := by simp; omega
              go_wp2_with fail
              go_quiet (fail)
              go_wp2_with fail
              go_ret
              exact ⟨ret_int (by rw [← HF.out]; rfl), _, (by first | rfl | exact World.drewN_drewN _ _ _)⟩
            · have t5 : ((cx : Int) != 32) = true := by simp; omega
              have t6 : ((cx : Int) != 9) = false := by simp; omega
              go_wp2_with fail
              go_quiet (fail)
              go_wp2_with fail
              go_ret
              exact ⟨ret_int (by rw [← HF.out]; rfl), _, (by first | rfl | exact World.drewN_drewN _ _ _)⟩
        · have HF : Hid (0 = r) := Lib.hid (by rw [← HS.out, HST.out, if_pos hlt, if_pos hbl, if_neg hy2])
          have t2 : (y.size : Int) ≤ (j : Int) := by omega
          clear HS HST hbl
          by_cases h32 : cx = 32
          · have t5 : ((cx : Int) != 32) = false := by simp; omega
            go_wp2_with fail
            go_ret
            exact ⟨ret_int (by rw [← HF.out]; rfl), _, (by first | rfl | exact World.drewN_drewN _ _ _)⟩
          · have t5 : ((cx : Int) != 32) = true := by simp; omega
            have t6 : ((cx : Int) != 9) = false := by simp; omega
            go_wp2_with fail
            go_ret
            exact ⟨ret_int (by rw [← HF.out]; rfl), _, (by first | rfl | exact World.drewN_drewN _ _ _)⟩
      · have HF : Hid (j = r) := Lib.hid (by rw [← HS.out, HST.out, if_pos hlt, if_neg hbl])
        have hne : cx ≠ 32 ∧ cx ≠ 9 := by unfold blaB at hbl; simp at hbl; omega
        have t5 : ((cx : Int) != 32) = true := by simp; omega
        have t6 : ((cx : Int) != 9) = true := by simp; omega
        clear HS HST hbl
        go_wp2_with fail
        go_ret
        exact ⟨ret_int (by rw [← HF.out]), _, rfl⟩
    · have HF : Hid (j = r) := Lib.hid (by rw [← HS.out, HST.out, if_neg hlt])
      have t0 : ¬ (j : Int) < (x.size : Int) := by omega
      go_wp2_with fail
      go_ret
      exact ⟨ret_int (by rw [← HF.out]), _, rfl⟩

end Go.Proofs.YtiicdalodfjgaaaGreatFmt
