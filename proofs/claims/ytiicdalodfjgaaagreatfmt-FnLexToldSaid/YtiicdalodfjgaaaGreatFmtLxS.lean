/- The parser's lexer: symbols: comments between two signs. -/
import Derived.Test.YtiicdalodfjgaaaGreatFmtLb
import Derived.Test.YtiicdalodfjgaaaGreatFmtLxQ
namespace Go.Proofs.YtiicdalodfjgaaaGreatFmt
open Go.RowKit Go.Extern.Stop Go.Stop Go.Extern
variable {F : Interp} {s : ByteArray} {b p ts c : Nat} {w : World}

abbrev locC (l k : Int) : Array Value := #[.int .i64 l, .int .i64 k]
theorem loc_keep {w w' : World} {g : Nat} {cs : Array Value} {t : TypeId} (h : w.heap[g]? = some (.cells cs t (0, 0))) (hb : Below w.heap.size w w') : w'.heap[g]? = some (.cells cs t (0, 0)) := (hb.block g (blk_lt h)).trans h
theorem loc_only {w w' : World} {g : Nat} {cs : Array Value} {t : TypeId} (h : w.heap[g]? = some (.cells cs t (0, 0))) (hg : w.grownBy w' (some b)) (hne : b < g) : w'.heap[g]? = some (.cells cs t (0, 0)) := (hg.block g (blk_lt h) (by simp; omega)).trans h
set_option maxRecDepth 100000 in
set_option maxHeartbeats 6400000 in
theorem symB (h : LxL F s b p p c w) (hs : s.size ≤ 2000) (_hbig : 2 ≤ w.heap.size) (hc : c ≤ 90000) (hp : p < s.size) (h47 : gb s p = 47) (h42 : gb s (p + 1) = 42) :
    Calls Tryz.prog 39 #[.pointer (some ⟨b, 0, none⟩)] w fun e w' => RdPost F s b (c + 2) ((starE s (p + 2)).map (fun k => scan s wsB (k + 2))) w e w' := by
  have lb := h.lt
  obtain ⟨fr, c9⟩ := h.c9
  have hp1 : p + 1 < s.size := by
    by_cases hlt : p + 1 < s.size
    · exact hlt
    · rw [gb_out s (p + 1) hlt] at h42; omega
  have HP : Hid (pk s p = 47) := Lib.hid ((pk_eq s p 47 (by omega)).2 ⟨hp, h47⟩)
  have HP2 : Hid (pk s (p + 1) = 42) := Lib.hid ((pk_eq s (p + 1) 42 (by omega)).2 ⟨hp1, h42⟩)
  have HN : Hid (nx s p = p + 1) := Lib.hid (nx_low s p hp (by omega))
  have HN2 : Hid (nx s (p + 1) = p + 2) := Lib.hid (nx_low s (p + 1) hp1 (by omega))
  have HSL : Sl (s.extract p s.size) := ⟨by rw [ext_size s p s.size (Nat.le_refl _)]; omega, by rw [gb_ext s p s.size 0 (by omega) (Nat.le_refl _)]; exact h47⟩
  have HH := Lib.hid h47
  clear h47 h42
  go_enter Tryz.func39, Tryz.ntmps39
  go_upto_region 11 with (first | (go_at_call 27; refine (next_any h hs).mono ?_; intro e w1 hnx; unfold NxPost at hnx; obtain ⟨rfl, hL1, hb1, hg1⟩ := hnx; rw [HN.out] at hL1; rw [HP.out]; have hB1 := LB.to (LB.refl h) hL1 hb1; have hG1 := hg1) | (go_at_call 26; refine (peek_lx hB1.lx).mono ?_; rintro e w2 ⟨rfl, hbp⟩; rw [HP2.out]; have hB2 := hB1.on hbp; have hG2 := only_trans hG1 (only_below hbp)))
  go_upto_region 12 with (first | (go_at_call 26; refine (peek_lx hB2.lx).mono ?_; rintro e w3 ⟨rfl, hbq⟩; rw [HP2.out]; have hB3 := hB2.on hbq; have hG3 := only_trans hG2 (only_below hbq)))
  have hd : Below w3.heap.size w3 w3.drew := below_drewN (Below.refl _ w3) 1
  have hdn : ∀ n, Below w3.heap.size w3 (w3.drewN n) := fun n => below_drewN (Below.refl _ w3) n
  have hcl : ∀ n, (w3.drewN n).cell? ⟨b, 10, none⟩ = some (.int .i64 ((p + 1 : Nat) : Int)) := fun n => (hB3.on (hdn n)).lx.c10
  obtain ⟨ls, c12⟩ := hB3.lx.c12
  have c10 := hB3.lx.c10
  go_quiet (fail)
  have hB4 := hB3.on (hdn nq)
  have hG4 := only_trans hG3 (only_below (hdn nq))
  generalize w3.drewN nq = w4 at *
  obtain ⟨tl, tc, c7, c8⟩ := hB4.lx.c78
  go_upto_region 14 with (fail)
  obtain ⟨g0, hg0⟩ : ∃ g, w4.heap.size = g := ⟨_, rfl⟩
  have hloc : (w4.alloc (.cells (locC tl tc) 56)).heap[g0]? = some (.cells (locC tl tc) 56 (0, 0)) := by rw [← hg0]; exact heap_alloc_new w4 _
  have hbg : b < g0 := by have := hB4.lx.lt; omega
  have hB5 := hB4.alo (.cells (locC tl tc) 56)
  rw [hg0]
  have HG0 := Lib.hid hg0
  clear hg0 hG1 hG2 hG3 hG4 hd hdn hcl c10 c12 c7 c8 c9
  generalize w4.alloc (.cells (locC tl tc) 56) = w5 at *
  go_upto_region 15 with (go_at_call 27; refine (next_any hB5.lx hs).mono ?_; intro e w6 hnx; unfold NxPost at hnx; obtain ⟨rfl, hL6, hb6, hg6⟩ := hnx; rw [HN2.out] at hL6; have hB6 := hB5.to hL6 hb6; have hloc6 := loc_only hloc hg6 hbg)
  go_wp2_with (go_at_call 27; refine (next_any hB6.lx hs).mono ?_; intro e w7 hnx; unfold NxPost at hnx; obtain ⟨rfl, hL7, hb7, hg7⟩ := hnx; have hB7 := hB6.to hL7 hb7; have hloc7 := loc_only hloc6 hg7 hbg)
  go_loopg [11] (s.size + 1) (fun k r wr => ∃ j : Nat, r = .int .i32 (pk s j) ∧ p + 2 ≤ j ∧ j ≤ s.size ∧ s.size - j < k ∧ Hid (starE s j = starE s (p + 2)) ∧ LB F s b (nx s j) p c w wr ∧ wr.heap[g0]? = some (.cells (locC tl tc) 56 (0, 0)))
  case atStart => exact ⟨p + 2, rfl, Nat.le_refl _, by omega, by omega, Lib.hid rfl, hB7, hloc7⟩
  case round =>
    clear hB1 hB2 hB3 hB4 hB5 hB6 hB7 hloc hloc6 hloc7 hL1 hb1 hg1 hbp hbq hL6 hb6 hg6 hL7 hb7 hg7 HG0
    obtain ⟨j, rfl, hpj, hj, hk, HS, hB, hloc⟩ := hrel
    obtain ⟨k, rfl⟩ : ∃ m, gk = m + 1 := ⟨gk - 1, by omega⟩
    by_cases hlt : j < s.size
    · have hn := nx_lt s j hlt
      by_cases hbeg : begB s j ⟨#[42, 47]⟩ = true
      · obtain ⟨hj1, hj42, hj47⟩ := (beg2 s j 42 47).1 hbeg
        have HE : Hid (starE s (p + 2) = some j) := Lib.hid (by rw [← HS.out, starE_step s j hlt, if_pos hbeg])
        have HPj : Hid (pk s j = 42) := Lib.hid ((pk_eq s j 42 (by omega)).2 ⟨hlt, hj42⟩)
        have HPj1 : Hid (pk s (j + 1) = 47) := Lib.hid ((pk_eq s (j + 1) 47 (by omega)).2 ⟨hj1, hj47⟩)
        have hnj := nx_low s j hlt (by rw [hj42]; decide)
        have HNj1 : Hid (nx s (j + 1) = j + 2) := Lib.hid (nx_low s (j + 1) hj1 (by rw [hj47]; decide))
        rw [hnj] at hB hn
        rw [HPj.out]
        clear hbeg hj42 hj47 hnj
        go_upto_region 21 with (first | (go_at_call 26; refine (peek_lx hB.lx).mono ?_; rintro e w8 ⟨rfl, hb8⟩; rw [HPj1.out]; have hB8 := hB.on hb8) | (go_at_call 27; refine (next_any hB8.lx hs).mono ?_; intro e w9 hnx; unfold NxPost at hnx; obtain ⟨rfl, hL9, hb9, hg9⟩ := hnx; rw [HNj1.out] at hL9; have hB9 := hB8.to hL9 hb9))
        have hdn : ∀ n, Below w9.heap.size w9 (w9.drewN n) := fun n => below_drewN (Below.refl _ w9) n
        have c2 := hB9.lx.c2
        have c6 := hB9.lx.c6
        have c10 := hB9.lx.c10
        have q0 : (0 : Int) ≤ (p : Int) := by omega
        have q1 : (p : Int) ≤ ((j + 2 : Nat) : Int) := by omega
        have q2 : ((j + 2 : Nat) : Int) ≤ (s.size : Int) := by omega
        go_quiet (fail)
        have hBa := hB9.on (hdn nq)
        generalize w9.drewN nq = wa at *
        clear c2 c6 c10 q0 q1 q2 hdn hL9 hb9 hg9 hb8 hB8 hB9 hB
        go_wp2_with (first | (go_at_call 25; refine (white_any hBa.lx hs).mono ?_; intro e wb hws; unfold WsPost at hws; obtain ⟨⟨nl, ind, rfl, hnl⟩, hLb, hbb, hgb⟩ := hws; have hBb := hBa.to hLb hbb) | (go_at_call 61; refine (contains_any _ _).mono ?_; rintro e wc ⟨⟨vb, rfl⟩, hbc⟩; have hBc := hBb.on hbc; cases vb))
        · refine (addFodder_any _ _ _ _ _ _ (hBc.alo _).lx (by unfold okF; omega) (by omega)).mono ?_
          rintro e wd ⟨⟨vd, rfl⟩, hLd, hbd⟩
          have hBd := (hBc.alo _).to hLd hbd
          go_wp2_with (go_at_call 29; refine (addFodder_any _ _ _ _ _ _ (hBd.alo _).lx (by unfold okF; omega) (by omega)).mono ?_; rintro e we ⟨⟨ve, rfl⟩, hLe, hbe⟩; have hBe := (hBd.alo _).to hLe hbe)
          · go_ret
            exact rd_some (by rw [HE.out]; rfl) hBe
          · go_ret
            exact rd_some (by rw [HE.out]; rfl) (hBd.mor (by omega))
        · have hcs := ext_size s p (j + 2) (by omega)
          refine (split_any _ _ _ (by rw [hcs]; omega) ⟨by rw [hcs]; omega, by rw [gb_ext s p (j + 2) 0 (by omega) (by omega)]; exact HH.out⟩).mono ?_
          intro e wd hls
          unfold LsPost at hls
          obtain ⟨⟨v, n, xs, rfl, hown, hn0, hn1, ⟨t0, hx0, hsl0⟩, hall⟩, hbd⟩ := hls
          have hBd := hBc.on hbd
          obtain ⟨hxl, hform⟩ := hown
          rcases hform with ⟨hv, hz⟩ | ⟨g, cap, cur, rfl, hbg2, hg, hcap, hcm, hcs2, htk⟩
          · omega
          have hcell : ∀ i, i < n → ∃ t : ByteArray, wd.cell? ⟨g, i, none⟩ = some (.string t) := fun i hi => by
            obtain ⟨t, ht⟩ := hall i hi
            refine ⟨t, ?_⟩
            rw [blk_cell hg]
            rw [← htk, List.getElem?_take, if_pos (by omega)] at ht
            simpa using ht
          have hc0 : wd.cell? ⟨g, 0, none⟩ = some (.string t0) := by
            rw [blk_cell hg]
            rw [← htk, List.getElem?_take, if_pos (by omega)] at hx0
            simpa using hx0
          have HC := Lib.hid hcell
          have HC0 := Lib.hid hc0
          obtain ⟨hs0, hs47⟩ := hsl0
          have hgt : ∀ h : 0 < t0.size, (t0[0]'h).toNat = 47 := fun h => by rw [← gb_in t0 0 h]; exact hs47
          have HGT := Lib.hid hgt
          have hs0' : (0 : Int) < (t0.size : Int) := by omega
          have hn0' : (0 : Int) < (n : Int) := by omega
          clear hcs hall hx0 hxl hg hcs2 htk hcell hs47 hbg2
          go_wp2_with fail
          clear hgt hs0' hn0' hc0
          go_loop [16, 153] (fun va i => ∃ (k : Nat) (vb : Bool), va = .bool vb ∧ i = .int .i64 k ∧ k ≤ n ∧ Hid (0 < k → vb = false)) (fun _ i => n - (intOf i).toNat)
          case atStart => exact ⟨0, true, rfl, rfl, Nat.zero_le _, Lib.hid (fun h => absurd h (by omega))⟩
          case round =>
            obtain ⟨k, vb, rfl, rfl, hk, HV⟩ := hrel
            by_cases hlt : k < n
            · by_cases hk0 : k = 0
              · subst hk0
                have hc0 := HC0.out
                have hgt := HGT.out
                have u1 : (0 : Int) < (t0.size : Int) := by omega
                have u2 : ((t0.size : Int) == 0) = false := beq_eq_false_iff_ne.2 (by omega)
                have u3 : (0 : Int) < (n : Int) := by omega
                go_wp2_with fail
                go_round
                case rel => exact ⟨1, false, rfl, rfl, by omega, Lib.hid (fun _ => rfl)⟩
                case measure => (simp [intOf]; try omega)
              · obtain rfl := HV.out (by omega)
                obtain ⟨t, ht⟩ := HC.out k hlt
                have u3 : (k : Int) < (n : Int) := by omega
                have u4 : (0 : Int) ≤ (k : Int) := by omega
                by_cases hz : t.size = 0
                · have u2 : ((t.size : Int) == 0) = true := by rw [hz]; rfl
                  clear hz
                  go_wp2_with fail
                  go_round
                  case rel => exact ⟨k + 1, false, rfl, by go_num, by omega, Lib.hid (fun _ => rfl)⟩
                  case measure => (simp [intOf]; try omega)
                · have u1 : (0 : Int) < (t.size : Int) := by omega
                  have u1' : 0 < t.size := by omega
                  have u2 : ((t.size : Int) == 0) = false := beq_eq_false_iff_ne.2 (by omega)
                  have hgt : ∀ h : 0 < t.size, (t[0]'h).toNat = gb t 0 := fun h => (gb_in t 0 h).symm
                  obtain ⟨x, hx⟩ : ∃ x, gb t 0 = x := ⟨_, rfl⟩
                  rw [hx] at hgt
                  clear hx hz
                  go_wp2_with fail
                  all_goals (
                    go_round
                    case rel => exact ⟨k + 1, false, rfl, by go_num, by omega, Lib.hid (fun _ => rfl)⟩
                    case measure => (simp [intOf]; try omega))
            · have u3 : ¬ (k : Int) < (n : Int) := by omega
              obtain rfl := HV.out (by omega)
              go_wp2_with (go_at_call 63; refine (addSafe_any _ _ _ _ _ hBd.lx (by omega) (by omega)).mono ?_; rintro e we ⟨⟨ve, rfl⟩, hLe, hbe⟩; have hBe := hBd.to hLe hbe)
              all_goals (
                go_ret
                exact rd_some (by rw [HE.out]; rfl) hBe)
      · have HNX : Hid (starE s (nx s j) = starE s (p + 2)) := Lib.hid (by rw [← HS.out]; exact (starE_nx s j hlt (by simpa using hbeg)).symm)
        by_cases h42 : gb s j = 42
        · have HPj : Hid (pk s j = 42) := Lib.hid ((pk_eq s j 42 (by omega)).2 ⟨hlt, h42⟩)
          have hnj := nx_low s j hlt (by rw [h42]; decide)
          have hne : (pk s (nx s j) != 47) = true := by
            have : pk s (nx s j) ≠ 47 := fun e => hbeg (by
              rw [hnj] at e
              have h2 := (pk_eq s (j + 1) 47 (by omega)).1 e
              exact (beg2 s j 42 47).2 ⟨h2.1, h42, h2.2⟩)
            simpa using this
          rw [HPj.out]
          obtain ⟨j1, hj1⟩ : ∃ x, nx s j = x := ⟨_, rfl⟩
          rw [hj1] at hB hn hne HNX
          clear hbeg h42 hnj hj1
          go_wp2_with (first | (go_at_call 26; refine (peek_lx hB.lx).mono ?_; rintro e w8 ⟨rfl, hb8⟩; have hB8 := hB.on hb8; have hloc8 := loc_keep hloc hb8) | (go_at_call 27; refine (next_any hB8.lx hs).mono ?_; intro e w9 hnx; unfold NxPost at hnx; obtain ⟨rfl, hL9, hb9, hg9⟩ := hnx; have hB9 := hB8.to hL9 hb9; have hloc9 := loc_only hloc8 hg9 hbg))
          go_roundg k
          case measure => omega
          case rel => exact ⟨j1, rfl, by omega, by omega, by omega, HNX, hB9, hloc9⟩
        · have hne : (pk s j != 42) = true := by
            have : pk s j ≠ 42 := fun e => h42 ((pk_eq s j 42 (by omega)).1 e).2
            simpa using this
          have hne1 : (pk s j == -1) = false := by
            have : pk s j ≠ -1 := fun e => by unfold pk at e; rw [if_pos hlt] at e; omega
            simpa using this
          obtain ⟨j1, hj1⟩ : ∃ x, nx s j = x := ⟨_, rfl⟩
          rw [hj1] at hB hn HNX
          obtain ⟨r, hr⟩ : ∃ x, pk s j = x := ⟨_, rfl⟩
          rw [hr] at hne hne1
          rw [hr]
          clear hbeg h42 hj1 hr
          go_wp2_with (first | (go_at_call 27; refine (next_any hB.lx hs).mono ?_; intro e w9 hnx; unfold NxPost at hnx; obtain ⟨rfl, hL9, hb9, hg9⟩ := hnx; have hB9 := hB.to hL9 hb9; have hloc9 := loc_only hloc hg9 hbg))
          go_roundg k
          case measure => omega
          case rel => exact ⟨j1, rfl, by omega, by omega, by omega, HNX, hB9, hloc9⟩
    · have HE : Hid (starE s (p + 2) = none) := Lib.hid (by rw [← HS.out]; exact starE_end s j hlt)
      rw [pk_end s j hlt]
      have k0 := blk_cell hloc 0
      have k1 := blk_cell hloc 1
      simp at k0 k1
      go_wp2_with (go_at_call 33; refine (err_any _ _ _ hB.lx).mono ?_; rintro e w8 ⟨⟨v8, rfl⟩, hb8⟩; have hB8 := hB.on hb8)
      go_ret
      exact rd_none (by rw [HE.out]; rfl) hB8.be
end Go.Proofs.YtiicdalodfjgaaaGreatFmt
