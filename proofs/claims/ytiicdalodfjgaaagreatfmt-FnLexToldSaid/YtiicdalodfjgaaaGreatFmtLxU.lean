/- The parser's lexer: symbols: blocks of text. -/
import Derived.Test.YtiicdalodfjgaaaGreatFmtPq
import Derived.Test.YtiicdalodfjgaaaGreatFmtLxT
import Derived.Test.YtiicdalodfjgaaaGreatFmtLxS
namespace Go.Proofs.YtiicdalodfjgaaaGreatFmt
open Go.RowKit Go.Extern.Stop Go.Stop Go.Extern
variable {F : Interp} {s : ByteArray} {b p ts c : Nat} {w : World}

/-- the lexer beside a buffer and the place where its token began. -/
structure Bx (F : Interp) (s : ByteArray) (b p ts c B g0 : Nat) (tl tc : Int) (acc : List UInt8) (w w' : World) : Prop where
  lb : LB F s b p ts c w w'
  bf : Buf B acc w'
  lo : w'.heap[g0]? = some (.cells (locC tl tc) 56 (0, 0))
section
variable {B g0 : Nat} {tl tc : Int} {acc : List UInt8} {w1 w2 : World}
theorem Bx.on (h : Bx F s b p ts c B g0 tl tc acc w w1) (hb : Below w1.heap.size w1 w2) : Bx F s b p ts c B g0 tl tc acc w w2 := ⟨h.lb.on hb, h.bf.old hb, loc_keep h.lo hb⟩
theorem Bx.dn (h : Bx F s b p ts c B g0 tl tc acc w w1) (n : Nat) : Bx F s b p ts c B g0 tl tc acc w (w1.drewN n) := h.on (below_drewN (Below.refl _ w1) n)
theorem Bx.nx {p' ts' c' : Nat} (h : Bx F s b p ts c B g0 tl tc acc w w1) (hl : LxL F s b p' ts' c' w2) (hb : Below b w1 w2) (hg : w1.grownBy w2 (some b)) (h1 : b < B) (h2 : b < g0) : Bx F s b p' ts' c' B g0 tl tc acc w w2 := ⟨h.lb.to hl hb, h.bf.only hg h1, loc_only h.lo hg h2⟩
theorem Bx.wr {acc' : List UInt8} (h : Bx F s b p ts c B g0 tl tc acc w w1) (hb : Buf B acc' w2) (hbe : Below B w1 w2) (hk : Lib.OthersKept 5 (some B) w1 w2) (h2 : 2 ≤ B) (hbB : b ≤ B) (hg : g0 < B) : Bx F s b p ts c B g0 tl tc acc' w w2 :=
  ⟨⟨h.lb.lx.kept h.bf hbe h2 hk, h.lb.be.trans (hbe.mono hbB)⟩, hb, (hbe.block g0 hg).trans h.lo⟩
end
theorem acceptN_g (n : Nat) (h : LxL F s b p ts c w) (hs : s.size ≤ 2000) (hn : ∀ k, k < n → p + k < s.size ∧ gb s (p + k) < 128) :
    Calls Tryz.prog 65 #[.pointer (some ⟨b, 0, none⟩), .int .i64 n] w fun e w' => (∃ v, e = .returned v) ∧ LxL F s b (p + n) ts c w' ∧ Below b w w' ∧ w.grownBy w' (some b) := by
  have hn2 : n ≤ 2000 := by
    by_cases h0 : n = 0
    · omega
    · have := (hn (n - 1) (by omega)).1
      omega
  have hB0 : Below b w w := Below.refl b w
  have hG0 : w.grownBy w (some b) := only_below (Below.refl _ w)
  go_enter Tryz.func65, Tryz.ntmps65
  go_wp2_with fail
  go_loopw [4] (fun i wr => ∃ j : Nat, i = .int .i64 j ∧ j ≤ n ∧ LxL F s b (p + j) ts c wr ∧ Below b w wr ∧ w.grownBy wr (some b)) (fun i _ => n - (intOf i).toNat)
  case atStart => exact ⟨0, rfl, Nat.zero_le _, h, hB0, hG0⟩
  case round =>
    obtain ⟨j, rfl, hj, HL, hB, hG⟩ := hrel
    by_cases hlt : j < n
    · have t : (j : Int) < (n : Int) := by omega
      have hk := hn j hlt
      have HX := next_any HL hs
      unfold NxPost at HX
      rw [nx_low s (p + j) hk.1 hk.2] at HX
      go_wp2_with (go_at_call 27; refine HX.mono ?_; rintro e w1 ⟨rfl, hL1, hb1, hg1⟩)
      go_roundw
      case rel => exact ⟨j + 1, rfl, by omega, hL1, hB.trans hb1, only_trans hG hg1⟩
      case measure => simp [intOf]; omega
    · have t : ¬ (j : Int) < (n : Int) := by omega
      have hjn : j = n := by omega
      subst hjn
      go_wp2_with fail
      go_end0
      exact ⟨⟨_, rfl⟩, HL, hB, hG⟩

theorem hw_of (r : Nat) (h : hwB r = true) : r = 32 ∨ r = 9 ∨ r = 13 := by unfold hwB at h; simp at h; omega
theorem hwR_pk (s : ByteArray) (p : Nat) : hwR (pk s p) = (decide (p < s.size) && hwB (gb s p)) := by
  by_cases h : p < s.size
  · by_cases hl : gb s p < 128
    · rw [pk_low s p h hl, Bool.eq_iff_iff]
      unfold hwR hwB
      simp [h]
      omega
    · have := pk_high s p h (by omega)
      rw [Bool.eq_iff_iff]
      unfold hwR hwB
      simp [h]
      omega
  · rw [pk_end s p h, Bool.eq_iff_iff]
    simp [hwR, h]
theorem hwR_not (r : Int) (h : hwR r = false) : (r == 32) = false ∧ (r == 9) = false ∧ (r == 13) = false := by
  unfold hwR at h
  simp at h
  exact ⟨beq_eq_false_iff_ne.2 h.1, beq_eq_false_iff_ne.2 h.2.1, beq_eq_false_iff_ne.2 h.2.2⟩
set_option maxRecDepth 100000 in
set_option maxHeartbeats 16000000 in
theorem symE (h : LxL F s b p p c w) (hs : s.size ≤ 2000) (hbig : 2 ≤ w.heap.size) (hc : c ≤ 90000) (hbar : begB s p bar3 = true) :
    Calls Tryz.prog 39 #[.pointer (some ⟨b, 0, none⟩)] w fun e w' => RdPost F s b (c + 2) (blkG s p) w e w' := by
  have lb := h.lt
  obtain ⟨fr, c9⟩ := h.c9
  obtain ⟨hp2, h1, h2, h3⟩ := (beg3 s p 124 124 124).1 hbar
  have HP : Hid (pk s p = 124) := Lib.hid ((pk_eq s p 124 (by omega)).2 ⟨by omega, h1⟩)
  have HN : Hid (nx s p = p + 1) := Lib.hid (nx_low s p (by omega) (by rw [h1]; decide))
  have hbb : begB s (p + 1) ⟨#[124, 124]⟩ = true := (beg2 s (p + 1) 124 124).2 ⟨by omega, h2, h3⟩
  have HK : Hid (∀ k, k < 2 → p + 1 + k < s.size ∧ gb s (p + 1 + k) < 128) := Lib.hid (fun k hk => by
    rcases (show k = 0 ∨ k = 1 by omega) with rfl | rfl
    · exact ⟨by omega, by rw [Nat.add_zero, h2]; decide⟩
    · exact ⟨by omega, by rw [show p + 1 + 1 = p + 2 from rfl, h3]; decide⟩)
  have H64 := fun w => hp_any s (p + 1) ⟨#[124, 124]⟩ (by omega) w
  rw [hbb] at H64
  obtain ⟨T, hT⟩ : ∃ T, blkG s p = T := ⟨_, rfl⟩
  rw [hT]
  have HT := Lib.hid hT
  obtain ⟨a, ha⟩ : ∃ a, (if gb s (p + 3) = 45 then p + 4 else p + 3) = a := ⟨_, rfl⟩
  have hap : p + 3 ≤ a ∧ a ≤ s.size := by
    rw [← ha]
    split
    · rename_i h45
      by_cases h : p + 3 < s.size
      · omega
      · rw [gb_out s (p + 3) h] at h45; omega
    · omega
  have HA := Lib.hid ha
  obtain ⟨j0, hj0⟩ : ∃ j, scan s hwB a = j := ⟨_, rfl⟩
  have hj0b := scan_bounds s hwB a hap.2
  rw [hj0] at hj0b
  have HJ0 := Lib.hid hj0
  have hTj : T = if j0 < s.size ∧ gb s j0 = 10 then blkH s (scan s nlB (j0 + 1)) else none := by
    rw [← hT]
    unfold blkG
    rw [ha, hj0]
  have HTJ := Lib.hid hTj
  clear h1 h2 h3 hbb hbar hT ha hj0 hTj
  go_enter Tryz.func39, Tryz.ntmps39
  go_upto_region 49 with (go_at_call 27; refine (next_any h hs).mono ?_; intro e w1 hnx; unfold NxPost at hnx; obtain ⟨rfl, hL1, hb1, hg1⟩ := hnx; rw [HN.out] at hL1; rw [HP.out]; have hB1 := LB.to (LB.refl h) hL1 hb1)
  have c2 := hB1.lx.c2
  have c10 := hB1.lx.c10
  have q0 : (0 : Int) ≤ ((p + 1 : Nat) : Int) := by omega
  have q1 : ((p + 1 : Nat) : Int) ≤ (s.size : Int) := by omega
  go_quiet ((go_at_call 64; exact Calls.quiet_of_same (H64 _)))
  have hB2 := hB1.dn nq
  generalize w1.drewN nq = w2 at *
  clear c2 c10 q0 q1 H64 c9
  obtain ⟨tl, tc, c7, c8⟩ := hB2.lx.c78
  go_upto_region 51 with (fail)
  obtain ⟨g0, hg0⟩ : ∃ g, w2.heap.size = g := ⟨_, rfl⟩
  have hloc : (w2.alloc (.cells (locC tl tc) 56)).heap[g0]? = some (.cells (locC tl tc) 56 (0, 0)) := by rw [← hg0]; exact heap_alloc_new w2 _
  have hbg : b < g0 := by have := hB2.lx.lt; omega
  have hB3 := hB2.alo (.cells (locC tl tc) 56)
  rw [hg0]
  clear hg0 c7 c8 hB1 hB2 hb1 hg1 hL1
  generalize w2.alloc (.cells (locC tl tc) 56) = w3 at *
  have H65 := acceptN_g 2 hB3.lx hs HK.out
  rw [show ((2 : Nat) : Int) = 2 from rfl] at H65
  go_upto_region 53 with (go_at_call 65; refine H65.mono ?_; rintro e w4 ⟨⟨v4, rfl⟩, hL4, hb4, hg4⟩; have hB4 := hB3.to hL4 hb4; have hloc4 := loc_only hloc hg4 hbg)
  rw [show p + 1 + 2 = p + 3 from rfl] at hB4
  clear H65 hL4 hb4 hg4 hB3 hloc
  go_upto_if 218 with (go_at_call 26; refine (peek_lx hB4.lx).mono ?_; rintro e w5 ⟨rfl, hb5⟩; have hB5 := hB4.on hb5; have hloc5 := loc_keep hloc4 hb5)
  clear hB4 hloc4 hb5
  go_cut [21] from 216 to 220 (fun v wx => (∃ vb, v = .bool vb) ∧ LB F s b a p c w wx ∧ wx.heap[g0]? = some (.cells (locC tl tc) 56 (0, 0)))
  case first => as_aux_lemma =>
    by_cases h45 : gb s (p + 3) = 45
    · have hlt : p + 3 < s.size := by
        by_cases h : p + 3 < s.size
        · exact h
        · rw [gb_out s (p + 3) h] at h45; omega
      have hpk : (pk s (p + 3) == 45) = true := by rw [(pk_eq s (p + 3) 45 (by omega)).2 ⟨hlt, h45⟩]; rfl
      have HNA : Hid (nx s (p + 3) = a) := Lib.hid (by rw [nx_low s (p + 3) hlt (by omega), ← HA.out, if_pos h45])
      clear h45
      go_wp2_with (go_at_call 27; refine (next_any hB5.lx hs).mono ?_; intro e w6 hnx; unfold NxPost at hnx; obtain ⟨rfl, hL6, hb6, hg6⟩ := hnx; rw [HNA.out] at hL6; have hB6 := hB5.to hL6 hb6; have hloc6 := loc_only hloc5 hg6 hbg)
      go_meet
      exact ⟨⟨_, rfl⟩, hB6, hloc6⟩
    · have hpk : (pk s (p + 3) == 45) = false := by
        refine beq_eq_false_iff_ne.2 (fun e => h45 ((pk_eq s (p + 3) 45 (by omega)).1 e).2)
      have HNA : Hid (p + 3 = a) := Lib.hid (by rw [← HA.out, if_neg h45])
      clear h45
      go_wp2_with fail
      go_meet
      rw [HNA.out] at hB5
      exact ⟨⟨_, rfl⟩, hB5, hloc5⟩
  case rest =>
    clear hB5 hloc5
    obtain ⟨⟨vb, rfl⟩, hB6, hloc6⟩ := hcut
    generalize wc = w6 at *
    go_upto_region 57 with (fail)
    obtain ⟨B, hB⟩ : ∃ B, w6.heap.size = B := ⟨_, rfl⟩
    have hf : Buf B [] (w6.alloc (.cells #[.slice none 0 0, .int .i64 0, .int .i8 0] 88)) := by rw [← hB]; exact Lib.fresh_isBuffer 88 5 w6
    have hbB : b < B := by have := hB6.lx.lt; omega
    have hg0B : g0 < B := by have := blk_lt hloc6; omega
    have h2B : 2 ≤ B := by have := hB6.size hbig; omega
    have hX : Bx F s b a p c B g0 tl tc [] w (w6.alloc (.cells #[.slice none 0 0, .int .i64 0, .int .i8 0] 88)) := ⟨hB6.alo _, hf, loc_keep hloc6 (below_alo _)⟩
    rw [hB]
    clear hB hB6 hloc6 hf
    generalize w6.alloc (.cells #[.slice none 0 0, .int .i64 0, .int .i8 0] 88) = w7 at *
    go_upto_block 6 with (go_at_call 27; refine (next_any hX.lb.lx hs).mono ?_; intro e w8 hnx; unfold NxPost at hnx; obtain ⟨rfl, hL8, hb8, hg8⟩ := hnx; have hX8 := hX.nx hL8 hb8 hg8 hbB hbg)
    clear hX hL8 hb8 hg8
    go_cut [4] from 221 to 234 (fun r wx => r = .int .i32 (pk s j0) ∧ Bx F s b (nx s j0) p c B g0 tl tc [] w wx)
    case first => as_aux_lemma =>
      go_wp2_with fail
      go_loopg [4] (s.size + 1) (fun k r wr => ∃ j : Nat, r = .int .i32 (pk s j) ∧ j ≤ s.size ∧ s.size - j < k ∧ Hid (scan s hwB j = j0) ∧ Bx F s b (nx s j) p c B g0 tl tc [] w wr)
      case atStart => exact ⟨a, rfl, hap.2, by omega, HJ0, hX8⟩
      case round =>
        clear hX8
        obtain ⟨j, rfl, hj, hk, HS, hX⟩ := hrel
        obtain ⟨k, rfl⟩ : ∃ m, gk = m + 1 := ⟨gk - 1, by omega⟩
        by_cases hgo : j < s.size ∧ hwB (gb s j) = true
        · obtain ⟨hlt, hhw⟩ := hgo
          have hr := hw_of _ hhw
          have hpk := pk_low s j hlt (by omega)
          have hnj := nx_low s j hlt (by omega)
          have HS1 : Hid (scan s hwB (j + 1) = j0) := Lib.hid (by rw [← HS.out, scan_step s hwB j hlt hhw])
          rw [hnj] at hX
          rw [hpk]
          obtain ⟨y, hy⟩ : ∃ y, gb s j = y := ⟨_, rfl⟩
          rw [hy] at hr
          rw [hy]
          clear hpk hnj hhw hy
          rcases hr with rfl | rfl | rfl
          all_goals (
            go_wp2_with (go_at_call 27; refine (next_any hX.lb.lx hs).mono ?_; intro e w8 hnx; unfold NxPost at hnx; obtain ⟨rfl, hL8, hb8, hg8⟩ := hnx; have hX8 := hX.nx hL8 hb8 hg8 hbB hbg)
            go_roundg k
            case measure => omega
            case rel => exact ⟨j + 1, rfl, by omega, by omega, HS1, hX8⟩)
        · have hn := hwR_pk s j
          have hn' : hwR (pk s j) = false := by
            rw [hn, Bool.eq_false_iff]
            intro hh
            exact hgo (by simpa using hh)
          have HJ : Hid (j = j0) := Lib.hid (by rw [← HS.out, scan_stop s hwB j hgo])
          obtain ⟨z1, z2, z3⟩ := hwR_not _ hn'
          obtain ⟨r, hr⟩ : ∃ x, pk s j = x := ⟨_, rfl⟩
          rw [hr] at z1 z2 z3
          rw [hr]
          have HR := Lib.hid hr
          clear hn hn' hgo hr
          go_wp2_with fail
          go_meet
          rw [← HJ.out, HR.out]
          exact ⟨rfl, hX⟩
    case rest =>
      clear hX8
      obtain ⟨rfl, hX⟩ := hcut
      generalize wc = w8 at *
      by_cases hj10 : j0 < s.size ∧ gb s j0 = 10
      case neg =>
        have HTN : Hid (T = none) := Lib.hid (by rw [HTJ.out, if_neg hj10])
        have hne : (pk s j0 != 10) = true := by
          have : pk s j0 ≠ 10 := fun e => hj10 ((pk_eq s j0 10 (by omega)).1 e)
          simpa using this
        obtain ⟨r, hr⟩ : ∃ x, pk s j0 = x := ⟨_, rfl⟩
        rw [hr] at hne
        rw [hr]
        have k0 := blk_cell hX.lo 0
        have k1 := blk_cell hX.lo 1
        simp at k0 k1
        clear hj10 hr
        go_wp2_with (go_at_call 33; refine (err_any _ _ _ hX.lb.lx).mono ?_; rintro e w9 ⟨⟨v9, rfl⟩, hb9⟩; have hB9 := hX.lb.on hb9)
        go_ret
        exact rd_none HTN.out hB9.be
      obtain ⟨hjlt, hj10⟩ := hj10
      have hpk : pk s j0 = 10 := (pk_eq s j0 10 (by omega)).2 ⟨hjlt, hj10⟩
      have hnj := nx_low s j0 hjlt (by omega)
      rw [hnj] at hX
      rw [hpk]
      obtain ⟨a1, ha1⟩ : ∃ a1, scan s nlB (j0 + 1) = a1 := ⟨_, rfl⟩
      have ha1b := scan_bounds s nlB (j0 + 1) (by omega)
      rw [ha1] at ha1b
      have HTH : Hid (T = blkH s a1) := Lib.hid (by rw [HTJ.out, if_pos ⟨hjlt, hj10⟩, ha1])
      have HA1 := Lib.hid ha1
      clear hpk hnj ha1 hj10
      go_upto_block 8 with (go_at_call 26; refine (peek_lx hX.lb.lx).mono ?_; rintro e w9 ⟨rfl, hb9⟩; have hX9 := hX.on hb9)
      clear hX hb9
      go_cut [4] from 235 to 249 (fun r wx => (∃ v : Int, r = .int .i32 v) ∧ ∃ acc, acc.length ≤ 4 * a1 ∧ Bx F s b a1 p c B g0 tl tc acc w wx)
      case first => as_aux_lemma =>
        go_wp2_with fail
        go_loopg [4] (s.size + 1) (fun k r wr => ∃ (j : Nat) (acc : List UInt8), r = .int .i32 (pk s j) ∧ j ≤ s.size ∧ s.size - j < k ∧ acc.length ≤ 4 * j ∧ Hid (scan s nlB j = a1) ∧ Bx F s b j p c B g0 tl tc acc w wr)
        case atStart => exact ⟨j0 + 1, [], rfl, by omega, by omega, by simp, HA1, hX9⟩
        case round =>
          clear hX9
          obtain ⟨j, acc, rfl, hj, hk, hacc, HS, hX⟩ := hrel
          obtain ⟨k, rfl⟩ : ∃ m, gk = m + 1 := ⟨gk - 1, by omega⟩
          by_cases hgo : j < s.size ∧ gb s j = 10
          · obtain ⟨hlt, h10⟩ := hgo
            have hpk : pk s j = 10 := (pk_eq s j 10 (by omega)).2 ⟨hlt, h10⟩
            have HNJ : Hid (nx s j = j + 1) := Lib.hid (nx_low s j hlt (by omega))
            have HS1 : Hid (scan s nlB (j + 1) = a1) := Lib.hid (by rw [← HS.out, scan_step s nlB j hlt (by rw [h10]; rfl)])
            rw [hpk]
            have he := enc_small 10
            clear hpk h10
            go_wp2_with (first | (go_at_call 27; refine (next_any hX.lb.lx hs).mono ?_; intro e w8 hnx; unfold NxPost at hnx; obtain ⟨rfl, hL8, hb8, hg8⟩ := hnx; rw [HNJ.out] at hL8; have hX8 := hX.nx hL8 hb8 hg8 hbB hbg) | (go_at_call 51; refine (wrune_any B acc _ (by omega) (by omega) _ hX8.bf (by omega)).mono ?_; rintro e w9 ⟨⟨v9, rfl⟩, hbuf9, hb9, hk9⟩; have hX9 := hX8.wr hbuf9 hb9 hk9 h2B (by omega) hg0B) | (go_at_call 26; refine (peek_lx hX9.lb.lx).mono ?_; rintro e wa ⟨rfl, hba⟩; have hXa := hX9.on hba))
            go_roundg k
            case measure => omega
            case rel => exact ⟨j + 1, _, rfl, by omega, by omega, by rw [List.length_append]; omega, HS1, hXa⟩
          · have hne : (pk s j == 10) = false := beq_eq_false_iff_ne.2 (fun e => hgo ((pk_eq s j 10 (by omega)).1 e))
            have HJ : Hid (j = a1) := Lib.hid (by rw [← HS.out, scan_stop s nlB j (fun hh => hgo ⟨hh.1, by have := hh.2; unfold nlB at this; simpa using this⟩)])
            obtain ⟨r, hr⟩ : ∃ x, pk s j = x := ⟨_, rfl⟩
            rw [hr] at hne
            rw [hr]
            clear hgo hr
            go_wp2_with fail
            go_meet
            rw [← HJ.out]
            exact ⟨⟨_, rfl⟩, acc, hacc, hX⟩
      case rest =>
        clear hX9
        obtain ⟨⟨rv, rfl⟩, acc, hacc, hX⟩ := hcut
        generalize wc = w9 at *
        have hsb := scan_bounds s blaB a1 ha1b.2
        obtain ⟨m, hm⟩ : ∃ m, scan s blaB a1 = a1 + m := ⟨scan s blaB a1 - a1, by omega⟩
        have hxs := ext_size s a1 s.size (Nat.le_refl _)
        have H66 : ∀ w, Calls Tryz.prog 66 #[.string (s.extract a1 s.size), .string (s.extract a1 s.size)] w fun e w' => e = .returned (.int .i64 (m : Int)) ∧ ∃ n, w' = w.drewN n := fun w => by
          have := cw_q (s.extract a1 s.size) (s.extract a1 s.size) w (by omega) (by omega)
          rw [cw_self s a1 ha1b.2, hm, show a1 + m - a1 = m by omega] at this
          exact this
        obtain ⟨ind, hind⟩ : ∃ ind, s.extract a1 (a1 + m) = ind := ⟨_, rfl⟩
        have hib := ind_blank s a1 ha1b.2
        have his := ext_size s a1 (a1 + m) (by omega)
        have hbe : begB s a1 ind = true := by rw [← hind]; exact beg_ext s a1 (a1 + m) (by omega) (by omega)
        rw [hm] at hib hsb
        rw [hind] at hib his
        rw [show a1 + m - a1 = m by omega] at his
        have HTM : Hid (T = if m = 0 then none else blkL s ind (s.size + 1) a1) := Lib.hid (by
          rw [HTH.out]
          unfold blkH
          rw [hm, hind]
          by_cases h0 : m = 0
          · rw [if_pos h0, if_pos (by omega)]
          · rw [if_neg h0, if_neg (by omega)])
        have HIB := Lib.hid hib
        have HIS := Lib.hid his
        have HIND := Lib.hid hind
        have HBE := Lib.hid hbe
        clear hm hxs hib his hbe
        go_upto_region 67 with (fail)
        have c2 := hX.lb.lx.c2
        have c10 := hX.lb.lx.c10
        have q0 : (0 : Int) ≤ (a1 : Int) := by omega
        have q1 : (a1 : Int) ≤ (s.size : Int) := by omega
        have q2 : (a1 : Int) ≤ ((a1 + m : Nat) : Int) := by omega
        have q3 : ((a1 + m : Nat) : Int) ≤ (s.size : Int) := by omega
        have hw1 : IntKind.i64.wrap ((a1 : Int) + (m : Int)) = ((a1 + m : Nat) : Int) := by rw [IntWalk.i64_in _ (by omega)]; omega
        go_quiet ((go_at_call 66; exact Calls.quiet_of (H66 _)))
        have hXa := hX.dn nq
        generalize w9.drewN nq = wa at *
        clear c2 c10 hX H66
        go_upto_region 68 with (fail)
        have c2 := hXa.lb.lx.c2
        have c10 := hXa.lb.lx.c10
        go_quiet (fail)
        have hXb := hXa.dn nq
        generalize wa.drewN nq = wb at *
        clear c2 c10 hXa q0 q1 q2 q3 hw1 hind
        by_cases h0 : m = 0
        · have HTN : Hid (T = none) := Lib.hid (by rw [HTM.out, if_pos h0])
          subst h0
          have k0 := blk_cell hXb.lo 0
          have k1 := blk_cell hXb.lo 1
          simp at k0 k1
          go_wp2_with (go_at_call 33; refine (err_any _ _ _ hXb.lb.lx).mono ?_; rintro e wc ⟨⟨vc, rfl⟩, hbc⟩; have hBc := hXb.lb.on hbc)
          go_ret
          exact rd_none HTN.out hBc.be
        have HTL : Hid (blkL s ind (s.size + 1) a1 = T) := Lib.hid (by rw [HTM.out, if_neg h0])
        have h0' : ((m : Int) == 0) = false := beq_eq_false_iff_ne.2 (by omega)
        go_wp2_with fail
        rw [HIND.out]
        go_loopg [4, 23] (s.size + 1) (fun ki r v wr => ∃ (k f : Nat) (acc : List UInt8), v = .int .i64 m ∧ (∃ x : Int, r = .int .i32 x) ∧ begB s k ind = true ∧ s.size - k < ki ∧ s.size - k < f ∧ acc.length ≤ 4 * k ∧ Hid (blkL s ind f k = T) ∧ Bx F s b k p c B g0 tl tc acc w wr)
        case atStart => exact ⟨a1, s.size + 1, acc, rfl, ⟨_, rfl⟩, HBE.out, by omega, by omega, hacc, HTL, hXb⟩
        case round =>
          clear hXb hacc acc
          obtain ⟨k, f, acc, rfl, ⟨x, rfl⟩, hbk, hki, hf, hacc, HF, hX⟩ := hrel
          obtain ⟨ki, rfl⟩ : ∃ y, gk = y + 1 := ⟨gk - 1, by omega⟩
          obtain ⟨f, rfl⟩ : ∃ y, f = y + 1 := ⟨f - 1, by omega⟩
          have hkm := beg_size s k ind hbk
          rw [HIS.out] at hkm
          have hIL := ind_low s ind k HIB.out hbk
          rw [HIS.out] at hIL
          have H65 := acceptN_g m hX.lb.lx hs hIL
          clear hIL hbk
          have HST : Hid (T = blkL s ind (f + 1) k) := Lib.hid HF.out.symm
          obtain ⟨i0, hi0⟩ : ∃ y, scan s nolB (k + m) = y := ⟨_, rfl⟩
          have hi0b := scan_bounds s nolB (k + m) hkm
          rw [hi0] at hi0b
          have HI0 := Lib.hid hi0
          have hmp : ¬ ((m : Int) ≤ 0) := by omega
          have hmp2 : (0 : Int) < (m : Int) := by omega
          clear hi0
          by_cases hE : i0 < s.size
          case neg =>
            have HTN : Hid (T = none) := Lib.hid (by rw [HST.out, blkL_step, HIS.out, HI0.out, if_neg hE])
            go_wp2_with (first | (go_at_call 65; refine H65.mono ?_; rintro e wc ⟨⟨vc, rfl⟩, hLc, hbc, hgc⟩; have hXc := hX.nx hLc hbc hgc hbB hbg) | (go_at_call 27; refine (next_any hXc.lb.lx hs).mono ?_; intro e wd hnx; unfold NxPost at hnx; obtain ⟨rfl, hLd, hbd, hgd⟩ := hnx; have hXd := hXc.nx hLd hbd hgd hbB hbg))
            clear hX H65 hLc hbc hgc hLd hbd hgd hXc
            go_loopg [4] (s.size + 1) (fun kk r wr => ∃ (i : Nat) (acc2 : List UInt8), r = .int .i32 (pk s i) ∧ i ≤ s.size ∧ s.size - i < kk ∧ acc2.length ≤ 4 * i ∧ Hid (scan s nolB i = i0) ∧ Bx F s b (nx s i) p c B g0 tl tc acc2 w wr)
            case atStart => exact ⟨k + m, acc, rfl, hkm, by omega, by omega, HI0, hXd⟩
            case round =>
              clear hXd
              obtain ⟨i, acc2, rfl, hi, hkk, hacc2, HS, hX⟩ := hrel
              obtain ⟨kk, rfl⟩ : ∃ y, gk = y + 1 := ⟨gk - 1, by omega⟩
              by_cases hlt : i < s.size
              · have h10 : nolB (gb s i) = true := by
                  cases hn : nolB (gb s i) with
                  | true => rfl
                  | false =>
                    have h2 := HS.out
                    rw [scan_stop s nolB i (fun hh => by rw [hn] at hh; cases hh.2)] at h2
                    omega
                have hnxi := nx_lt s i hlt
                have hr := pk_range s i
                have he := enc_small (pk s i)
                have HS1 : Hid (scan s nolB (nx s i) = i0) := Lib.hid (by rw [← HS.out, scan_nx s nolB nolB_hi i hlt h10])
                have tA : (pk s i == -1) = false := beq_eq_false_iff_ne.2 (fun e => by unfold pk at e; rw [if_pos hlt] at e; omega)
                have tB : (pk s i != 10) = true := by
                  have : pk s i ≠ 10 := fun e => (nolB_ten _).1 h10 ((pk_eq s i 10 (by omega)).1 e).2
                  simpa using this
                obtain ⟨r, hr'⟩ : ∃ y, pk s i = y := ⟨_, rfl⟩
                rw [hr'] at hr he tA tB
                rw [hr']
                clear h10 hr'
                go_wp2_with (first | (go_at_call 51; refine (wrune_any B acc2 _ (by omega) (by omega) _ hX.bf (by omega)).mono ?_; rintro e we ⟨⟨ve, rfl⟩, hbufe, hbe, hke⟩; have hXe := hX.wr hbufe hbe hke h2B (by omega) hg0B) | (go_at_call 27; refine (next_any hXe.lb.lx hs).mono ?_; intro e wf hnx; unfold NxPost at hnx; obtain ⟨rfl, hLf, hbf, hgf⟩ := hnx; have hXf := hXe.nx hLf hbf hgf hbB hbg))
                go_roundg kk
                case measure => omega
                case rel => exact ⟨nx s i, _, rfl, by omega, by omega, by rw [List.length_append]; omega, HS1, hXf⟩
              · rw [pk_end s i hlt]
                have k0 := blk_cell hX.lo 0
                have k1 := blk_cell hX.lo 1
                simp at k0 k1
                go_wp2_with (go_at_call 33; refine (err_any _ _ _ hX.lb.lx).mono ?_; rintro e we ⟨⟨ve, rfl⟩, hbe⟩; have hBe := hX.lb.on hbe)
                go_ret
                exact rd_none HTN.out hBe.be
          go_upto_block 12 with (first | (go_at_call 65; refine H65.mono ?_; rintro e wc ⟨⟨vc, rfl⟩, hLc, hbc, hgc⟩; have hXc := hX.nx hLc hbc hgc hbB hbg) | (go_at_call 27; refine (next_any hXc.lb.lx hs).mono ?_; intro e wd hnx; unfold NxPost at hnx; obtain ⟨rfl, hLd, hbd, hgd⟩ := hnx; have hXd := hXc.nx hLd hbd hgd hbB hbg))
          clear hX H65 hLc hbc hgc hLd hbd hgd hXc
          go_cut [4] from 293 to 383 (fun r wx => (∃ v : Int, r = .int .i32 v) ∧ ∃ acc2, acc2.length ≤ 4 * i0 ∧ Bx F s b (i0 + 1) p c B g0 tl tc acc2 w wx)
          case first =>
            go_wp2_with fail
            go_loopg [4] (s.size + 1) (fun kk r wr => ∃ (i : Nat) (acc2 : List UInt8), r = .int .i32 (pk s i) ∧ i ≤ s.size ∧ s.size - i < kk ∧ acc2.length ≤ 4 * i ∧ Hid (scan s nolB i = i0) ∧ Bx F s b (nx s i) p c B g0 tl tc acc2 w wr)
            case atStart => exact ⟨k + m, acc, rfl, hkm, by omega, by omega, HI0, hXd⟩
            case round =>
              clear hXd
              obtain ⟨i, acc2, rfl, hi, hkk, hacc2, HS, hX⟩ := hrel
              obtain ⟨kk, rfl⟩ : ∃ y, gk = y + 1 := ⟨gk - 1, by omega⟩
              have hlt : i < s.size := by
                by_cases h : i < s.size
                · exact h
                · have h2 := HS.out
                  rw [scan_stop s nolB i (fun hh => h hh.1)] at h2
                  omega
              cases h10 : nolB (gb s i) with
              | true =>
                have hnxi := nx_lt s i hlt
                have hr := pk_range s i
                have he := enc_small (pk s i)
                have HS1 : Hid (scan s nolB (nx s i) = i0) := Lib.hid (by rw [← HS.out, scan_nx s nolB nolB_hi i hlt h10])
                have tA : (pk s i == -1) = false := beq_eq_false_iff_ne.2 (fun e => by unfold pk at e; rw [if_pos hlt] at e; omega)
                have tB : (pk s i != 10) = true := by
                  have : pk s i ≠ 10 := fun e => (nolB_ten _).1 h10 ((pk_eq s i 10 (by omega)).1 e).2
                  simpa using this
                obtain ⟨r, hr'⟩ : ∃ y, pk s i = y := ⟨_, rfl⟩
                rw [hr'] at hr he tA tB
                rw [hr']
                clear h10 hr'
                go_wp2_with (first | (go_at_call 51; refine (wrune_any B acc2 _ (by omega) (by omega) _ hX.bf (by omega)).mono ?_; rintro e we ⟨⟨ve, rfl⟩, hbufe, hbe, hke⟩; have hXe := hX.wr hbufe hbe hke h2B (by omega) hg0B) | (go_at_call 27; refine (next_any hXe.lb.lx hs).mono ?_; intro e wf hnx; unfold NxPost at hnx; obtain ⟨rfl, hLf, hbf, hgf⟩ := hnx; have hXf := hXe.nx hLf hbf hgf hbB hbg))
                go_roundg kk
                case measure => omega
                case rel => exact ⟨nx s i, _, rfl, by omega, by omega, by rw [List.length_append]; omega, HS1, hXf⟩
              | false =>
                have hg10 : gb s i = 10 := by
                  by_cases h : gb s i = 10
                  · exact h
                  · rw [(nolB_ten _).2 h] at h10; cases h10
                have HI : Hid (i = i0) := Lib.hid (by rw [← HS.out, scan_stop s nolB i (fun hh => by rw [h10] at hh; cases hh.2)])
                have hpk : pk s i = 10 := (pk_eq s i 10 (by omega)).2 ⟨hlt, hg10⟩
                have HNI : Hid (nx s i = i + 1) := Lib.hid (nx_low s i hlt (by omega))
                rw [hpk]
                clear hpk h10 hg10
                go_wp2_with fail
                go_meet
                rw [HNI.out] at hX
                rw [← HI.out]
                exact ⟨⟨_, rfl⟩, acc2, hacc2, hX⟩
          case rest =>
            clear hXd hacc acc
            obtain ⟨⟨rv2, rfl⟩, acc, hacc, hX⟩ := hcut
            obtain ⟨k3, hk3⟩ : ∃ y, scan s nlB (i0 + 1) = y := ⟨_, rfl⟩
            have hk3b := scan_bounds s nlB (i0 + 1) (by omega)
            rw [hk3] at hk3b
            have HK3 := Lib.hid hk3
            have HSU : Hid (T = if begB s k3 ind = true then blkL s ind f k3 else if begB s (scan s blaB k3) bar3 = true then some (scan s blaB k3 + 3) else none) := Lib.hid (by
              rw [HST.out, blkL_step, HIS.out, HI0.out, if_pos hE, hk3])
            have he10 := enc_small 10
            clear hk3
            go_upto_block 14 with (first | (go_at_call 51; refine (wrune_any B acc _ (by omega) (by omega) _ hX.bf (by omega)).mono ?_; rintro e we ⟨⟨ve, rfl⟩, hbufe, hbe, hke⟩; have hXe := hX.wr hbufe hbe hke h2B (by omega) hg0B) | (go_at_call 26; refine (peek_lx hXe.lb.lx).mono ?_; rintro e wf ⟨rfl, hbf⟩; have hXf := hXe.on hbf))
            have hacc2 : 1 ≤ (acc ++ Lib.encodeRune 10).length ∧ (acc ++ Lib.encodeRune 10).length ≤ 4 * (i0 + 1) := by rw [List.length_append]; omega
            clear hX hXe hbufe hbe hke hbf hacc
            generalize acc ++ Lib.encodeRune 10 = acc at *
            go_cut [4] from 293 to 383 (fun r wx => (∃ v : Int, r = .int .i32 v) ∧ ∃ acc2 : List UInt8, 1 ≤ acc2.length ∧ acc2.length ≤ 4 * k3 ∧ Bx F s b k3 p c B g0 tl tc acc2 w wx)
            case first =>
              go_wp2_with fail
              go_loopg [4] (s.size + 1) (fun kk r wr => ∃ (j : Nat) (acc3 : List UInt8), r = .int .i32 (pk s j) ∧ j ≤ s.size ∧ s.size - j < kk ∧ 1 ≤ acc3.length ∧ acc3.length ≤ 4 * j ∧ Hid (scan s nlB j = k3) ∧ Bx F s b j p c B g0 tl tc acc3 w wr)
              case atStart => exact ⟨i0 + 1, acc, rfl, by omega, by omega, hacc2.1, hacc2.2, HK3, hXf⟩
              case round =>
                clear hXf hacc2
                obtain ⟨j, acc3, rfl, hj, hkk, hac1, hac2, HS, hX⟩ := hrel
                obtain ⟨kk, rfl⟩ : ∃ y, gk = y + 1 := ⟨gk - 1, by omega⟩
                by_cases hgo : j < s.size ∧ gb s j = 10
                · obtain ⟨hlt, h10⟩ := hgo
                  have hpk : pk s j = 10 := (pk_eq s j 10 (by omega)).2 ⟨hlt, h10⟩
                  have HNJ : Hid (nx s j = j + 1) := Lib.hid (nx_low s j hlt (by omega))
                  have HS1 : Hid (scan s nlB (j + 1) = k3) := Lib.hid (by rw [← HS.out, scan_step s nlB j hlt (by rw [h10]; rfl)])
                  rw [hpk]
                  clear hpk h10
                  go_wp2_with (first | (go_at_call 27; refine (next_any hX.lb.lx hs).mono ?_; intro e w8 hnx; unfold NxPost at hnx; obtain ⟨rfl, hL8, hb8, hg8⟩ := hnx; rw [HNJ.out] at hL8; have hX8 := hX.nx hL8 hb8 hg8 hbB hbg) | (go_at_call 51; refine (wrune_any B acc3 _ (by omega) (by omega) _ hX8.bf (by omega)).mono ?_; rintro e w9 ⟨⟨v9, rfl⟩, hbuf9, hb9, hk9⟩; have hX9 := hX8.wr hbuf9 hb9 hk9 h2B (by omega) hg0B) | (go_at_call 26; refine (peek_lx hX9.lb.lx).mono ?_; rintro e wa ⟨rfl, hba⟩; have hXa := hX9.on hba))
                  go_roundg kk
                  case measure => omega
                  case rel => exact ⟨j + 1, _, rfl, by omega, by omega, by rw [List.length_append]; omega, by rw [List.length_append]; omega, HS1, hXa⟩
                · have hne : (pk s j == 10) = false := beq_eq_false_iff_ne.2 (fun e => hgo ((pk_eq s j 10 (by omega)).1 e))
                  have HJ : Hid (j = k3) := Lib.hid (by rw [← HS.out, scan_stop s nlB j (fun hh => hgo ⟨hh.1, by have := hh.2; unfold nlB at this; simpa using this⟩)])
                  obtain ⟨r, hr⟩ : ∃ x, pk s j = x := ⟨_, rfl⟩
                  rw [hr] at hne
                  rw [hr]
                  clear hgo hr
                  go_wp2_with fail
                  go_meet
                  rw [← HJ.out]
                  exact ⟨⟨_, rfl⟩, acc3, hac1, hac2, hX⟩
            case rest =>
              clear hXf hacc2 acc
              obtain ⟨⟨rv3, rfl⟩, acc, hac1, hac2, hX⟩ := hcut
              generalize wc = wg at *
              go_upto_region 86 with (fail)
              have c2 := hX.lb.lx.c2
              have c10 := hX.lb.lx.c10
              have q0 : (0 : Int) ≤ (k3 : Int) := by omega
              have q1 : (k3 : Int) ≤ (s.size : Int) := by omega
              have hxs := ext_size s k3 s.size (Nat.le_refl _)
              have hcw := cw_ind s ind k3 hk3b.2 HIB.out
              have H66 := fun w => cw_q ind (s.extract k3 s.size) w (by have := HIS.out; omega) (by omega)
              cases hbg2 : begB s k3 ind with
              | true =>
                rw [hcw.1 hbg2, HIS.out] at H66
                have HFF : Hid (blkL s ind f k3 = T) := Lib.hid (by rw [HSU.out, if_pos hbg2])
                have HBB := Lib.hid hbg2
                clear hcw hxs hbg2
                go_quiet ((go_at_call 66; exact Calls.quiet_of (H66 _)))
                have hXh := hX.dn nq
                generalize wg.drewN nq = wh at *
                go_wp2_with fail
                go_roundg ki
                case measure => omega
                case rel => exact ⟨k3, f, acc, rfl, ⟨_, rfl⟩, HBB.out, by omega, by omega, hac2, HFF, hXh⟩
              | false =>
                rw [hcw.2 hbg2] at H66
                have HFF : Hid (T = if begB s (scan s blaB k3) bar3 = true then some (scan s blaB k3 + 3) else none) := Lib.hid (by rw [HSU.out, hbg2]; rfl)
                clear hcw hxs hbg2
                go_quiet ((go_at_call 66; exact Calls.quiet_of (H66 _)))
                have hXh := hX.dn nq
                generalize wg.drewN nq = wh at *
                clear c2 c10 q0 q1 H66 hX
                go_wp2_with (go_at_call 26; refine (peek_lx hXh.lb.lx).mono ?_; rintro e wi ⟨rfl, hbi⟩; have hXi := hXh.on hbi)
                clear hXh hbi
                obtain ⟨e0, he0⟩ : ∃ y, scan s blaB k3 = y := ⟨_, rfl⟩
                have he0b := scan_bounds s blaB k3 hk3b.2
                rw [he0] at he0b
                have HE0 := Lib.hid he0
                have HFE : Hid (T = if begB s e0 bar3 = true then some (e0 + 3) else none) := Lib.hid (by rw [HFF.out, he0])
                have henc1 : (Utf8.encode 32).size = 1 := by decide
                have henc2 : (Utf8.encode 9).size = 1 := by decide
                clear he0
                go_loopg [4, 25] (s.size + 1) (fun kk r v wr => ∃ (i : Nat) (t : ByteArray), r = .int .i32 (pk s i) ∧ v = .string t ∧ i ≤ s.size ∧ s.size - i < kk ∧ t.size ≤ i ∧ Hid (scan s blaB i = e0) ∧ Bx F s b i p c B g0 tl tc acc w wr)
                case atStart => exact ⟨k3, ⟨#[]⟩, rfl, rfl, hk3b.2, by omega, by show 0 ≤ k3; omega, HE0, hXi⟩
                case round =>
                  clear hXi
                  obtain ⟨i, t, rfl, rfl, hi, hkk, ht, HS, hX⟩ := hrel
                  obtain ⟨kk, rfl⟩ : ∃ y, gk = y + 1 := ⟨gk - 1, by omega⟩
                  by_cases hgo : i < s.size ∧ blaB (gb s i) = true
                  · obtain ⟨hlt, hbl⟩ := hgo
                    have hlow := blaB_low _ hbl
                    have hr : gb s i = 32 ∨ gb s i = 9 := by unfold blaB at hbl; simp at hbl; omega
                    have hpk := pk_low s i hlt hlow.1
                    have HNI : Hid (nx s i = i + 1) := Lib.hid (nx_low s i hlt hlow.1)
                    have HS1 : Hid (scan s blaB (i + 1) = e0) := Lib.hid (by rw [← HS.out, scan_step s blaB i hlt hbl])
                    rw [hpk]
                    obtain ⟨y, hy⟩ : ∃ y, gb s i = y := ⟨_, rfl⟩
                    rw [hy] at hr
                    rw [hy]
                    clear hpk hbl hlow hy
                    rcases hr with rfl | rfl
                    all_goals (
                      go_wp2_with (first | (go_at_call 27; refine (next_any hX.lb.lx hs).mono ?_; intro e w8 hnx; unfold NxPost at hnx; obtain ⟨rfl, hL8, hb8, hg8⟩ := hnx; rw [HNI.out] at hL8; have hX8 := hX.nx hL8 hb8 hg8 hbB hbg) | (go_at_call 26; refine (peek_lx hX8.lb.lx).mono ?_; rintro e wa ⟨rfl, hba⟩; have hXa := hX8.on hba))
                      go_roundg kk
                      case measure => omega
                      case rel => exact ⟨i + 1, _, rfl, rfl, by omega, by omega, by rw [ByteArray.size_append]; omega, HS1, hXa⟩)
                  · have hne : (pk s i == 32) = false ∧ (pk s i == 9) = false := by
                      refine ⟨beq_eq_false_iff_ne.2 (fun e => hgo ?_), beq_eq_false_iff_ne.2 (fun e => hgo ?_)⟩
                      · have := (pk_eq s i 32 (by omega)).1 e
                        exact ⟨this.1, by rw [this.2]; rfl⟩
                      · have := (pk_eq s i 9 (by omega)).1 e
                        exact ⟨this.1, by rw [this.2]; rfl⟩
                    obtain ⟨ne1, ne2⟩ := hne
                    have hie : i = e0 := by rw [← HS.out, scan_stop s blaB i hgo]
                    subst hie
                    obtain ⟨r, hr⟩ : ∃ x, pk s i = x := ⟨_, rfl⟩
                    rw [hr] at ne1 ne2
                    rw [hr]
                    clear hgo hr
                    go_wp2_with fail
                    have c2 := hX.lb.lx.c2
                    have c10 := hX.lb.lx.c10
                    have q0 : (0 : Int) ≤ (i : Int) := by omega
                    have q1 : (i : Int) ≤ (s.size : Int) := by omega
                    have H64 := fun w => hp_any s i bar3 hi w
                    cases hb3 : begB s i bar3 with
                    | false =>
                      rw [hb3] at H64
                      have HTN : Hid (T = none) := Lib.hid (by rw [HFE.out, hb3]; rfl)
                      clear hb3
                      go_quiet ((go_at_call 64; exact Calls.quiet_of_same (H64 _)))
                      have hXj := hX.dn nq
                      generalize wr.drewN nq = wj at *
                      have k0 := blk_cell hXj.lo 0
                      have k1 := blk_cell hXj.lo 1
                      simp at k0 k1
                      go_wp2_with (go_at_call 33; refine (err_any _ _ _ hXj.lb.lx).mono ?_; rintro e we ⟨⟨ve, rfl⟩, hbe⟩; have hBe := hXj.lb.on hbe)
                      go_ret
                      exact rd_none HTN.out hBe.be
                    | true =>
                      rw [hb3] at H64
                      have HTS : Hid (T = some (i + 3)) := Lib.hid (by rw [HFE.out, hb3]; rfl)
                      obtain ⟨b1, b2, b3, b4⟩ := (beg3 s i 124 124 124).1 hb3
                      have HK3' : Hid (∀ k, k < 3 → i + k < s.size ∧ gb s (i + k) < 128) := Lib.hid (fun k hk => by
                        rcases (show k = 0 ∨ k = 1 ∨ k = 2 by omega) with rfl | rfl | rfl
                        · exact ⟨by omega, by rw [Nat.add_zero, b2]; decide⟩
                        · exact ⟨by omega, by rw [b3]; decide⟩
                        · exact ⟨by omega, by rw [b4]; decide⟩)
                      clear hb3 b1 b2 b3 b4
                      go_quiet ((go_at_call 64; exact Calls.quiet_of_same (H64 _)))
                      have hXj := hX.dn nq
                      generalize wr.drewN nq = wj at *
                      clear H64 c2 c10 q0 q1 hX
                      have H65 := acceptN_g 3 hXj.lb.lx hs HK3'.out
                      rw [show ((3 : Nat) : Int) = 3 from rfl] at H65
                      obtain ⟨st, hst⟩ : ∃ st, (⟨acc.toArray⟩ : ByteArray) = st := ⟨_, rfl⟩
                      have hsl : st.size = acc.length := by rw [← hst]; rfl
                      obtain ⟨L, hL⟩ : ∃ L, acc.length = L + 1 := ⟨acc.length - 1, by omega⟩
                      rw [hL] at hsl
                      have H52 := fun w' h => bstr_any B acc w' h
                      rw [hst] at H52
                      have hLs : L ≤ 8000 := by omega
                      have hwL : IntKind.i64.wrap (((L + 1 : Nat) : Int) - 1) = (L : Int) := by rw [IntWalk.i64_in _ (by omega)]; omega
                      have r0 : (0 : Int) ≤ (L : Int) := by omega
                      have r1 : (L : Int) ≤ ((L + 1 : Nat) : Int) := by omega
                      clear hst hL
                      cases vb
                      all_goals (
                        go_wp2_with (first | (go_at_call 65; refine H65.mono ?_; rintro e wk ⟨⟨vk, rfl⟩, hLk, hbk2, hgk⟩; have hXk := hXj.nx hLk hbk2 hgk hbB hbg) | (go_at_call 52; refine (H52 _ hXk.bf).mono ?_; rintro e wl ⟨rfl, nl, hwl⟩; have hXl := hXk.on (bel_dn hwl); clear hwl) | (go_at_call 34; refine (emitFull_any _ _ _ _ hXl.lb.lx (by omega)).mono ?_; rintro e wm ⟨⟨vm, rfl⟩, hLm, hbm⟩; have hBm := hXl.lb.to hLm hbm) | (go_at_call 28; refine (reset_any hBm.lx).mono ?_; rintro e wn ⟨⟨vn, rfl⟩, hLn, hbn⟩; have hBn := hBm.to hLn hbn))
                        go_ret
                        exact rd_some HTS.out (hBn.mor (by omega)))
end Go.Proofs.YtiicdalodfjgaaaGreatFmt
