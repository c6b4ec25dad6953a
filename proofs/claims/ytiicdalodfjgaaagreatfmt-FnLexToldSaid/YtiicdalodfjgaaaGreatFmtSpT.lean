/- The reference's lexer: blocks. -/
import Derived.Test.YtiicdalodfjgaaaGreatFmtSpS
import Derived.Test.YtiicdalodfjgaaaGreatFmtSpF
import Derived.Test.YtiicdalodfjgaaaGreatFmtSpD
import Derived.Deep.LoopGhost
import Derived.Deep.DeepCutAuto
import Derived.Deep.CutBlock
namespace Go.Proofs.YtiicdalodfjgaaaGreatFmt
open Go.RowKit

/-- what the reference's block leaves: nothing said, or what blkS says. -/
def BkPost (s : ByteArray) (b : Nat) (r : Int × Nat) (w : World) (e : Ending) (w' : World) : Prop :=
  (∃ v, e = .returned v) ∧ (∃ (st : Int) (q : Nat), SpL s b q st w' ∧ (st = 0 ∨ (st = r.1 ∧ (r.1 = 1 → q = r.2)))) ∧ Below b w w'
theorem bk_open {s : ByteArray} {b q : Nat} {r : Int × Nat} {w w' : World} {v : Value} (h : SpL s b q 0 w') (hb : Below b w w') : BkPost s b r w (.returned v) w' := ⟨⟨_, rfl⟩, ⟨0, q, h, .inl rfl⟩, hb⟩
theorem bk_wrong {s : ByteArray} {b q : Nat} {r : Int × Nat} {w w' : World} {v : Value} (h : SpL s b q 2 w') (hr : r.1 = 2) (hb : Below b w w') : BkPost s b r w (.returned v) w' := ⟨⟨_, rfl⟩, ⟨2, q, h, .inr ⟨hr.symm, fun h1 => by rw [hr] at h1; cases h1⟩⟩, hb⟩
/-- the state behind 'if the block is faint, open; then wrong'. -/
theorem empty_list (t : ByteArray) : (t.toList == []) = decide (t.size = 0) := by
  rw [ByteArray.toList_eq, Bool.eq_iff_iff]
  simp only [beq_iff_eq, decide_eq_true_eq]
  constructor
  · intro h
    have := congrArg List.length h
    simpa using this
  · intro h
    exact List.length_eq_zero_iff.1 (by simpa using h)

set_option maxRecDepth 100000 in
set_option maxHeartbeats 6400000 in
theorem block_any (s : ByteArray) (b p : Nat) (w : World) (h : SpL s b p 1 w) (hp : p + 3 ≤ s.size) (hs : s.size ≤ 2000) :
    Calls Tryz.prog 12 #[.pointer (some ⟨b, 0, none⟩)] w fun e w' => BkPost s b (blkS s p) w e w' := by
  have HL := h
  have hB0 : Below b w w := Below.refl b w
  obtain ⟨r, hr⟩ : ∃ r, blkS s p = r := ⟨_, rfl⟩
  rw [hr]
  have HR := Lib.hid hr
  clear hr
  have c0 := HL.c0
  have c1 := HL.c1
  obtain ⟨a1, ha1⟩ : ∃ x, scan s blaB (p + 3) = x := ⟨_, rfl⟩
  have hb1 := scan_bounds s blaB (p + 3) hp
  rw [ha1] at hb1
  have H41 := blanks_any s b p 1 (p + 3) w HL hp hs
  rw [ha1] at H41
  have hw3 : IntKind.i64.wrap ((p : Int) + 3) = ((p + 3 : Nat) : Int) := by rw [IntWalk.i64_in _ (by omega)]; omega
  have hgb : ∀ h : a1 < s.size, (s[a1]'h).toNat = gb s a1 := fun h => (gb_in s a1 h).symm
  by_cases g1 : a1 < s.size ∧ gb s a1 = 10
  case neg =>
    -- no line's end behind the head: open
    go_enter Tryz.func12, Tryz.ntmps12
    by_cases g2 : a1 < s.size
    · have t : ((gb s a1 : Int) != 10) = true := by simp; omega
      have t2 : decide ((s.size : Int) ≤ (a1 : Int)) = false := by simp; omega
      go_wp2_with (go_at_call 41; refine H41.mono ?_; rintro e w' ⟨rfl, rfl⟩)
      refine (stop_any s b p 1 0 _ HL).mono ?_
      rintro e w6 ⟨⟨v, rfl⟩, hL6, hb6⟩
      go_wp2_with fail
      (try simp only [Exit.inBlock, Exit.then]); refine bodyPost_ret (results_none rfl _ _ _) rfl ?_
      exact bk_open hL6 hb6
    · have t2 : (s.size : Int) ≤ (a1 : Int) := by omega
      go_wp2_with (go_at_call 41; refine H41.mono ?_; rintro e w' ⟨rfl, rfl⟩)
      refine (stop_any s b p 1 0 _ HL).mono ?_
      rintro e w6 ⟨⟨v, rfl⟩, hL6, hb6⟩
      go_wp2_with fail
      (try simp only [Exit.inBlock, Exit.then]); refine bodyPost_ret (results_none rfl _ _ _) rfl ?_
      exact bk_open hL6 hb6
  case pos =>
  obtain ⟨g1, g2⟩ := g1
  obtain ⟨a, ha⟩ : ∃ x, scan s nlB (a1 + 1) = x := ⟨_, rfl⟩
  have hba := scan_bounds s nlB (a1 + 1) (by omega)
  rw [ha] at hba
  obtain ⟨a4, ha4⟩ : ∃ x, scan s blaB a = x := ⟨_, rfl⟩
  have hb4 := scan_bounds s blaB a hba.2
  rw [ha4] at hb4
  have HR2 : Hid ((if a4 = a then ((2 : Int), p) else match blkR s (s.extract a a4) a with | some q => (1, q) | none => (2, p)) = r) := Lib.hid (by
    have := HR.out
    unfold blkS at this
    rw [ha1, if_pos ⟨g1, g2⟩, ha, ha4] at this
    exact this)
  have t : ((gb s a1 : Int) != 10) = false := by simp; omega
  have t2 : decide ((s.size : Int) ≤ (a1 : Int)) = false := by simp; omega
  have hw1 : IntKind.i64.wrap ((a1 : Int) + 1) = ((a1 + 1 : Nat) : Int) := by rw [IntWalk.i64_in _ (by omega)]; omega
  have HA := Lib.hid ha
  clear ha HR
  go_enter Tryz.func12, Tryz.ntmps12
  go_wp2_with (go_at_call 41; refine H41.mono ?_; rintro e w' ⟨rfl, rfl⟩)
  clear H41 hgb t t2 g2 hw1 hw3
  go_loopw [2, 3] (fun i o wr => ∃ (j : Nat) (out : ByteArray), i = .int .i64 j ∧ o = .string out ∧ Hid (scan s nlB j = a) ∧ a1 + 1 ≤ j ∧ j ≤ s.size ∧ out.size ≤ j ∧ w = wr) (fun i _ _ => s.size - (intOf i).toNat)
  case atStart => exact ⟨a1 + 1, ⟨#[]⟩, rfl, rfl, HA, by omega, by omega, Nat.zero_le _, rfl⟩
  case round =>
    clear HA
    obtain ⟨j, out, rfl, rfl, HS, hj1, hj, ho, rfl⟩ := hrel
    go_upto_region 5 with (fail)
    go_cut [47] (fun v wx => v = .bool (decide (j < s.size) && nlB (gb s j)) ∧ w = wx)
    case first => as_aux_lemma =>
      have hgb : ∀ h : j < s.size, (s[j]'h).toNat = gb s j := fun h => (gb_in s j h).symm
      by_cases hlt : j < s.size
      · by_cases h2 : gb s j = 10
        · have t : ((gb s j : Int) == 10) = true := by simp; omega
          have HF : Hid (true = (decide (j < s.size) && nlB (gb s j))) := Lib.hid (by rw [decide_eq_true hlt, h2]; rfl)
          clear h2
          go_wp2_with fail
          go_meet
          exact ⟨by rw [← HF.out], rfl⟩
        · have t : ((gb s j : Int) == 10) = false := by simp; omega
          have HF : Hid (false = (decide (j < s.size) && nlB (gb s j))) := Lib.hid (by rw [decide_eq_true hlt]; unfold nlB; simp [h2])
          clear h2
          go_wp2_with fail
          go_meet
          exact ⟨by rw [← HF.out], rfl⟩
      · have HF : Hid (false = (decide (j < s.size) && nlB (gb s j))) := Lib.hid (by rw [decide_eq_false hlt]; rfl)
        go_wp2_with fail
        go_meet
        exact ⟨by rw [← HF.out], rfl⟩
    case rest =>
      obtain ⟨rfl, rfl⟩ := hcut
      cases hg : (decide (j < s.size) && nlB (gb s j)) with
      | true =>
        have hg' := hg
        simp only [Bool.and_eq_true, decide_eq_true_eq] at hg'
        obtain ⟨h1, h2⟩ := hg'
        have HN : Hid (scan s nlB (j + 1) = a) := Lib.hid (by rw [← HS.out, scan_step s nlB j h1 h2])
        clear h2
        go_wp2_with fail
        go_roundw
        case rel => exact ⟨j + 1, _, rfl, rfl, HN, by omega, by omega, by rw [ByteArray.size_append]; have : (⟨#[10]⟩ : ByteArray).size = 1 := rfl; omega, trivial⟩
        case measure => simp [intOf]; omega
      | false =>
        have hja : j = a := by
          rw [← HS.out, scan_stop s nlB j]
          rintro ⟨h1, h2⟩
          rw [decide_eq_true h1, h2] at hg
          cases hg
        subst hja
        clear HS hg
        have HLd : ∀ n, SpL s b p 1 (w.drewN n) := fun n => HL.below (below_drewN (Below.refl w.heap.size w) n)
        have H41 := fun n => blanks_any s b p 1 j (w.drewN n) (HLd n) hj hs
        rw [ha4] at H41
        have q0 : (0 : Int) ≤ (j : Int) := by omega
        have q1 : (j : Int) ≤ (a4 : Int) := by omega
        have q2 : (a4 : Int) ≤ (s.size : Int) := by omega
        go_wp2_with fail
        go_quiet ((go_at_call 41; refine Calls.quiet_of ((H41 _).mono (by rintro e w' ⟨rfl, rfl⟩; exact ⟨rfl, 0, rfl⟩))))
        have HL2 := HLd nq
        have HB2 : Below b w (w.drewN nq) := below_drewN hB0 nq
        generalize w.drewN nq = w2 at HL2 HB2
        obtain ⟨ind, hind⟩ : ∃ x, s.extract j a4 = x := ⟨_, rfl⟩
        have hiz : ind.size = a4 - j := by rw [← hind]; exact ext_size s j a4 hb4.2
        rw [hind] at HR2
        rw [hind]
        clear H41 HLd q0 q1 q2 c0 c1
        have hEq := empty_list ind
        by_cases hz : a4 = j
        · have HWR : Hid (r.1 = 2) := Lib.hid (by rw [← HR2.out, if_pos hz])
          have tE : (ind.toList == []) = true := by rw [hEq]; exact decide_eq_true (by omega)
          have HLX := HL2
          have HBX := HB2
          clear hEq hiz
          go_wp2_with fail
          go_upto_region 10 with (fail)
          go_cut [79] (fun v wx => ∃ vb : Bool, v = .bool vb ∧ SpL s b p 1 wx ∧ Below b w wx)
          case first => as_aux_lemma =>
            have H42 := fun w => faint_any (s.extract p s.size) w (by simp; omega)
            have H43 := fun w => within_any s 13 w (by omega)
            obtain ⟨fb, hfb⟩ : ∃ x, faintE (s.extract p s.size) = x := ⟨_, rfl⟩
            obtain ⟨wb, hwb⟩ : ∃ x, withE s 13 = x := ⟨_, rfl⟩
            rw [hfb] at H42
            rw [hwb] at H43
            clear hfb hwb
            have c0 := HLX.c0
            have c1 := HLX.c1
            have q0 : (0 : Int) ≤ (p : Int) := Int.natCast_nonneg _
            have q1 : (p : Int) ≤ (s.size : Int) := by omega
            cases fb
            all_goals
              go_quiet (first | (go_at_call 42; refine Calls.quiet_of ((H42 _).mono (by rintro e w' ⟨rfl, rfl⟩; exact ⟨rfl, 0, rfl⟩))) | (go_at_call 43; refine Calls.quiet_of ((H43 _).mono (by rintro e w' ⟨rfl, rfl⟩; exact ⟨rfl, 0, rfl⟩))))
              go_wp2_with fail
              go_meet
              exact ⟨_, rfl, HLX.below (below_drewN (Below.refl _ _) _), below_drewN HBX _⟩
          case rest =>
            obtain ⟨vb, rfl, HLY, HBY⟩ := hcut
            cases vb with
            | true =>
              go_wp2_with fail
              refine (stop_any s b p 1 0 _ HLY).mono ?_
              rintro e w6 ⟨⟨v, rfl⟩, hL6, hb6⟩
              go_wp2_with fail
              refine (stop_any s b p _ 2 _ hL6).mono ?_
              rintro e w7 ⟨⟨v, rfl⟩, hL7, hb7⟩
              go_wp2_with fail
              (try simp only [Exit.inBlock, Exit.then]); refine bodyPost_ret (results_none rfl _ _ _) rfl ?_
              exact bk_open hL7 ((HBY.trans hb6).trans hb7)
            | false =>
              go_wp2_with fail
              refine (stop_any s b p 1 2 _ HLY).mono ?_
              rintro e w7 ⟨⟨v, rfl⟩, hL7, hb7⟩
              go_wp2_with fail
              (try simp only [Exit.inBlock, Exit.then]); refine bodyPost_ret (results_none rfl _ _ _) rfl ?_
              exact bk_wrong hL7 HWR.out (HBY.trans hb7)
        · have tE : (ind.toList == []) = false := by rw [hEq]; exact decide_eq_false (by omega)
          have HR3 : Hid ((match blkR s ind j with | some q => ((1 : Int), q) | none => (2, p)) = r) := Lib.hid (by
            have h0 := HR2.out
            rw [if_neg hz] at h0
            exact h0)
          have hi : 0 < ind.size := by omega
          obtain ⟨E, hE⟩ : ∃ E, blkE s ind j = E := ⟨_, rfl⟩
          have HE := Lib.hid hE
          have hjs : j ≤ s.size := hj
          clear hE hEq HR2 hind hiz
          go_upto_block 2 with (fail)
          go_cut [2, 3] (fun i o wx => ∃ (k : Nat) (out2 : ByteArray), i = .int .i64 k ∧ o = .string out2 ∧ Hid (k = blkE s ind j) ∧ j ≤ k ∧ k ≤ s.size ∧ w2 = wx)
          case first =>
            go_wp2_with fail
            go_loopw [2, 3] (fun i o wr2 => ∃ (k : Nat) (out2 : ByteArray), i = .int .i64 k ∧ o = .string out2 ∧ Hid (blkE s ind k = E) ∧ j ≤ k ∧ k ≤ s.size ∧ out2.size ≤ k ∧ w2 = wr2) (fun i _ _ => s.size - (intOf i).toNat)
            case atStart => exact ⟨j, out, rfl, rfl, HE, Nat.le_refl _, hjs, ho, rfl⟩
            case round =>
              obtain ⟨k, out2, rfl, rfl, HK, hjk, hk, ho2, rfl⟩ := hrel
              have c0 := HL2.c0
              by_cases hlt : k < s.size
              · have hgb : ∀ h : k < s.size, (s[k]'h).toNat = gb s k := fun h => (gb_in s k h).symm
                have HST := Lib.hid (blkE_step s ind hi k hlt)
                by_cases h10 : gb s k = 10
                · have t : ((gb s k : Int) == 10) = true := by simp; omega
                  have HN : Hid (blkE s ind (k + 1) = E) := Lib.hid (by rw [← HK.out, HST.out, if_pos h10])
                  clear h10
                  go_wp2_with fail
                  go_roundw
                  case rel => exact ⟨k + 1, _, rfl, rfl, HN, by omega, by omega, by rw [ByteArray.size_append]; have : (⟨#[10]⟩ : ByteArray).size = 1 := rfl; omega, trivial⟩
                  case measure => simp [intOf]; omega
                · have t : ((gb s k : Int) == 10) = false := by simp; omega
                  have HS2 : Hid ((if begB s k ind = true then blkE s ind (if scan s nolB (k + ind.size) < s.size then scan s nolB (k + ind.size) + 1 else scan s nolB (k + ind.size)) else k) = E) := Lib.hid (by rw [← HK.out, HST.out, if_neg h10])
                  clear h10 HST
                  go_upto_region 17 with (fail)
                  go_cut [125] (fun v wx => v = .bool (!begB s k ind) ∧ w2 = wx)
                  case first => as_aux_lemma =>
                    have hw1 : IntKind.i64.wrap ((s.size : Int) - (k : Int)) = (s.size : Int) - (k : Int) := IntWalk.i64_in _ (by omega)
                    by_cases hf : k + ind.size ≤ s.size
                    · have hB : Hid (((s.extract k (k + ind.size)).toList == ind.toList) = begB s k ind) := Lib.hid (by unfold begB; rw [decide_eq_true hf]; rfl)
                      have hw2 : IntKind.i64.wrap ((k : Int) + (ind.size : Int)) = ((k + ind.size : Nat) : Int) := by rw [IntWalk.i64_in _ (by omega)]; omega
                      have h3 : decide ((s.size : Int) - (k : Int) < (ind.size : Int)) = false := by simp; omega
                      have h4 : (0 : Int) ≤ (k : Int) := by omega
                      have h5 : (k : Int) ≤ ((k + ind.size : Nat) : Int) := by omega
                      have h6 : ((k + ind.size : Nat) : Int) ≤ (s.size : Int) := by omega
                      cases hbb : ((s.extract k (k + ind.size)).toList == ind.toList) with
                      | true =>
                        rw [hbb] at hB
                        go_wp2_with fail
                        go_meet
                        exact ⟨by rw [← hB.out]; rfl, rfl⟩
                      | false =>
                        rw [hbb] at hB
                        go_wp2_with fail
                        go_meet
                        exact ⟨by rw [← hB.out]; rfl, rfl⟩
                    · have hB : begB s k ind = false := by
                        cases hh : begB s k ind with
                        | false => rfl
                        | true => have := beg_size s k _ hh; omega
                      have h3 : (s.size : Int) - (k : Int) < (ind.size : Int) := by omega
                      go_wp2_with fail
                      go_meet
                      exact ⟨by rw [hB]; rfl, rfl⟩
                  case rest =>
                    obtain ⟨rfl, rfl⟩ := hcut
                    cases hbk : begB s k ind with
                    | true =>
                      have hks := beg_size s k ind hbk
                      obtain ⟨m, hm⟩ : ∃ m, scan s nolB (k + ind.size) = m := ⟨_, rfl⟩
                      have hmb := scan_bounds s nolB (k + ind.size) hks
                      rw [hm] at hmb
                      have HN : Hid (blkE s ind (if m < s.size then m + 1 else m) = E) := Lib.hid (by rw [← HS2.out, if_pos hbk, hm])
                      have HM := Lib.hid hm
                      have hw2 : IntKind.i64.wrap ((k : Int) + (ind.size : Int)) = ((k + ind.size : Nat) : Int) := by rw [IntWalk.i64_in _ (by omega)]; omega
                      clear hm HS2 hbk hgb t
                      go_wp2_with fail
                      go_loopw [2, 3] (fun i o wr3 => ∃ (l : Nat) (out3 : ByteArray), i = .int .i64 l ∧ o = .string out3 ∧ Hid (scan s nolB l = m) ∧ k + ind.size ≤ l ∧ l ≤ s.size ∧ out3.size ≤ l ∧ w2 = wr3) (fun i _ _ => s.size - (intOf i).toNat)
                      case atStart => exact ⟨k + ind.size, out2, rfl, rfl, HM, Nat.le_refl _, hks, by omega, rfl⟩
                      case round =>
                        clear HM
                        obtain ⟨l, out3, rfl, rfl, HL3, hl1, hl, ho3, rfl⟩ := hrel
                        go_upto_region 19 with (fail)
                        go_cut [145] (fun v wx => v = .bool (decide (l < s.size) && nolB (gb s l)) ∧ w2 = wx)
                        case first => as_aux_lemma =>
                          have hgb : ∀ h : l < s.size, (s[l]'h).toNat = gb s l := fun h => (gb_in s l h).symm
                          by_cases hlt : l < s.size
                          · by_cases h2 : gb s l = 10
                            · have t : ((gb s l : Int) != 10) = false := by simp; omega
                              have HF : Hid (false = (decide (l < s.size) && nolB (gb s l))) := Lib.hid (by rw [decide_eq_true hlt, h2]; rfl)
                              clear h2
                              go_wp2_with fail
                              go_meet
                              exact ⟨by rw [← HF.out], rfl⟩
                            · have t : ((gb s l : Int) != 10) = true := by simp; omega
                              have HF : Hid (true = (decide (l < s.size) && nolB (gb s l))) := Lib.hid (by rw [decide_eq_true hlt]; unfold nolB; simp [h2])
                              clear h2
                              go_wp2_with fail
                              go_meet
                              exact ⟨by rw [← HF.out], rfl⟩
                          · have HF : Hid (false = (decide (l < s.size) && nolB (gb s l))) := Lib.hid (by rw [decide_eq_false hlt]; rfl)
                            go_wp2_with fail
                            go_meet
                            exact ⟨by rw [← HF.out], rfl⟩
                        case rest =>
                          obtain ⟨rfl, rfl⟩ := hcut
                          cases hg : (decide (l < s.size) && nolB (gb s l)) with
                          | true =>
                            have hg' := hg
                            simp only [Bool.and_eq_true, decide_eq_true_eq] at hg'
                            obtain ⟨h1, h2⟩ := hg'
                            have HN2 : Hid (scan s nolB (l + 1) = m) := Lib.hid (by rw [← HL3.out, scan_step s nolB l h1 h2])
                            have hw5 : IntKind.i64.wrap ((l : Int) + 1) = ((l + 1 : Nat) : Int) := by rw [IntWalk.i64_in _ (by omega)]; omega
                            have h5 : (0 : Int) ≤ (l : Int) := by omega
                            have h6 : (l : Int) ≤ ((l + 1 : Nat) : Int) := by omega
                            have h7 : ((l + 1 : Nat) : Int) ≤ (s.size : Int) := by omega
                            clear h2 hg
                            go_wp2_with fail
                            go_roundw
                            case rel => exact ⟨l + 1, _, rfl, rfl, HN2, by omega, by omega, by rw [str_byte2 out3 s l h1]; omega, trivial⟩
                            case measure => simp [intOf]; omega
                          | false =>
                            have hlm : l = m := by
                              rw [← HL3.out, scan_stop s nolB l]
                              rintro ⟨h1, h2⟩
                              rw [decide_eq_true h1, h2] at hg
                              cases hg
                            subst hlm
                            clear HL3 hg
                            by_cases hms : l < s.size
                            · have t1 : (l : Int) < (s.size : Int) := by omega
                              have HN3 : Hid (blkE s ind (l + 1) = E) := Lib.hid (by have h0 := HN.out; rw [if_pos hms] at h0; exact h0)
                              go_wp2_with fail
                              go_roundw
                              case rel => exact ⟨l + 1, _, rfl, rfl, HN3, by omega, by omega, by rw [ByteArray.size_append]; have : (⟨#[10]⟩ : ByteArray).size = 1 := rfl; omega, trivial⟩
                              case measure => simp [intOf]; omega
                            · have t1 : decide ((l : Int) < (s.size : Int)) = false := by simp; omega
                              have HN3 : Hid (blkE s ind l = E) := Lib.hid (by have h0 := HN.out; rw [if_neg hms] at h0; exact h0)
                              go_wp2_with fail
                              go_roundw
                              case rel => exact ⟨l, _, rfl, rfl, HN3, by omega, by omega, by omega, trivial⟩
                              case measure => simp [intOf]; omega
                    | false =>
                      have HJ : Hid (k = blkE s ind j) := Lib.hid (by rw [HE.out, ← HS2.out, if_neg (by rw [hbk]; decide)])
                      clear HS2 hbk hgb t HK
                      go_wp2_with fail
                      go_meet
                      exact ⟨k, out2, rfl, rfl, HJ, hjk, hk, rfl⟩
              · have HJ : Hid (k = blkE s ind j) := Lib.hid (by rw [HE.out, ← HK.out, blkE_end s ind k hlt])
                have t1 : decide ((k : Int) < (s.size : Int)) = false := by simp; omega
                clear HK
                go_wp2_with fail
                go_meet
                exact ⟨k, out2, rfl, rfl, HJ, hjk, hk, rfl⟩
          case rest =>
            obtain ⟨k, out2, rfl, rfl, HJ, hjk, hk, rfl⟩ := hcut
            -- behind the lines
            have H41 := blanks_any s b p 1 k w2 HL2 hk hs
            obtain ⟨e, he⟩ : ∃ x, scan s blaB k = x := ⟨_, rfl⟩
            have hbe := scan_bounds s blaB k hk
            rw [he] at H41 hbe
            have HRT : Hid ((if begB s e bar3 = true then ((1 : Int), e + 3) else (2, p)) = r) := Lib.hid (by
              have h0 := HR3.out
              unfold blkR at h0
              rw [← HJ.out, he] at h0
              by_cases hh : begB s e bar3 = true
              · rw [if_pos hh] at h0 ⊢
                exact h0
              · rw [if_neg hh] at h0 ⊢
                exact h0)
            clear HR3 he
            go_upto_region 26 with (go_at_call 41; refine H41.mono ?_; rintro ev w' ⟨rfl, rfl⟩)
            go_cut [190] (fun v wx => v = .bool (!begB s e bar3) ∧ w2 = wx)
            case first => as_aux_lemma =>
              have c0 := HL2.c0
              have hzb : bar3.size = 3 := rfl
              have hw1 : IntKind.i64.wrap ((s.size : Int) - (e : Int)) = (s.size : Int) - (e : Int) := IntWalk.i64_in _ (by omega)
              by_cases hf : e + 3 ≤ s.size
              · have hB : Hid (((s.extract e (e + 3)).toList == [124, 124, 124]) = begB s e bar3) := Lib.hid (by unfold begB; rw [hzb, decide_eq_true hf, ByteArray.toList_eq bar3]; rfl)
                have hw2 : IntKind.i64.wrap ((e : Int) + 3) = ((e + 3 : Nat) : Int) := by rw [IntWalk.i64_in _ (by omega)]; omega
                have h3 : decide ((s.size : Int) - (e : Int) < 3) = false := by simp; omega
                have h4 : (0 : Int) ≤ (e : Int) := by omega
                have h5 : (e : Int) ≤ ((e + 3 : Nat) : Int) := by omega
                have h6 : ((e + 3 : Nat) : Int) ≤ (s.size : Int) := by omega
                cases hbb : ((s.extract e (e + 3)).toList == [124, 124, 124]) with
                | true =>
                  rw [hbb] at hB
                  go_wp2_with fail
                  go_meet
                  exact ⟨by rw [← hB.out]; rfl, rfl⟩
                | false =>
                  rw [hbb] at hB
                  go_wp2_with fail
                  go_meet
                  exact ⟨by rw [← hB.out]; rfl, rfl⟩
              · have hB : begB s e bar3 = false := by
                  cases hh : begB s e bar3 with
                  | false => rfl
                  | true => have := beg_size s e _ hh; omega
                have h3 : (s.size : Int) - (e : Int) < 3 := by omega
                go_wp2_with fail
                go_meet
                exact ⟨by rw [hB]; rfl, rfl⟩
            case rest =>
              obtain ⟨rfl, rfl⟩ := hcut
              cases hbb : begB s e bar3 with
              | false =>
                have HWR : Hid (r.1 = 2) := Lib.hid (by rw [← HRT.out, hbb]; rfl)
                have HLX := HL2
                have HBX := HB2
                go_wp2_with fail
                go_upto_region 27 with (fail)
                go_cut [207] (fun v wx => ∃ vb : Bool, v = .bool vb ∧ SpL s b p 1 wx ∧ Below b w wx)
                case first => as_aux_lemma =>
                  have H42 := fun w => faint_any (s.extract p s.size) w (by simp; omega)
                  have H43 := fun w => within_any s 13 w (by omega)
                  obtain ⟨fb, hfb⟩ : ∃ x, faintE (s.extract p s.size) = x := ⟨_, rfl⟩
                  obtain ⟨wb, hwb⟩ : ∃ x, withE s 13 = x := ⟨_, rfl⟩
                  rw [hfb] at H42
                  rw [hwb] at H43
                  clear hfb hwb
                  have c0 := HLX.c0
                  have c1 := HLX.c1
                  have q0 : (0 : Int) ≤ (p : Int) := Int.natCast_nonneg _
                  have q1 : (p : Int) ≤ (s.size : Int) := by omega
                  cases fb
                  all_goals
                    go_quiet (first | (go_at_call 42; refine Calls.quiet_of ((H42 _).mono (by rintro e w' ⟨rfl, rfl⟩; exact ⟨rfl, 0, rfl⟩))) | (go_at_call 43; refine Calls.quiet_of ((H43 _).mono (by rintro e w' ⟨rfl, rfl⟩; exact ⟨rfl, 0, rfl⟩))))
                    go_wp2_with fail
                    go_meet
                    exact ⟨_, rfl, HLX.below (below_drewN (Below.refl _ _) _), below_drewN HBX _⟩
                case rest =>
                  obtain ⟨vb, rfl, HLY, HBY⟩ := hcut
                  cases vb with
                  | true =>
                    go_wp2_with fail
                    refine (stop_any s b p 1 0 _ HLY).mono ?_
                    rintro e w6 ⟨⟨v, rfl⟩, hL6, hb6⟩
                    go_wp2_with fail
                    refine (stop_any s b p _ 2 _ hL6).mono ?_
                    rintro e w7 ⟨⟨v, rfl⟩, hL7, hb7⟩
                    go_wp2_with fail
                    (try simp only [Exit.inBlock, Exit.then]); refine bodyPost_ret (results_none rfl _ _ _) rfl ?_
                    exact bk_open hL7 ((HBY.trans hb6).trans hb7)
                  | false =>
                    go_wp2_with fail
                    refine (stop_any s b p 1 2 _ HLY).mono ?_
                    rintro e w7 ⟨⟨v, rfl⟩, hL7, hb7⟩
                    go_wp2_with fail
                    (try simp only [Exit.inBlock, Exit.then]); refine bodyPost_ret (results_none rfl _ _ _) rfl ?_
                    exact bk_wrong hL7 HWR.out (HBY.trans hb7)
              | true =>
                have he3 : e + 3 ≤ s.size := by
                  have := beg_size s e _ hbb
                  exact this
                have HRF : Hid (r = (1, e + 3)) := Lib.hid (by rw [← HRT.out, hbb]; rfl)
                clear HRT
                have hpe : p ≤ e := by omega
                go_upto_region 30 with (fail)
                go_cut [235] (fun v wx => ∃ vb : Bool, v = .bool vb ∧ SpL s b p 1 wx ∧ Below b w wx)
                case first => as_aux_lemma =>
                  have H42 := fun w => faint_any (s.extract p e) w (by simp; omega)
                  have H43 := fun w => within_any (s.extract p e) 13 w (by simp; omega)
                  obtain ⟨fb, hfb⟩ : ∃ x, faintE (s.extract p e) = x := ⟨_, rfl⟩
                  obtain ⟨wb, hwb⟩ : ∃ x, withE (s.extract p e) 13 = x := ⟨_, rfl⟩
                  rw [hfb] at H42
                  rw [hwb] at H43
                  clear hfb hwb
                  have c0 := HL2.c0
                  have c1 := HL2.c1
                  have q0 : (0 : Int) ≤ (p : Int) := Int.natCast_nonneg _
                  have q1 : (p : Int) ≤ (e : Int) := by omega
                  have q2 : (e : Int) ≤ (s.size : Int) := by omega
                  cases wb
                  all_goals
                    go_quiet (first | (go_at_call 42; refine Calls.quiet_of ((H42 _).mono (by rintro e w' ⟨rfl, rfl⟩; exact ⟨rfl, 0, rfl⟩))) | (go_at_call 43; refine Calls.quiet_of ((H43 _).mono (by rintro e w' ⟨rfl, rfl⟩; exact ⟨rfl, 0, rfl⟩))))
                    go_wp2_with fail
                    go_meet
                    exact ⟨_, rfl, HL2.below (below_drewN (Below.refl _ _) _), below_drewN HB2 _⟩
                case rest =>
                  obtain ⟨vb, rfl, HLY, HBY⟩ := hcut
                  go_upto_if 235 with (fail)
                  go_cut [] (fun wx => ∃ st : Int, (st = 0 ∨ st = 1) ∧ SpL s b p st wx ∧ Below b w wx)
                  case first => as_aux_lemma =>
                    cases vb with
                    | true =>
                      go_wp2_with fail
                      refine (stop_any s b p 1 0 _ HLY).mono ?_
                      rintro ev w6 ⟨⟨v, rfl⟩, hL6, hb6⟩
                      go_wp2_with fail
                      go_meet
                      exact ⟨0, .inl rfl, hL6, HBY.trans hb6⟩
                    | false =>
                      go_wp2_with fail
                      go_meet
                      exact ⟨1, .inr rfl, HLY, HBY⟩
                  case rest =>
                    obtain ⟨st, hst, HL5, HB5⟩ := hcut
                    clear HL2 HB2 HLY HBY H41
                    generalize wc = w5 at *
                    obtain ⟨tv, cv, wd, co, n1, n2, xs1, xs2, hI5⟩ := HL5
                    obtain ⟨i0, hi0, hz0, hz1, hz2⟩ := info_parts info75
                    have c1'5 := blk_cell hI5.blk 1
                    have c3 := blk_cell hI5.blk 3
                    simp at c1'5 c3
                    have lb5 := blk_lt hI5.blk
                    have z3 := blk_thaw hI5.blk 3
                    have z1 := blk_thaw hI5.blk 1
                    have hl1 := hI5.len1
                    have hbt : some b ≠ tv.ownBlock := fun e => by have := (ownBlock_ge hI5.own1 b e.symm).1; omega
                    have hw9 : IntKind.i64.wrap ((e : Int) + 3) = ((e + 3 : Nat) : Int) := by rw [IntWalk.i64_in _ (by omega)]; omega
                    go_wp2_with (at_builtin; (refine wpList_append_lies _ (by rfl) _ _ _ (by rfl) (b + 1) 75 i0 _ 3 32 Tryz.underlying24 hi0 hz0 hz1 hz2 rfl (by omega) tv n1 xs1 (by rfl) (hI5.own1.alloc _) ⟨w5.heap.size, 0, none⟩ 1 1 [.int .i64 4, .string out2, .int .i64 2] (by rfl) (by rfl) (World.news_of_block (cs := #[.int .i64 4, .string out2, .int .i64 2]) (t := 75) (fr := (0, 0)) (heap_alloc_new w5 _)) (by simp [Value.oneCell']) (by omega) (by unfold maxLen; omega) (by omega) (by simp; omega) (w5.heap.size + 1) (by simp) ?_); (intro gg cap w1 hown1 hgrow hat hlt1); (have hg' := grown_alloc0 hgrow); (have z3' : w1.frozen? ⟨b, 3, none⟩ = false := by rw [hg'.frozen_far _ lb5 hbt]; exact z3); (have c3' : w1.cell? ⟨b, 3, none⟩ = some tv := by rw [hg'.cell_far _ lb5 hbt]; exact c3); (have z1' : w1.frozen? ⟨b, 1, none⟩ = false := by rw [hg'.frozen_far _ lb5 hbt]; exact z1); (have c1' : w1.cell? ⟨b, 1, none⟩ = some (.int .i64 p) := by rw [hg'.cell_far _ lb5 hbt]; exact c1'5))
                    have hfin := hI5.grow1 (w1 := w1) (H := w5.heap.size + 1) hown1 hg' hat (by omega) (e + 3) (by omega)
                    go_end0
                    refine ⟨⟨_, rfl⟩, ⟨st, e + 3, ⟨_, _, _, _, _, _, _, _, hfin.1⟩, ?_⟩, below_set (below_set (HB5.trans (hfin.2)) _ _) _ _⟩
                    rcases hst with rfl | rfl
                    · exact .inl rfl
                    · exact .inr ⟨by rw [HRF.out], fun _ => by rw [HRF.out]⟩
end Go.Proofs.YtiicdalodfjgaaaGreatFmt
