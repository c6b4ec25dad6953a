/- The parser's lexer: symbols: operators. -/
import Derived.Test.YtiicdalodfjgaaaGreatFmtLb
import Derived.Test.YtiicdalodfjgaaaGreatFmtLxN
import Derived.Deep.CutBlock
namespace Go.Proofs.YtiicdalodfjgaaaGreatFmt
open Go.RowKit Go.Extern.Stop Go.Stop Go.Extern
variable {F : Interp} {s : ByteArray} {b p ts c : Nat} {w : World}

theorem LxL.set10 (h : LxL F s b p ts c w) (q : Nat) (h1 : ts ≤ q) (h2 : q ≤ s.size) : LxL F s b q ts c (w.setCell ⟨b, 10, none⟩ (.int .i64 q)) := by
  obtain ⟨d, m, sa, tv, fv, tl, tc, fr, ln, ls, n1, n2, xs1, xs2, h⟩ := h
  exact ⟨d, m, sa, tv, fv, tl, tc, fr, ln, ls, n1, n2, xs1, xs2, h.set10 q h1 h2⟩
theorem LxL.z10 (h : LxL F s b p ts c w) : w.frozen? ⟨b, 10, none⟩ = false := by
  obtain ⟨d, m, sa, tv, fv, tl, tc, fr, ln, ls, n1, n2, xs1, xs2, h⟩ := h
  exact blk_thaw h.blk 10
theorem hp_any (s : ByteArray) (p : Nat) (t : ByteArray) (hp : p ≤ s.size) (w : World) : Calls Tryz.prog 64 #[.string (s.extract p s.size), .string t] w fun e w' => e = .returned (.bool (begB s p t)) ∧ w' = w := by
  rw [← hp_beg s p t hp]
  exact Tryz.strings_HasPrefix _ _ w
theorem LB.dn {w1 : World} (h : LB F s b p ts c w w1) (n : Nat) : LB F s b p ts c w (w1.drewN n) := h.on (below_drewN (Below.refl _ w1) n)
set_option maxRecDepth 100000 in
set_option maxHeartbeats 6400000 in
theorem symD (h : LxL F s b p p c w) (hs : s.size ≤ 2000) (hc : c ≤ 90000) (hp : p < s.size) (hop : opB (gb s p) = true) (hcm : cmB s p = false) (hbar : begB s p bar3 = false) :
    Calls Tryz.prog 39 #[.pointer (some ⟨b, 0, none⟩)] w fun e w' => RdPost F s b (c + 2) (some (wind s p (scp s (symC s) (p + 1)))) w e w' := by
  have lb := h.lt
  obtain ⟨fr, c9⟩ := h.c9
  have hlow := opB_lt _ hop
  have hpk := pk_low s p hp hlow
  have HN : Hid (nx s p = p + 1) := Lib.hid (nx_low s p hp hlow)
  obtain ⟨x, hx⟩ : ∃ x, gb s p = x := ⟨_, rfl⟩
  have HX := Lib.hid hx
  have HP : Hid (pk s p = (x : Int)) := Lib.hid (by rw [hpk, hx])
  have h35 : ((x : Int) == 35) = false := by
    have := (opB_facts _ hop).2.1
    rw [hx] at this
    exact beq_eq_false_iff_ne.2 (by omega)
  have HOP := Lib.hid hop
  have HCM := Lib.hid hcm
  have HBR := Lib.hid hbar
  clear hpk hx hop hcm hbar
  obtain ⟨E, hE⟩ : ∃ E, scp s (symC s) (p + 1) = E := ⟨_, rfl⟩
  have hEb := sym_le s p hp
  rw [hE] at hEb
  rw [hE]
  have HE := Lib.hid hE
  obtain ⟨W, hW⟩ : ∃ W, wind s p E = W := ⟨_, rfl⟩
  rw [hW]
  have HW := Lib.hid hW
  clear hE hW
  go_enter Tryz.func39, Tryz.ntmps39
  go_upto_region 3 with (go_at_call 27; refine (next_any h hs).mono ?_; intro e w1 hnx; unfold NxPost at hnx; obtain ⟨rfl, hL1, hb1, hg1⟩ := hnx; rw [HN.out] at hL1; rw [HP.out]; have hB1 := LB.to (LB.refl h) hL1 hb1)
  have hn47 : x = 47 → pk s (p + 1) ≠ 47 ∧ pk s (p + 1) ≠ 42 := fun hx => by
    have h1 := HCM.out
    unfold cmB at h1
    rw [HX.out, hx] at h1
    simp at h1
    exact ⟨fun e => h1.1 ((pk_eq s (p + 1) 47 (by omega)).1 e).2, fun e => h1.2 ((pk_eq s (p + 1) 42 (by omega)).1 e).2⟩
  have hn124 : x = 124 → begB s (p + 1) ⟨#[124, 124]⟩ = false := fun hx => by
    have h1 := HBR.out
    cases h2 : begB s (p + 1) ⟨#[124, 124]⟩ with
    | false => rfl
    | true =>
      obtain ⟨h3, h4, h5⟩ := (beg2 s (p + 1) 124 124).1 h2
      have := (beg3 s p 124 124 124).2 ⟨by omega, by rw [HX.out, hx]; rfl, h4, h5⟩
      rw [this] at h1
      cases h1
  have HN47 := Lib.hid hn47
  have HN124 := Lib.hid hn124
  clear hn47 hn124
  go_cut [43] from 33 to 43 (fun v wx => v = .bool false ∧ LB F s b (p + 1) p c w wx)
  case first => as_aux_lemma =>
    by_cases h47 : x = 47
    · subst h47
      have hne : (pk s (p + 1) == 47) = false := beq_eq_false_iff_ne.2 (HN47.out rfl).1
      go_wp2_with (go_at_call 26; refine (peek_lx hB1.lx).mono ?_; rintro e w2 ⟨rfl, hb2⟩; have hB2 := hB1.on hb2)
      go_meet
      exact ⟨rfl, hB2⟩
    · have h47' : ((x : Int) == 47) = false := beq_eq_false_iff_ne.2 (by omega)
      go_wp2_with fail
      go_meet
      exact ⟨rfl, hB1⟩
  case rest =>
    clear hB1 hL1 hb1 hg1
    obtain ⟨rfl, hB1⟩ := hcut
    go_upto_region 11 with (fail)
    go_cut [67] from 61 to 67 (fun v wx => v = .bool false ∧ LB F s b (p + 1) p c w wx)
    case first => as_aux_lemma =>
      by_cases h47 : x = 47
      · subst h47
        have hne : (pk s (p + 1) == 42) = false := beq_eq_false_iff_ne.2 (HN47.out rfl).2
        go_wp2_with (go_at_call 26; refine (peek_lx hB1.lx).mono ?_; rintro e w2 ⟨rfl, hb2⟩; have hB2 := hB1.on hb2)
        go_meet
        exact ⟨rfl, hB2⟩
      · have h47' : ((x : Int) == 47) = false := beq_eq_false_iff_ne.2 (by omega)
        go_wp2_with fail
        go_meet
        exact ⟨rfl, hB1⟩
    case rest =>
      clear hB1
      obtain ⟨rfl, hB1⟩ := hcut
      go_upto_region 49 with (fail)
      go_cut [209] from 195 to 209 (fun v wx => v = .bool false ∧ LB F s b (p + 1) p c w wx)
      case first => as_aux_lemma =>
        by_cases h124 : x = 124
        · subst h124
          have hpf := HN124.out rfl
          have H64 := fun w => hp_any s (p + 1) ⟨#[124, 124]⟩ (by omega) w
          rw [hpf] at H64
          have c2 := hB1.lx.c2
          have c10 := hB1.lx.c10
          have q0 : (0 : Int) ≤ ((p + 1 : Nat) : Int) := by omega
          have q1 : ((p + 1 : Nat) : Int) ≤ (s.size : Int) := by omega
          clear hpf
          go_quiet ((go_at_call 64; exact Calls.quiet_of_same (H64 _)))
          go_wp2_with fail
          go_meet
          exact ⟨rfl, hB1.dn _⟩
        · have h124' : ((x : Int) == 124) = false := beq_eq_false_iff_ne.2 (by omega)
          go_quiet (fail)
          go_wp2_with fail
          go_meet
          exact ⟨rfl, hB1.dn _⟩
      case rest =>
        clear hB1
        obtain ⟨rfl, hB1⟩ := hcut
        go_upto_block 18 with (go_at_call 26; refine (peek_lx hB1.lx).mono ?_; rintro e w2 ⟨rfl, hb2⟩; have hB2 := hB1.on hb2)
        clear hB1 hb2
        go_cut [4] from 386 to 436 (fun r wx => (∃ v : Int, r = .int .i32 v) ∧ LB F s b E p c w wx)
        case first => as_aux_lemma =>
          go_wp2_with fail
          go_loopg [4] (s.size + 1) (fun k r wr => ∃ j : Nat, r = .int .i32 (pk s j) ∧ p + 1 ≤ j ∧ j ≤ s.size ∧ s.size - j < k ∧ Hid (scp s (symC s) j = E) ∧ LB F s b j p c w wr)
          case atStart => exact ⟨p + 1, rfl, Nat.le_refl _, by omega, by omega, HE, hB2⟩
          case round =>
            clear hB2
            obtain ⟨j, rfl, hpj, hj, hk, HS, hB⟩ := hrel
            obtain ⟨k, rfl⟩ : ∃ m, gk = m + 1 := ⟨gk - 1, by omega⟩
            have hsy := symR_pk s j
            by_cases hop : j < s.size ∧ opB (gb s j) = true
            · obtain ⟨hlt, hopj⟩ := hop
              have hsy' : symR (pk s j) = true := by rw [hsy]; simp [hlt, hopj]
              have hlowj := opB_lt _ hopj
              have hpkj := pk_low s j hlt hlowj
              have hnj := nx_low s j hlt hlowj
              obtain ⟨y, hy⟩ : ∃ y, gb s j = y := ⟨_, rfl⟩
              rw [hy] at hpkj
              rw [hpkj] at hsy'
              rw [hpkj]
              have HY := Lib.hid hy
              have HOJ := Lib.hid hopj
              have HNJ := Lib.hid hnj
              have c2 := hB.lx.c2
              have c10 := hB.lx.c10
              have q0 : (0 : Int) ≤ (j : Int) := by omega
              have q1 : (j : Int) ≤ (s.size : Int) := by omega
              clear hsy hpkj hy hopj hnj
              by_cases h47 : y = 47
              · as_aux_lemma =>
                subst h47
                have HEJ : Hid (j = E) := Lib.hid (by
                  rw [← HS.out, scp_stop s (symC s) j]
                  intro hh
                  have h2 := hh.2
                  unfold symC at h2
                  rw [HY.out] at h2
                  simp at h2)
                have H64 := fun w => hp_any s j ⟨#[47]⟩ hj w
                rw [(beg1 s j 47).2 ⟨hlt, HY.out⟩] at H64
                go_wp2_with (go_at_call 38; refine (sym_any _ _).mono ?_; rintro e w3 ⟨rfl, rfl⟩)
                go_quiet ((go_at_call 64; exact Calls.quiet_of_same (H64 _)))
                go_wp2_with fail
                go_meet
                rw [← HEJ.out]
                exact ⟨⟨_, rfl⟩, hB.dn _⟩
              · have h47' : ((y : Int) == 47) = false := beq_eq_false_iff_ne.2 (by omega)
                by_cases h124 : y = 124
                · subst h124
                  have H64 := fun w => hp_any s j ⟨#[124, 124]⟩ hj w
                  cases hb2 : begB s j ⟨#[124, 124]⟩ with
                  | true => as_aux_lemma =>
                    rw [hb2] at H64
                    have HEJ : Hid (j = E) := Lib.hid (by
                      rw [← HS.out, scp_stop s (symC s) j]
                      intro hh
                      have h2 := hh.2
                      unfold symC at h2
                      rw [hb2] at h2
                      simp at h2)
                    clear hb2
                    go_wp2_with (go_at_call 38; refine (sym_any _ _).mono ?_; rintro e w3 ⟨rfl, rfl⟩)
                    go_quiet (fail)
                    have hBa := hB.dn nq
                    generalize wr.drewN nq = wa at *
                    go_wp2_with fail
                    go_quiet (fail)
                    have hBb := hBa.dn nq
                    generalize wa.drewN nq = wb at *
                    have d2 := hBb.lx.c2
                    have d10 := hBb.lx.c10
                    go_wp2_with fail
                    go_quiet ((go_at_call 64; exact Calls.quiet_of_same (H64 _)))
                    go_wp2_with fail
                    go_meet
                    rw [← HEJ.out]
                    exact ⟨⟨_, rfl⟩, hBb.dn _⟩
                  | false => as_aux_lemma =>
                    rw [hb2] at H64
                    have HEJ : Hid (scp s (symC s) (j + 1) = E) := Lib.hid (by
                      rw [← HS.out, scp_step s (symC s) j hlt]
                      unfold symC
                      rw [hb2, HOJ.out, HY.out]
                      rfl)
                    clear hb2
                    go_wp2_with (go_at_call 38; refine (sym_any _ _).mono ?_; rintro e w3 ⟨rfl, rfl⟩)
                    go_quiet (fail)
                    have hBa := hB.dn nq
                    generalize wr.drewN nq = wa at *
                    go_wp2_with fail
                    go_quiet (fail)
                    have hBb := hBa.dn nq
                    generalize wa.drewN nq = wb at *
                    have d2 := hBb.lx.c2
                    have d10 := hBb.lx.c10
                    go_wp2_with fail
                    go_quiet ((go_at_call 64; exact Calls.quiet_of_same (H64 _)))
                    go_wp2_with (first | (go_at_call 27; refine (next_any (hBb.dn _).lx hs).mono ?_; intro e w5 hnx; unfold NxPost at hnx; obtain ⟨rfl, hL5, hb5, hg5⟩ := hnx; rw [HNJ.out] at hL5; have hB5 := (hBb.dn _).to hL5 hb5) | (go_at_call 26; refine (peek_lx hB5.lx).mono ?_; rintro e w6 ⟨rfl, hb6⟩; have hB6 := hB5.on hb6))
                    go_roundg k
                    case measure => omega
                    case rel => exact ⟨j + 1, rfl, by omega, by omega, by omega, HEJ, hB6⟩
                · as_aux_lemma =>
                  have h124' : ((y : Int) == 124) = false := beq_eq_false_iff_ne.2 (by omega)
                  have HEJ : Hid (scp s (symC s) (j + 1) = E) := Lib.hid (by
                    rw [← HS.out, scp_step s (symC s) j hlt]
                    unfold symC
                    have hnb : begB s j ⟨#[124, 124]⟩ = false := by
                      cases hbb : begB s j ⟨#[124, 124]⟩ with
                      | false => rfl
                      | true =>
                        have h3 := ((beg2 s j 124 124).1 hbb).2.1
                        rw [HY.out] at h3
                        exact absurd h3 h124
                    rw [hnb, HOJ.out, HY.out, show (y == 47) = false from beq_eq_false_iff_ne.2 h47]
                    rfl)
                  go_wp2_with (go_at_call 38; refine (sym_any _ _).mono ?_; rintro e w3 ⟨rfl, rfl⟩)
                  go_quiet (fail)
                  have hBa := hB.dn nq
                  generalize wr.drewN nq = wa at *
                  go_wp2_with fail
                  go_quiet (fail)
                  have hBb := hBa.dn nq
                  generalize wa.drewN nq = wb at *
                  go_wp2_with fail
                  go_quiet (fail)
                  go_wp2_with (first | (go_at_call 27; refine (next_any (hBb.dn _).lx hs).mono ?_; intro e w5 hnx; unfold NxPost at hnx; obtain ⟨rfl, hL5, hb5, hg5⟩ := hnx; rw [HNJ.out] at hL5; have hB5 := (hBb.dn _).to hL5 hb5) | (go_at_call 26; refine (peek_lx hB5.lx).mono ?_; rintro e w6 ⟨rfl, hb6⟩; have hB6 := hB5.on hb6))
                  go_roundg k
                  case measure => omega
                  case rel => exact ⟨j + 1, rfl, by omega, by omega, by omega, HEJ, hB6⟩
            · as_aux_lemma =>
              have hsy' : symR (pk s j) = false := by
                rw [hsy, Bool.eq_false_iff]
                intro hh
                exact hop (by simpa using hh)
              have HEJ : Hid (j = E) := Lib.hid (by
                rw [← HS.out, scp_stop s (symC s) j]
                intro hh
                have h2 := hh.2
                unfold symC at h2
                cases hoo : opB (gb s j) with
                | true => exact hop ⟨hh.1, hoo⟩
                | false => rw [hoo] at h2; cases h2)
              obtain ⟨r, hr⟩ : ∃ x, pk s j = x := ⟨_, rfl⟩
              rw [hr] at hsy'
              rw [hr]
              clear hop hsy hr
              go_wp2_with (go_at_call 38; refine (sym_any _ _).mono ?_; rintro e w3 ⟨rfl, rfl⟩)
              go_meet
              rw [← HEJ.out]
              exact ⟨⟨_, rfl⟩, hB⟩
        case rest =>
          clear hB2
          obtain ⟨⟨rv, rfl⟩, hBE⟩ := hcut
          go_upto_region 110 with (fail)
          have c2 := hBE.lx.c2
          have c10 := hBE.lx.c10
          have hE1 : E - 1 < s.size := by omega
          have hw1 : IntKind.i64.wrap ((E : Int) - 1) = ((E - 1 : Nat) : Int) := by rw [IntWalk.i64_in _ (by omega)]; omega
          have q0 : (0 : Int) ≤ ((E - 1 : Nat) : Int) := by omega
          have q1 : ((E - 1 : Nat) : Int) < (s.size : Int) := by omega
          have hgb : ∀ h : E - 1 < s.size, (s[E - 1]'h).toNat = gb s (E - 1) := fun h => (gb_in s (E - 1) h).symm
          obtain ⟨z, hz⟩ : ∃ z, gb s (E - 1) = z := ⟨_, rfl⟩
          rw [hz] at hgb
          have HZ := Lib.hid hz
          have hz8 : z < 256 := by rw [← hz]; exact gb_lt s (E - 1)
          clear hz
          go_quiet (fail)
          have hBa := hBE.dn nq
          generalize wc.drewN nq = wa at *
          clear c2 c10 hE1 hw1 q0 q1 hgb hBE
          go_upto_block 20 with (fail)
          go_cut [] from 449 to 475 (fun wx => LB F s b W p c w wx)
          case first => as_aux_lemma =>
            go_wp2_with fail
            go_loopg [] (E + 1) (fun k wr => ∃ j : Nat, p + 1 ≤ j ∧ j ≤ E ∧ j < k ∧ Hid (trimB z = false → j = E) ∧ LB F s b j p c w wr)
            case atStart => exact ⟨E, by omega, Nat.le_refl _, by omega, Lib.hid (fun _ => rfl), hBa⟩
            case round =>
              clear hBa
              obtain ⟨j, hpj, hjE, hk, HJ, hB⟩ := hrel
              obtain ⟨k, rfl⟩ : ∃ m, gk = m + 1 := ⟨gk - 1, by omega⟩
              have c6 := hB.lx.c6
              have c10 := hB.lx.c10
              have hw1 : IntKind.i64.wrap ((p : Int) + 1) = ((p + 1 : Nat) : Int) := by rw [IntWalk.i64_in _ (by omega)]; omega
              by_cases hgo : p + 1 < j
              · have q1 : decide (((p + 1 : Nat) : Int) < (j : Int)) = true := by simp; omega
                have q3 : (p : Int) + 1 < (j : Int) := by omega
                by_cases htr : trimB z = true
                · have hzc : z = 43 ∨ z = 45 ∨ z = 126 ∨ z = 33 ∨ z = 36 := by unfold trimB at htr; simp at htr; omega
                  obtain ⟨i, rfl⟩ : ∃ i, j = i + 1 := ⟨j - 1, by omega⟩
                  have hw2 : IntKind.i64.wrap (((i + 1 : Nat) : Int) - 1) = (i : Int) := by rw [IntWalk.i64_in _ (by omega)]; omega
                  have HTR := Lib.hid htr
                  clear htr
                  go_wp2_with fail
                  go_quiet (fail)
                  have hBd := hB.dn nq
                  generalize wr.drewN nq = wd at *
                  have d10 := hBd.lx.c10
                  have z10 := hBd.lx.z10
                  rcases hzc with rfl | rfl | rfl | rfl | rfl
                  all_goals (
                    go_wp2_with fail
                    go_roundg k
                    case measure => omega
                    case rel => exact ⟨i, by omega, by omega, by omega, Lib.hid (fun h => by rw [HTR.out] at h; cases h), hBd.lx.set10 i (by omega) (by omega), below_set hBd.be _ _⟩)
                · have htr' : trimB z = false := by simpa using htr
                  have hjE2 := HJ.out htr'
                  have HWJ : Hid (W = j) := Lib.hid (by rw [← HW.out]; unfold wind; rw [HZ.out, htr', if_neg (by simp)]; exact hjE2.symm)
                  have hz1 : ((z : Int) == 43) = false ∧ ((z : Int) == 45) = false ∧ ((z : Int) == 126) = false ∧ ((z : Int) == 33) = false ∧ ((z : Int) == 36) = false := by
                    unfold trimB at htr'
                    simp at htr'
                    refine ⟨beq_eq_false_iff_ne.2 ?_, beq_eq_false_iff_ne.2 ?_, beq_eq_false_iff_ne.2 ?_, beq_eq_false_iff_ne.2 ?_, beq_eq_false_iff_ne.2 ?_⟩
                    all_goals omega
                  obtain ⟨z1, z2, z3, z4, z5⟩ := hz1
                  clear htr htr' hjE2
                  go_wp2_with fail
                  go_quiet (fail)
                  have hBd := hB.dn nq
                  generalize wr.drewN nq = wd at *
                  go_wp2_with fail
                  go_meet
                  rw [HWJ.out]
                  exact hBd
              · have q1 : decide (((p + 1 : Nat) : Int) < (j : Int)) = false := by simp; omega
                have q3 : (j : Int) ≤ (p : Int) + 1 := by omega
                have q4 : ¬ (p : Int) + 1 < (j : Int) := by omega
                have hjp : j = p + 1 := by omega
                have HWJ : Hid (W = j) := Lib.hid (by
                  rw [← HW.out]
                  unfold wind
                  rw [HZ.out]
                  by_cases htr : trimB z = true
                  · rw [if_pos htr, hjp]
                  · rw [if_neg htr]
                    exact (HJ.out (by simpa using htr)).symm)
                clear hjp hgo
                go_wp2_with fail
                go_quiet (fail)
                have hBd := hB.dn nq
                generalize wr.drewN nq = wd at *
                go_wp2_with fail
                go_meet
                rw [HWJ.out]
                exact hBd
          case rest =>
            clear hBa
            have hBW := hcut
            clear hcut
            have hWb : p + 1 ≤ W ∧ W ≤ E := by
              rw [← HW.out]
              unfold wind
              split <;> omega
            go_upto_region 119 with (fail)
            have c2 := hBW.lx.c2
            have c6 := hBW.lx.c6
            have c10 := hBW.lx.c10
            have q0 : (0 : Int) ≤ (p : Int) := by omega
            have q1 : (p : Int) ≤ (W : Int) := by omega
            have q2 : (W : Int) ≤ (s.size : Int) := by omega
            obtain ⟨vd, hvd⟩ : ∃ v, ((s.extract p W).toList == [36]) = v := ⟨_, rfl⟩
            go_quiet (fail)
            have hBd := hBW.dn nq
            generalize wc.drewN nq = wd at *
            clear c2 c6 c10 q0 q1 q2 hBW
            cases vd
            all_goals (
              go_wp2_with (go_at_call 30; refine (emit_any _ hBd.lx (by omega)).mono ?_; rintro e we ⟨⟨ve, rfl⟩, hLe, hbe⟩; have hBe := hBd.to hLe hbe)
              go_ret
              exact rd_some rfl (hBe.mor (by omega)))
end Go.Proofs.YtiicdalodfjgaaaGreatFmt
