/- The reference's lexer: numbers. -/
import Derived.Test.YtiicdalodfjgaaaGreatFmtSpB
import Derived.Deep.DeepCutAuto
namespace Go.Proofs.YtiicdalodfjgaaaGreatFmt
open Go.RowKit

theorem letter_any (c : Nat) (w : World) : Calls Tryz.prog 17 #[.int .u8 c] w fun e w' => e = .returned (.bool (letB c)) ∧ w = w' := by
  go_enter Tryz.func17, Tryz.ntmps17
  go_wp2
  all_goals
    go_ret
    refine ⟨ret_bool ?_, rfl⟩
    rw [Bool.eq_iff_iff]
    simp [letB]
    try omega

def NuPost (s : ByteArray) (b p : Nat) (r : Option Nat) (w : World) (e : Ending) (w' : World) : Prop :=
  (∃ v, e = .returned v) ∧ (match r with | some q => SpL s b q 1 w' | none => SpL s b p 0 w') ∧ Below b w w'
set_option maxRecDepth 100000 in
set_option maxHeartbeats 6400000 in
theorem number_any (s : ByteArray) (b p : Nat) (w : World) (h : SpL s b p 1 w) (hp : p < s.size) (hd : digB (gb s p) = true) (hs : s.size ≤ 2000) :
    Calls Tryz.prog 16 #[.pointer (some ⟨b, 0, none⟩)] w fun e w' => NuPost s b p (numS s p) w e w' := by
  have HL := h
  obtain ⟨tv, cv, wd, co, n1, n2, xs1, xs2, hI⟩ := h
  have c0 := blk_cell hI.blk 0
  have c1 := blk_cell hI.blk 1
  simp at c0 c1
  have hgb : ∀ h : p < s.size, (s[p]'h).toNat = gb s p := fun h => (gb_in s p h).symm
  have hA : p < numA s p ∧ numA s p ≤ s.size := by
    unfold numA
    split
    · omega
    · rw [scan_step s digB p hp hd]
      have := scan_bounds s digB (p + 1) (by omega)
      omega
  obtain ⟨ea, hea⟩ : ∃ x, numA s p = x := ⟨_, rfl⟩
  go_enter Tryz.func16, Tryz.ntmps16
  go_wp2_with fail
  refine (digits_any s b p 1 p w HL (by omega) hs).mono ?_
  rintro e w1 ⟨rfl, rfl⟩
  go_upto_region 1 with (fail)
  have hp0 : (0 : Int) ≤ (p : Int) := Int.natCast_nonneg _
  have hp1 : (p : Int) < (s.size : Int) := by omega
  go_quiet (fail)
  go_upto_if 19 with (fail)
  go_cut [2] (fun v wx => v = .int .i64 ea ∧ ∃ n, wx = w.drewN n)
  case first => as_aux_lemma =>
    by_cases h48 : gb s p = 48
    · have t : ((gb s p : Int) == 48) = true := by simp; omega
      go_wp2_with fail
      go_meet
      exact ⟨by rw [← hea]; unfold numA; rw [if_pos h48]; rfl, _, rfl⟩
    · have t : ((gb s p : Int) == 48) = false := by simp; omega
      go_wp2_with fail
      go_meet
      exact ⟨by rw [← hea]; unfold numA; rw [if_neg h48], _, rfl⟩
  case rest =>
    obtain ⟨rfl, n, rfl⟩ := hcut
    have HL2 : SpL s b p 1 (w.drewN n) := HL.below (below_drewN (Below.refl w.heap.size w) n)
    have c0' : (w.drewN n).cell? ⟨b, 0, none⟩ = some (.string s) := c0
    have c1' : (w.drewN n).cell? ⟨b, 1, none⟩ = some (.int .i64 p) := c1
    have hB2 : Below b w (w.drewN n) := below_drewN (Below.refl b w) n
    generalize w.drewN n = w2 at HL2 c0' c1' hB2
    clear HL c0 c1 hI hgb hp0 hp1
    rw [hea] at hA
    have HR : Hid (numS s p = match numC s (numB s ea) with | none => none | some e => if tailB s e = true then none else some e) := Lib.hid (by unfold numS; rw [hea]; rfl)
    clear hea
    obtain ⟨res, hres⟩ : ∃ r, numS s p = r := ⟨_, rfl⟩
    rw [hres] at HR
    have HRES := Lib.hid hres
    clear hres
    have hgb : ∀ h : ea < s.size, (s[ea]'h).toNat = gb s ea := fun h => (gb_in s ea h).symm
    have hgb1 : ∀ h : ea + 1 < s.size, (s[ea + 1]'h).toNat = gb s (ea + 1) := fun h => (gb_in s (ea + 1) h).symm
    go_upto_region 3 with (fail)
    go_cut [51] (fun v wx => v = .bool (fracB s ea) ∧ wx = w2)
    case first => as_aux_lemma =>
      by_cases a1 : ea + 1 < s.size
      · by_cases a2 : gb s ea = 46
        · have t : ((gb s ea : Int) == 46) = true := by simp; omega
          have HF : Hid (digB (gb s (ea + 1)) = fracB s ea) := Lib.hid (by unfold fracB; simp [a1, a2])
          clear a2
          go_wp2_with (go_at_call 15; refine (digit_any _ _).mono ?_; rintro e w' ⟨rfl, rfl⟩)
          go_meet
          exact ⟨by rw [← HF.out]; rfl, rfl⟩
        · have t : ((gb s ea : Int) == 46) = false := by simp; omega
          have HF : Hid (false = fracB s ea) := Lib.hid (by unfold fracB; simp [a2])
          clear a2
          go_wp2_with fail
          go_meet
          exact ⟨by rw [← HF.out], rfl⟩
      · have HF : Hid (false = fracB s ea) := Lib.hid (by unfold fracB; simp [a1])
        go_wp2_with fail
        go_meet
        exact ⟨by rw [← HF.out], rfl⟩
    case rest =>
      obtain ⟨rfl, rfl⟩ := hcut
      obtain ⟨eb, heb⟩ : ∃ x, numB s ea = x := ⟨_, rfl⟩
      rw [heb] at HR
      have hEB : p < eb ∧ eb ≤ s.size := by
        rw [← heb]
        unfold numB
        split
        · rename_i hfr
          have ha : ea + 1 < s.size := by unfold fracB at hfr; simp at hfr; exact hfr.1.1
          have := scan_bounds s digB (ea + 1) (by omega)
          omega
        · exact hA
      go_upto_if 51 with (fail)
      go_cut [2] (fun v wx => v = .int .i64 eb ∧ wx = wc)
      case first => as_aux_lemma =>
        cases hfr : fracB s ea with
        | true =>
          have ha : ea + 1 < s.size := by unfold fracB at hfr; simp at hfr; exact hfr.1.1
          go_wp2_with fail
          refine (digits_any s b p 1 (ea + 1) wc HL2 (by omega) hs).mono ?_
          rintro e w9 ⟨rfl, rfl⟩
          go_wp2_with fail
          go_meet
          exact ⟨by rw [← heb]; unfold numB; rw [if_pos hfr], rfl⟩
        | false =>
          go_wp2_with fail
          go_meet
          exact ⟨by rw [← heb]; unfold numB; rw [hfr]; rfl, rfl⟩
      case rest =>
        obtain ⟨rfl, rfl⟩ := hcut
        clear heb hA hgb hgb1
        have hgb : ∀ h : eb < s.size, (s[eb]'h).toNat = gb s eb := fun h => (gb_in s eb h).symm
        go_upto_region 5 with (fail)
        go_cut [80] (fun v wx => v = .bool (expB s eb) ∧ wx = wc)
        case first => as_aux_lemma =>
          by_cases a1 : eb < s.size
          · by_cases a2 : gb s eb = 101
            · have t : ((gb s eb : Int) == 101) = true := by simp; omega
              have HF : Hid (true = expB s eb) := Lib.hid (by unfold expB; simp [a1, a2])
              clear a2
              go_wp2_with fail
              go_meet
              exact ⟨by rw [← HF.out], rfl⟩
            · have t : ((gb s eb : Int) == 101) = false := by simp; omega
              by_cases a3 : gb s eb = 69
              · have t' : ((gb s eb : Int) == 69) = true := by simp; omega
                have HF : Hid (true = expB s eb) := Lib.hid (by unfold expB; simp [a1, a3])
                clear a2 a3
                go_wp2_with fail
                go_meet
                exact ⟨by rw [← HF.out], rfl⟩
              · have t' : ((gb s eb : Int) == 69) = false := by simp; omega
                have HF : Hid (false = expB s eb) := Lib.hid (by unfold expB; simp [a2, a3])
                clear a2 a3
                go_wp2_with fail
                go_meet
                exact ⟨by rw [← HF.out], rfl⟩
          · have HF : Hid (false = expB s eb) := Lib.hid (by unfold expB; simp [a1])
            go_wp2_with fail
            go_meet
            exact ⟨by rw [← HF.out], rfl⟩
        case rest =>
          obtain ⟨rfl, rfl⟩ := hcut
          go_upto_if 80 with (fail)
          go_cut [2] (fun v wx => ∃ ec : Nat, numC s eb = some ec ∧ v = .int .i64 ec ∧ wx = wc)
          case first => as_aux_lemma =>
            cases hx : expB s eb with
            | false =>
              go_wp2_with fail
              go_meet
              exact ⟨eb, by unfold numC; rw [hx]; rfl, rfl, rfl⟩
            | true =>
              have hgk : ∀ h : eb + 1 < s.size, (s[eb + 1]'h).toNat = gb s (eb + 1) := fun h => (gb_in s (eb + 1) h).symm
              have hebl : eb < s.size := by unfold expB at hx; simp at hx; exact hx.1
              have HX := Lib.hid hx
              clear hx
              go_upto_region 7 with (fail)
              go_cut [107] (fun v wx => v = .bool (sgnB s (eb + 1)) ∧ wx = wc)
              case first => as_aux_lemma =>
                by_cases a1 : eb + 1 < s.size
                · by_cases a2 : gb s (eb + 1) = 43
                  · have t : ((gb s (eb + 1) : Int) == 43) = true := by simp; omega
                    have HF : Hid (true = sgnB s (eb + 1)) := Lib.hid (by unfold sgnB; simp [a1, a2])
                    clear a2
                    go_wp2_with fail
                    go_meet
                    exact ⟨by rw [← HF.out], rfl⟩
                  · have t : ((gb s (eb + 1) : Int) == 43) = false := by simp; omega
                    by_cases a3 : gb s (eb + 1) = 45
                    · have t' : ((gb s (eb + 1) : Int) == 45) = true := by simp; omega
                      have HF : Hid (true = sgnB s (eb + 1)) := Lib.hid (by unfold sgnB; simp [a1, a3])
                      clear a2 a3
                      go_wp2_with fail
                      go_meet
                      exact ⟨by rw [← HF.out], rfl⟩
                    · have t' : ((gb s (eb + 1) : Int) == 45) = false := by simp; omega
                      have HF : Hid (false = sgnB s (eb + 1)) := Lib.hid (by unfold sgnB; simp [a2, a3])
                      clear a2 a3
                      go_wp2_with fail
                      go_meet
                      exact ⟨by rw [← HF.out], rfl⟩
                · have HF : Hid (false = sgnB s (eb + 1)) := Lib.hid (by unfold sgnB; simp [a1])
                  go_wp2_with fail
                  go_meet
                  exact ⟨by rw [← HF.out], rfl⟩
              case rest =>
                obtain ⟨rfl, rfl⟩ := hcut
                obtain ⟨k, hk⟩ : ∃ k, numK s eb = k := ⟨_, rfl⟩
                go_upto_if 107 with (fail)
                go_cut [3] (fun v wx => v = .int .i64 k ∧ wx = wc)
                case first => as_aux_lemma =>
                  cases hs1 : sgnB s (eb + 1) with
                  | true =>
                    go_wp2_with fail
                    go_meet
                    exact ⟨by rw [← hk]; unfold numK; rw [hs1]; rfl, rfl⟩
                  | false =>
                    go_wp2_with fail
                    go_meet
                    exact ⟨by rw [← hk]; unfold numK; rw [hs1]; rfl, rfl⟩
                case rest =>
                  obtain ⟨rfl, rfl⟩ := hcut
                  have hkb : eb + 1 ≤ k ∧ k ≤ eb + 2 := by rw [← hk]; unfold numK; split <;> omega
                  have HK := Lib.hid hk
                  clear hk hgk
                  have hgk : ∀ h : k < s.size, (s[k]'h).toNat = gb s k := fun h => (gb_in s k h).symm
                  by_cases a1 : k < s.size
                  · by_cases a2 : nuB (gb s k : Int) = true
                    · go_wp2_with (go_at_call 15; refine (digit_any _ _).mono ?_; rintro e w' ⟨rfl, rfl⟩)
                      refine (digits_any s b p 1 k wc HL2 (by omega) hs).mono ?_
                      rintro e w9 ⟨rfl, rfl⟩
                      go_wp2_with fail
                      go_meet
                      exact ⟨scan s digB k, by unfold numC; rw [HX.out, if_pos rfl, HK.out, if_pos ⟨a1, a2⟩], rfl, rfl⟩
                    · have a3 : nuB (gb s k : Int) = false := by simpa using a2
                      have HN : Hid (none = res) := Lib.hid (by rw [HR.out]; unfold numC; rw [HX.out, if_pos rfl, HK.out, if_neg (fun h => a2 h.2)])
                      go_wp2_with (go_at_call 15; refine (digit_any _ _).mono ?_; rintro e w' ⟨rfl, rfl⟩)
                      refine (stop_any s b p 1 0 _ HL2).mono ?_
                      rintro e w9 ⟨⟨v, rfl⟩, hL9, hb9⟩
                      go_wp2_with fail
                      (try simp only [Exit.inBlock, Exit.then]); refine bodyPost_ret (results_none rfl _ _ _) rfl ?_
                      unfold NuPost
                      rw [HRES.out, ← HN.out]
                      exact ⟨⟨_, rfl⟩, hL9, hB2.trans hb9⟩
                  · have HN : Hid (none = res) := Lib.hid (by rw [HR.out]; unfold numC; rw [HX.out, if_pos rfl, HK.out, if_neg (fun h => a1 h.1)])
                    go_wp2_with fail
                    refine (stop_any s b p 1 0 _ HL2).mono ?_
                    rintro e w9 ⟨⟨v, rfl⟩, hL9, hb9⟩
                    go_wp2_with fail
                    (try simp only [Exit.inBlock, Exit.then]); refine bodyPost_ret (results_none rfl _ _ _) rfl ?_
                    unfold NuPost
                    rw [HRES.out, ← HN.out]
                    exact ⟨⟨_, rfl⟩, hL9, hB2.trans hb9⟩
          case rest =>
            obtain ⟨ec, hec, rfl, rfl⟩ := hcut
            rw [hec] at HR
            have hEC : p < ec ∧ ec ≤ s.size := by
              unfold numC at hec
              split at hec
              · rename_i hx
                have hebl : eb < s.size := by unfold expB at hx; simp at hx; exact hx.1
                split at hec
                · rename_i hk
                  injection hec with hec
                  have h1 := scan_bounds s digB (numK s eb) (by omega)
                  have h2 : eb + 1 ≤ numK s eb := by unfold numK; split <;> omega
                  omega
                · cases hec
              · injection hec with hec
                omega
            clear hec hgb
            have hgb : ∀ h : ec < s.size, (s[ec]'h).toNat = gb s ec := fun h => (gb_in s ec h).symm
            go_upto_region 12 with (fail)
            go_cut [165] (fun v wx => v = .bool (tailB s ec) ∧ wx = wc)
            case first => as_aux_lemma =>
              by_cases a1 : ec < s.size
              · by_cases a2 : gb s ec = 46
                · have t : ((gb s ec : Int) == 46) = true := by simp; omega
                  have HF : Hid (true = tailB s ec) := Lib.hid (by unfold tailB; simp [a1, a2])
                  clear a2
                  go_wp2_with fail
                  go_meet
                  exact ⟨by rw [← HF.out], rfl⟩
                · have t : ((gb s ec : Int) == 46) = false := by simp; omega
                  cases hl : letB (gb s ec) with
                  | true =>
                    have HF : Hid (true = tailB s ec) := Lib.hid (by unfold tailB; simp [a1, hl])
                    clear a2
                    go_wp2_with (go_at_call 17; refine (letter_any _ _).mono ?_; rintro e w' ⟨rfl, rfl⟩)
                    go_meet
                    exact ⟨by rw [← HF.out], rfl⟩
                  | false =>
                    have HF : Hid (nuB (gb s ec : Int) = tailB s ec) := Lib.hid (by unfold tailB digB; simp [a1, a2, hl])
                    clear a2
                    go_wp2_with (first | (go_at_call 17; refine (letter_any _ _).mono ?_; rintro e w' ⟨rfl, rfl⟩) | (go_at_call 15; refine (digit_any _ _).mono ?_; rintro e w' ⟨rfl, rfl⟩))
                    go_meet
                    exact ⟨by rw [← HF.out], rfl⟩
              · have HF : Hid (false = tailB s ec) := Lib.hid (by unfold tailB; simp [a1])
                go_wp2_with fail
                go_meet
                exact ⟨by rw [← HF.out], rfl⟩
            case rest =>
              obtain ⟨rfl, rfl⟩ := hcut
              cases htl : tailB s ec with
              | true =>
                have HN : Hid (none = res) := Lib.hid (by rw [HR.out]; simp [htl])
                go_wp2_with fail
                refine (stop_any s b p 1 0 _ HL2).mono ?_
                rintro e w9 ⟨⟨v, rfl⟩, hL9, hb9⟩
                go_wp2_with fail
                (try simp only [Exit.inBlock, Exit.then]); refine bodyPost_ret (results_none rfl _ _ _) rfl ?_
                unfold NuPost
                rw [HRES.out, ← HN.out]
                exact ⟨⟨_, rfl⟩, hL9, hB2.trans hb9⟩
              | false =>
                have HN : Hid (some ec = res) := Lib.hid (by rw [HR.out]; simp [htl])
                go_wp2_with fail
                refine (put_any s b p 1 3 ec _ HL2 hEC.1 hEC.2 hs).mono ?_
                rintro e w9 ⟨⟨v, rfl⟩, hL9, hb9⟩
                go_wp2_with fail
                go_end0
                unfold NuPost
                rw [HRES.out, ← HN.out]
                exact ⟨⟨_, rfl⟩, hL9, hB2.trans hb9⟩
end Go.Proofs.YtiicdalodfjgaaaGreatFmt
