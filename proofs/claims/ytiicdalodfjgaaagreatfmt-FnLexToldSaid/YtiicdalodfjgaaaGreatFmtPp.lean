/- The law of the two lexers: where the reference ends fine the code reads to the end, where it ends wrong the code fails. No program in sight. -/
import Derived.Test.YtiicdalodfjgaaaGreatFmtPo
namespace Go.Proofs.YtiicdalodfjgaaaGreatFmt
open Go.RowKit

/-! ### within a run of operators -/
theorem opB_facts (c : Nat) (h : opB c = true) : wsB c = false ∧ c ≠ 35 ∧ c ≠ 64 ∧ c ≠ 34 ∧ c ≠ 39 ∧ digB c = false ∧ letB c = false ∧ lisB c = false := by
  have hm : c ∈ opl := by unfold opB at h; simpa using h
  have : ∀ c ∈ opl, wsB c = false ∧ c ≠ 35 ∧ c ≠ 64 ∧ c ≠ 34 ∧ c ≠ 39 ∧ digB c = false ∧ letB c = false ∧ lisB c = false := by decide
  exact this c hm
theorem not_cm {s : ByteArray} {p : Nat} (h : cmB s p = false) : begB s p slsl = false ∧ begB s p slst = false := by
  constructor
  · cases hb : begB s p slsl with
    | false => rfl
    | true =>
      obtain ⟨_, h2, h3⟩ := (beg2 s p 47 47).1 hb
      unfold cmB at h
      rw [h2, h3] at h
      cases h
  · cases hb : begB s p slst with
    | false => rfl
    | true =>
      obtain ⟨_, h2, h3⟩ := (beg2 s p 47 42).1 hb
      unfold cmB at h
      rw [h2, h3] at h
      cases h
theorem not_at {s : ByteArray} {p : Nat} (h : gb s p ≠ 64) : begB s p atdq = false ∧ begB s p atsq = false := by
  constructor
  · cases hb : begB s p atdq with
    | false => rfl
    | true => exact absurd ((beg2 s p 64 34).1 hb).2.1 h
  · cases hb : begB s p atsq with
    | false => rfl
    | true => exact absurd ((beg2 s p 64 39).1 hb).2.1 h
theorem sone_run {s : ByteArray} {p W : Nat} (hR : Run s p W) : sone s p = if begB s p bar3 = true then blkS s p else sgS s p := by
  obtain ⟨f1, f2, f3, f4, f5, f6, f7, f8⟩ := opB_facts _ hR.op
  obtain ⟨g1, g2⟩ := not_cm hR.cm
  obtain ⟨a1, a2⟩ := not_at f3
  unfold sone
  rw [if_neg (by rw [f1]; decide), if_neg (by rw [g1]; simp [f2]), if_neg (by rw [g2]; decide), a1, a2, if_neg f4, if_neg f5, f6, f7, f8, hR.op]
  rfl
theorem cstep_run {s : ByteArray} {p W : Nat} (hR : Run s p W) (hb : begB s p bar3 = false) : cstep s p = some (wind s p (scp s (symC s) (p + 1))) := by
  obtain ⟨f1, f2, f3, f4, f5, f6, f7, f8⟩ := opB_facts _ hR.op
  have hc := hR.cm
  unfold cmB at hc
  have h1 : ¬ (gb s p = 35 ∨ gb s p = 47 ∧ gb s (p + 1) = 47) := by
    rintro (h | ⟨h2, h3⟩)
    · exact f2 h
    · rw [h2, h3] at hc; cases hc
  have h2 : ¬ (gb s p = 47 ∧ gb s (p + 1) = 42) := by
    rintro ⟨h2, h3⟩
    rw [h2, h3] at hc; cases hc
  unfold cstep symS
  rw [f8, f6, if_neg (by decide), if_neg (by decide), if_neg f4, if_neg f5, if_neg f3, f7, if_neg (by decide), if_pos (.inl hR.op), if_neg h1, if_neg h2, hb]
  rfl
theorem blkS_open {s : ByteArray} {p : Nat} (h : opB (gb s (p + 3)) = true) : (blkS s p).1 = 0 := by
  unfold blkS
  have hf := opB_facts _ h
  have h1 : blaB (gb s (p + 3)) = false := by
    have := hf.1
    unfold wsB at this
    unfold blaB
    simp at this ⊢
    omega
  rw [scan_stop s blaB (p + 3) (fun hh => by rw [h1] at hh; cases hh.2), if_neg]
  rintro ⟨_, h2⟩
  rw [h2] at h
  cases h
/-- the reference in a run: it says nothing, or goes to the run's end; and then no three bars stand in it. -/
theorem run_spec (s : ByteArray) : ∀ d p W, W - p = d → Run s p W → (begB s p bar3 = false ∨ trimB (gb s (W - 1)) = true) → slE s p ≠ 0 → slE s p = slE s W ∧ ∀ k, p ≤ k → k < W → begB s k bar3 = false := by
  intro d
  induction d with
  | zero => intro p W h1 hR _; have := hR.lt; omega
  | succ d ih =>
    intro p W h1 hR hT hne
    have hlt := hR.lt
    have hle := hR.le
    have hst := slE_step s p (by omega)
    cases hb : begB s p bar3 with
    | true =>
      exfalso
      have e : sone s p = blkS s p := by rw [sone_run hR, hb]; rfl
      rw [e] at hst
      have h3 := hR.in3 p (Nat.le_refl _) hlt hb
      obtain ⟨b1, b2, b3, b4⟩ := (beg3 s p 124 124 124).1 hb
      have hW : p + 3 < W := by
        rcases hT with hT | hT
        · rw [hb] at hT; cases hT
        · by_cases hh : p + 3 < W
          · exact hh
          · rw [show W - 1 = p + 2 by omega, b4] at hT
            cases hT
      have ho := hR.rest (p + 3) (by omega) hW
      unfold runC at ho
      simp only [Bool.and_eq_true] at ho
      have := blkS_open ho.1
      rw [this, if_neg (by decide)] at hst
      exact hne hst
    | false =>
      have e : sone s p = sgS s p := by rw [sone_run hR, hb]; rfl
      rw [e] at hst
      have hs0 : (sgS s p).1 ≠ 0 := by
        intro h0
        rw [h0, if_neg (by decide)] at hst
        exact hne hst
      obtain ⟨h1', h2⟩ := sg_cases hR hs0
      rw [if_pos h1'] at hst
      rcases h2 with ⟨h2, h3⟩ | ⟨h2, h3⟩
      · rw [h2] at hst
        by_cases hW : W = p + 1
        · refine ⟨by rw [hst, hW], fun k hk1 hk2 => ?_⟩
          rw [show k = p by omega]
          exact hb
        · have hR' := hR.next (p + 1) (by omega) (by omega)
          obtain ⟨i1, i2⟩ := ih (p + 1) W (by omega) hR' (.inr (h3.resolve_left hW)) (by rw [← hst]; exact hne)
          refine ⟨by rw [hst, i1], fun k hk1 hk2 => ?_⟩
          by_cases hk : k = p
          · rw [hk]; exact hb
          · exact i2 k (by omega) hk2
      · rw [h2] at hst
        refine ⟨hst, fun k hk1 hk2 => ?_⟩
        cases hk : begB s k bar3 with
        | false => rfl
        | true => exact (sg_bar s p W (by omega) hle h3 k hk1 (hR.in3 k hk1 hk2 hk) hk).elim
/-- the code in a run in which no three bars stand: it goes to the run's end. -/
theorem run_code (s : ByteArray) : ∀ d p W, W - p = d → Run s p W → (∀ k, p ≤ k → k < W → begB s k bar3 = false) → clE s p = clE s W := by
  intro d
  induction d using Nat.strongRecOn with
  | _ d ih =>
    intro p W h1 hR hB
    have hlt := hR.lt
    have hle := hR.le
    have hst := clE_tok s p (by omega) (opB_facts _ hR.op).1
    rw [cstep_run hR (hB p (Nat.le_refl _) hlt)] at hst
    simp only at hst
    obtain ⟨f1, f2, f3, f4⟩ := scp_facts s (symC s) _ (p + 1) rfl (by omega)
    have hE : scp s (symC s) (p + 1) ≤ W := by
      by_cases hh : scp s (symC s) (p + 1) ≤ W
      · exact hh
      · exfalso
        have h5 := f3 W (by omega) (by omega)
        refine hR.stop ⟨by omega, ?_⟩
        unfold symC at h5
        simp only [Bool.and_eq_true, Bool.not_eq_true', beq_eq_false_iff_ne] at h5
        unfold runC cmB
        rw [h5.1.1]
        simp [h5.1.2]
    have hq : p < wind s p (scp s (symC s) (p + 1)) ∧ wind s p (scp s (symC s) (p + 1)) ≤ W := by
      unfold wind
      split <;> omega
    generalize wind s p (scp s (symC s) (p + 1)) = q at *
    rw [hst]
    by_cases hW : q = W
    · rw [hW]
    · exact ih (W - q) (by omega) q W rfl (hR.next q hq.1 (by omega)) (fun k hk1 hk2 => hB k (by omega) hk2)

/-- WHERE THE REFERENCE ENDS FINE THE CODE READS TO THE END; WHERE IT ENDS WRONG THE CODE FAILS. -/
theorem both (s : ByteArray) : ∀ d p, s.size - p = d → p ≤ s.size → (slE s p = 1 → clE s p = true) ∧ (slE s p = 2 → clE s p = false) := by
  intro d
  induction d using Nat.strongRecOn with
  | _ d ih =>
    intro p hd hps
    by_cases hp : p < s.size
    case neg =>
      rw [slE_end s p hp, clE_step s p hps, scan_stop s wsB p (by omega), if_neg hp]
      exact ⟨fun _ => rfl, fun h => (by first | cases h | simp at h)⟩
    have hst := slE_step s p hp
    -- a step that both take to the same place, or that both fail at
    have key : ∀ q q', sone s p = (1, q) → cstep s p = some q' → wsB (gb s p) = false → clE s q' = clE s q → (slE s p = 1 → clE s p = true) ∧ (slE s p = 2 → clE s p = false) := by
      intro q q' h1 h2 h3 h4
      have hb := sone_bounds s p hp (by rw [h1])
      rw [h1] at hb hst
      rw [if_pos rfl] at hst
      rw [hst, clE_tok s p hp h3, h2]
      simp only
      rw [h4]
      exact ih (s.size - q) (by omega) q rfl hb.2
    have bad : (sone s p).1 = 2 → cstep s p = none → wsB (gb s p) = false → (slE s p = 1 → clE s p = true) ∧ (slE s p = 2 → clE s p = false) := by
      intro h1 h2 h3
      rw [h1, if_neg (by decide)] at hst
      rw [hst, clE_tok s p hp h3, h2]
      exact ⟨fun h => (by first | cases h | simp at h), fun _ => rfl⟩
    have opn : (sone s p).1 = 0 → (slE s p = 1 → clE s p = true) ∧ (slE s p = 2 → clE s p = false) := by
      intro h1
      rw [h1, if_neg (by decide)] at hst
      rw [hst]
      exact ⟨fun h => (by first | cases h | simp at h), fun h => (by first | cases h | simp at h)⟩
    -- white space
    by_cases c1 : wsB (gb s p) = true
    · have h1 : sone s p = (1, p + 1) := by unfold sone; rw [if_pos c1]
      rw [h1, if_pos rfl] at hst
      have e : clE s p = clE s (p + 1) := by
        rw [← clE_scan s p hps, ← clE_scan s (p + 1) (by omega), scan_step s wsB p hp c1]
      rw [hst, e]
      exact ih (s.size - (p + 1)) (by omega) (p + 1) rfl (by omega)
    have cw : wsB (gb s p) = false := by simpa using c1
    have d1 : sone s p = if gb s p = 35 ∨ begB s p slsl = true then (1, scan s nolB p)
      else if begB s p slst = true then optS p ((starE s (p + 2)).map (· + 2))
      else if begB s p bar3 = true then blkS s p
      else if begB s p atdq = true then optS p (verbE s 34 (p + 2))
      else if begB s p atsq = true then optS p (verbE s 39 (p + 2))
      else if gb s p = 34 then quoS s p (quoN s 34 (s.size + 1) (p + 1))
      else if gb s p = 39 then quoS s p (quoN s 39 (s.size + 1) (p + 1))
      else if digB (gb s p) = true then optO p (numS s p)
      else if letB (gb s p) = true then (1, scan s idB p)
      else if lisB (gb s p) = true then (1, p + 1)
      else if opB (gb s p) = true then sgS s p
      else if gb s p < 128 then (2, p) else (0, p) := by unfold sone; rw [if_neg c1]
    clear c1
    -- comments to the end of the line
    by_cases c2 : gb s p = 35 ∨ begB s p slsl = true
    · rw [if_pos c2] at d1
      have hn10 : nolB (gb s p) = true := by
        rw [nolB_ten]
        intro h
        rw [h] at cw
        cases cw
      have hc : cstep s p = some (scan s wsB (scan s nolB (p + 1))) := by
        rcases c2 with c2 | c2
        · unfold cstep symS
          rw [c2]
          rfl
        · obtain ⟨_, h2, h3⟩ := (beg2 s p 47 47).1 c2
          unfold cstep symS
          rw [h2, h3]
          rfl
      have hb := scan_bounds s nolB (p + 1) (by omega)
      refine key _ _ d1 hc cw ?_
      rw [clE_scan s _ hb.2, scan_step s nolB p hp hn10]
    rw [if_neg c2] at d1
    -- comments between signs
    by_cases c3 : begB s p slst = true
    · rw [if_pos c3] at d1
      obtain ⟨_, h2, h3⟩ := (beg2 s p 47 42).1 c3
      have hc : cstep s p = (starE s (p + 2)).map (fun k => scan s wsB (k + 2)) := by
        unfold cstep symS
        rw [h2, h3]
        rfl
      cases hs : starE s (p + 2) with
      | none =>
        rw [hs] at d1 hc
        exact bad (by rw [d1]; rfl) hc cw
      | some k =>
        rw [hs] at d1 hc
        have hb := starN_bounds s _ (p + 2) k hs
        exact key _ _ d1 hc cw (clE_scan s _ hb.2)
    rw [if_neg c3] at d1
    -- blocks
    by_cases c4 : begB s p bar3 = true
    · rw [if_pos c4] at d1
      obtain ⟨_, h2, h3, h4⟩ := (beg3 s p 124 124 124).1 c4
      have hc : cstep s p = blkG s p := by
        unfold cstep symS
        rw [h2, if_pos c4]
        rfl
      have hB := blk_both s p (beg_size s p _ c4)
      have hv : (blkS s p).1 = 0 ∨ (blkS s p).1 = 1 ∨ (blkS s p).1 = 2 := by
        unfold blkS
        split
        · split
          · exact .inr (.inr rfl)
          · split
            · exact .inr (.inl rfl)
            · exact .inr (.inr rfl)
        · exact .inl rfl
      rcases hv with hv | hv | hv
      · exact opn (by rw [d1]; exact hv)
      · refine key (blkS s p).2 (blkS s p).2 ?_ (by rw [hc, hB.1 hv]) cw rfl
        rw [d1]
        exact Prod.ext hv rfl
      · exact bad (by rw [d1]; exact hv) (by rw [hc, hB.2 hv]) cw
    rw [if_neg c4] at d1
    have c4' : begB s p bar3 = false := by simpa using c4
    -- strings in which nothing is escaped
    have verb : ∀ q : UInt8, (q = 34 ∨ q = 39) → begB s p ⟨#[64, q]⟩ = true → sone s p = optS p (verbE s q.toNat (p + 2)) → (slE s p = 1 → clE s p = true) ∧ (slE s p = 2 → clE s p = false) := by
      intro q hq hb hd1
      obtain ⟨_, h2, h3⟩ := (beg2 s p 64 q).1 hb
      have hc : cstep s p = verbE s q.toNat (p + 2) := by
        have h2' : gb s p = 64 := h2
        unfold cstep
        rw [h2', h3]
        rcases hq with rfl | rfl <;> rfl
      cases hv : verbE s q.toNat (p + 2) with
      | none =>
        rw [hv] at hd1 hc
        exact bad (by rw [hd1]; rfl) hc cw
      | some k =>
        rw [hv] at hd1 hc
        exact key _ _ hd1 hc cw rfl
    by_cases c5 : begB s p atdq = true
    · rw [if_pos c5] at d1
      exact verb 34 (.inl rfl) c5 d1
    rw [if_neg c5] at d1
    by_cases c6 : begB s p atsq = true
    · rw [if_pos c6] at d1
      exact verb 39 (.inr rfl) c6 d1
    rw [if_neg c6] at d1
    -- strings between quotes
    have quot : ∀ q : Nat, (sone s p = quoS s p (quoN s q (s.size + 1) (p + 1))) → cstep s p = strE s q (p + 1) → (slE s p = 1 → clE s p = true) ∧ (slE s p = 2 → clE s p = false) := by
      intro q hd1 hc
      have hq := quo_str s q (s.size + 1) (p + 1)
      unfold quoS at hd1
      by_cases g1 : (quoN s q (s.size + 1) (p + 1)).1 = 1
      · rw [if_pos g1] at hd1
        split at hd1
        · exact key _ _ hd1 (by rw [hc]; exact hq.1 g1) cw rfl
        · exact opn (by rw [hd1])
      · rw [if_neg g1] at hd1
        by_cases g2 : (quoN s q (s.size + 1) (p + 1)).1 = 2
        · exact bad (by rw [hd1]; exact g2) (by rw [hc]; exact hq.2 g2) cw
        · have hv : ∀ f k, (quoN s q f k).1 = 0 ∨ (quoN s q f k).1 = 1 ∨ (quoN s q f k).1 = 2 := by
            intro f
            induction f with
            | zero => intro k; exact .inr (.inr rfl)
            | succ f ihf =>
              intro k
              unfold quoN
              repeat' split
              · exact .inl rfl
              · exact ihf _
              · exact ihf _
              · exact .inr (.inl rfl)
              · exact .inr (.inr rfl)
          rcases hv (s.size + 1) (p + 1) with g3 | g3 | g3
          · exact opn (by rw [hd1]; exact g3)
          · exact absurd g3 g1
          · exact absurd g3 g2
    by_cases c7 : gb s p = 34
    · rw [if_pos c7] at d1
      exact quot 34 d1 (by unfold cstep; rw [c7]; rfl)
    rw [if_neg c7] at d1
    by_cases c8 : gb s p = 39
    · rw [if_pos c8] at d1
      exact quot 39 d1 (by unfold cstep; rw [c8]; rfl)
    rw [if_neg c8] at d1
    -- numbers
    by_cases c9 : digB (gb s p) = true
    · rw [if_pos c9] at d1
      have hl : lisB (gb s p) = false := by
        have := (nuB_iff _).1 c9
        unfold lisB
        simp
        omega
      cases hn : numS s p with
      | none =>
        rw [hn] at d1
        exact opn (by rw [d1]; rfl)
      | some e =>
        rw [hn] at d1
        refine key _ _ d1 ?_ cw rfl
        unfold cstep
        rw [hl, if_neg (by decide), if_pos c9]
        exact num_law s p hp c9 e hn
    rw [if_neg c9] at d1
    -- names
    by_cases c10 : letB (gb s p) = true
    · rw [if_pos c10] at d1
      refine key _ _ d1 ?_ cw rfl
      have h1 : lisB (gb s p) = false ∧ gb s p ≠ 64 := by
        have := c10
        unfold letB at this
        simp at this
        unfold lisB
        simp
        omega
      unfold cstep
      rw [h1.1, if_neg (by decide), if_neg c9, if_neg c7, if_neg c8, if_neg h1.2, if_pos c10]
    rw [if_neg c10] at d1
    -- listed signs
    by_cases c11 : lisB (gb s p) = true
    · rw [if_pos c11] at d1
      exact key _ _ d1 (by unfold cstep; rw [if_pos c11]) cw rfl
    rw [if_neg c11] at d1
    have h35 : gb s p ≠ 35 := fun h => c2 (.inl h)
    -- operators
    by_cases c12 : opB (gb s p) = true
    · have hcm : cmB s p = false := by
        cases hc : cmB s p with
        | false => rfl
        | true =>
          exfalso
          unfold cmB at hc
          simp only [Bool.and_eq_true, Bool.or_eq_true, beq_iff_eq] at hc
          have hp1 : p + 1 < s.size := by
            by_cases hh : p + 1 < s.size
            · exact hh
            · rw [gb_out s _ hh] at hc; omega
          rcases hc.2 with h4 | h4
          · exact c2 (.inr ((beg2 s p 47 47).2 ⟨hp1, hc.1, h4⟩))
          · exact c3 ((beg2 s p 47 42).2 ⟨hp1, hc.1, h4⟩)
      have hR := run_make s p hp c12 hcm
      generalize scp s (runC s) (p + 1) = W at hR
      by_cases h0 : slE s p = 0
      · rw [h0]
        exact ⟨fun h => (by first | cases h | simp at h), fun h => (by first | cases h | simp at h)⟩
      · obtain ⟨r1, r2⟩ := run_spec s _ p W rfl hR (.inl c4') h0
        rw [r1, run_code s _ p W rfl hR r2]
        exact ih (s.size - W) (by have := hR.lt; omega) W rfl hR.le
    rw [if_neg c12] at d1
    by_cases c13 : gb s p < 128
    · rw [if_pos c13] at d1
      refine bad (by rw [d1]) ?_ cw
      unfold cstep
      rw [if_neg c11, if_neg c9, if_neg c7, if_neg c8]
      by_cases h64 : gb s p = 64
      · rw [if_pos h64, if_neg]
        rintro (h | h)
        · have hp1 : p + 1 < s.size := by
            by_cases hh : p + 1 < s.size
            · exact hh
            · rw [gb_out s _ hh] at h; omega
          exact c5 ((beg2 s p 64 34).2 ⟨hp1, h64, h⟩)
        · have hp1 : p + 1 < s.size := by
            by_cases hh : p + 1 < s.size
            · exact hh
            · rw [gb_out s _ hh] at h; omega
          exact c6 ((beg2 s p 64 39).2 ⟨hp1, h64, h⟩)
      · rw [if_neg h64, if_neg c10, if_neg]
        rintro (h | h)
        · exact c12 h
        · exact h35 h
    · rw [if_neg c13] at d1
      exact opn (by rw [d1])
end Go.Proofs.YtiicdalodfjgaaaGreatFmt
