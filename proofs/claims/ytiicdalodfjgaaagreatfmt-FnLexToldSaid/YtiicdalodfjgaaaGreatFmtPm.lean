/- The plain law of the two lexers, second part: numbers, blocks, operators, and the two readings side by side. No program in sight. -/
import Derived.Test.YtiicdalodfjgaaaGreatFmtPl
namespace Go.Proofs.YtiicdalodfjgaaaGreatFmt
open Go.RowKit

theorem pk_low (s : ByteArray) (p : Nat) (h : p < s.size) (hl : gb s p < 128) : pk s p = (gb s p : Int) := by unfold pk; rw [if_pos h, (dec_low s p h hl).1]
theorem pk_high (s : ByteArray) (p : Nat) (h : p < s.size) (hl : 128 ≤ gb s p) : 128 ≤ pk s p := by
  unfold pk
  rw [if_pos h]
  have := (dec_high s p h hl).1
  omega
theorem pk_end (s : ByteArray) (p : Nat) (h : ¬ p < s.size) : pk s p = -1 := by unfold pk; rw [if_neg h]
/-- the rune at a place is an ASCII byte's if and only if the byte is. -/
theorem pk_eq (s : ByteArray) (p : Nat) (c : Nat) (hc : c < 128) : pk s p = (c : Int) ↔ p < s.size ∧ gb s p = c := by
  by_cases h : p < s.size
  · by_cases hl : gb s p < 128
    · rw [pk_low s p h hl]
      constructor
      · intro e; exact ⟨h, by omega⟩
      · rintro ⟨_, e⟩; omega
    · have := pk_high s p h (by omega)
      constructor
      · intro e; omega
      · rintro ⟨_, e⟩; omega
  · rw [pk_end s p h]
    constructor
    · intro e; omega
    · rintro ⟨e, _⟩; omega

/-! ### numbers -/
/-- how the code's reading of a number goes on: 11 it ends, 12 it fails. -/
def nuT (st : Nat) (c : Int) : Nat :=
  match st with
  | 0 => if c = 48 then 1 else if nuB c = true then 2 else 12
  | 1 => if c = 46 then 4 else if c = 101 ∨ c = 69 then 7 else if c = 95 then 12 else 11
  | 2 => if c = 46 then 4 else if c = 101 ∨ c = 69 then 7 else if nuB c = true then 2 else if c = 95 then 3 else 11
  | 3 => if nuB c = true then 2 else 12
  | 4 => if nuB c = true then 5 else 12
  | 5 => if c = 101 ∨ c = 69 then 7 else if nuB c = true then 5 else if c = 95 then 6 else 11
  | 6 => if nuB c = true then 5 else 12
  | 7 => if c = 43 ∨ c = 45 then 8 else if nuB c = true then 9 else 12
  | 8 => if nuB c = true then 9 else 12
  | 9 => if nuB c = true then 9 else if c = 95 then 10 else 11
  | _ => if nuB c = true then 9 else 12
def numGN (s : ByteArray) : Nat → Nat → Nat → Option Nat
  | 0, _, _ => none
  | f + 1, st, p => if nuT st (pk s p) = 11 then some p else if nuT st (pk s p) = 12 then none else numGN s f (nuT st (pk s p)) (p + 1)
def numE (s : ByteArray) (st p : Nat) : Option Nat := numGN s (s.size + 2 - p) st p
theorem numE_step (s : ByteArray) (st p : Nat) (h : p ≤ s.size) : numE s st p = if nuT st (pk s p) = 11 then some p else if nuT st (pk s p) = 12 then none else numE s (nuT st (pk s p)) (p + 1) := by
  unfold numE
  rw [show s.size + 2 - p = (s.size + 2 - (p + 1)) + 1 by omega]
  rfl
theorem nuB_iff (c : Int) : nuB c = true ↔ 48 ≤ c ∧ c ≤ 57 := by simp [nuB]
theorem nuT_end (st : Nat) : nuT st (-1) = 11 ∨ nuT st (-1) = 12 := by
  have h : nuB (-1) = false := by decide
  unfold nuT
  split <;> simp [h]
/-- a step of the automaton that goes on, has read an ASCII byte. -/
theorem nuT_low (st : Nat) (c : Int) (h1 : nuT st c ≠ 11) (h2 : nuT st c ≠ 12) : 0 ≤ c ∧ c < 128 := by
  by_cases hn : nuB c = true
  · rw [nuB_iff] at hn; omega
  · unfold nuT at h1 h2
    simp only [hn] at h1 h2
    split at h1 <;> (repeat' (split at h1)) <;> first | omega | (exfalso; simp_all)
theorem num_go (s : ByteArray) (st st' p : Nat) (h : p < s.size) (ht : nuT st (pk s p) = st') (h1 : st' ≠ 11) (h2 : st' ≠ 12) : numE s st p = numE s st' (p + 1) := by
  rw [numE_step s st p (by omega), ht, if_neg h1, if_neg h2]
theorem pk_dig (s : ByteArray) (p : Nat) (h : p < s.size) (hd : digB (gb s p) = true) : nuB (pk s p) = true ∧ pk s p = (gb s p : Int) := by
  have h2 := (nuB_iff _).1 hd
  have h3 := pk_low s p h (by omega)
  exact ⟨by rw [h3]; exact hd, h3⟩
theorem num_run (s : ByteArray) (st : Nat) (hst : ∀ c, nuB c = true → nuT st c = st) (h1 : st ≠ 11) (h2 : st ≠ 12) : ∀ d p, s.size - p = d → numE s st p = numE s st (scan s digB p) := by
  intro d
  induction d with
  | zero => intro p h; rw [scan_stop s digB p (by omega)]
  | succ d ih =>
    intro p h
    by_cases hd : digB (gb s p) = true
    · rw [scan_step s digB p (by omega) hd, num_go s st st p (by omega) (hst _ (pk_dig s p (by omega) hd).1) h1 h2]
      exact ih (p + 1) (by omega)
    · rw [scan_stop s digB p (fun hh => hd hh.2)]
theorem run2 (c : Int) (h : nuB c = true) : nuT 2 c = 2 := by have h' := (nuB_iff c).1 h; unfold nuT; simp only [h]; rw [if_neg (by omega), if_neg (by omega)]; rfl
theorem run5 (c : Int) (h : nuB c = true) : nuT 5 c = 5 := by have h' := (nuB_iff c).1 h; unfold nuT; simp only [h]; rw [if_neg (by omega)]; rfl
theorem run9 (c : Int) (h : nuB c = true) : nuT 9 c = 9 := by unfold nuT; simp only [h]; rfl
theorem num_law (s : ByteArray) (p : Nat) (hp : p < s.size) (hd : digB (gb s p) = true) (e : Nat) (h : numS s p = some e) : numE s 0 p = some e := by
  have hpd := pk_dig s p hp hd
  have hA : p < numA s p ∧ numA s p ≤ s.size := by
    unfold numA
    split
    · omega
    · rw [scan_step s digB p hp hd]
      have := scan_bounds s digB (p + 1) (by omega)
      omega
  -- the integer
  obtain ⟨st1, hst1, e1⟩ : ∃ st1, (st1 = 1 ∨ st1 = 2) ∧ numE s 0 p = numE s st1 (numA s p) := by
    unfold numA
    by_cases h0 : gb s p = 48
    · rw [if_pos h0]
      refine ⟨1, .inl rfl, num_go s 0 1 p hp ?_ (by decide) (by decide)⟩
      rw [hpd.2, h0]
      rfl
    · rw [if_neg h0]
      refine ⟨2, .inr rfl, ?_⟩
      rw [num_go s 0 2 p hp (by unfold nuT; simp only [hpd.1]; rw [if_neg (by rw [hpd.2]; omega)]; rfl) (by decide) (by decide), num_run s 2 run2 (by decide) (by decide) _ _ rfl, scan_step s digB p hp hd]
  unfold numS at h
  generalize numA s p = ea at *
  -- the fraction
  obtain ⟨st2, hst2, hE, e2⟩ : ∃ st2, (st2 = 1 ∨ st2 = 2 ∨ st2 = 5) ∧ numB s ea ≤ s.size ∧ numE s st1 ea = numE s st2 (numB s ea) := by
    unfold numB
    by_cases hf : fracB s ea = true
    · rw [if_pos hf]
      unfold fracB at hf
      simp only [Bool.and_eq_true, decide_eq_true_eq, beq_iff_eq] at hf
      obtain ⟨⟨f1, f2⟩, f3⟩ := hf
      have hb := scan_bounds s digB (ea + 1) (by omega)
      refine ⟨5, .inr (.inr rfl), hb.2, ?_⟩
      have hk : pk s ea = 46 := (pk_eq s ea 46 (by omega)).2 ⟨by omega, f2⟩
      rw [num_go s st1 4 ea (by omega) (by rcases hst1 with rfl | rfl <;> (rw [hk]; rfl)) (by decide) (by decide)]
      rw [num_go s 4 5 (ea + 1) (by omega) (by unfold nuT; simp only [(pk_dig s (ea + 1) (by omega) f3).1]; rfl) (by decide) (by decide)]
      rw [num_run s 5 run5 (by decide) (by decide) _ _ rfl, scan_step s digB (ea + 1) (by omega) f3]
    · rw [if_neg hf]
      exact ⟨st1, by omega, hA.2, rfl⟩
  generalize numB s ea = eb at *
  -- the exponent
  cases hc : numC s eb with
  | none => rw [hc] at h; cases h
  | some ec =>
    rw [hc] at h
    simp only at h
    obtain ⟨st3, hst3, hC, e3⟩ : ∃ st3, (st3 = 1 ∨ st3 = 2 ∨ st3 = 5 ∨ st3 = 9) ∧ ec ≤ s.size ∧ numE s st2 eb = numE s st3 ec := by
      unfold numC at hc
      by_cases hx : expB s eb = true
      · rw [if_pos hx] at hc
        unfold expB at hx
        simp only [Bool.and_eq_true, Bool.or_eq_true, decide_eq_true_eq, beq_iff_eq] at hx
        obtain ⟨x1, x2⟩ := hx
        split at hc
        · rename_i hk
          obtain ⟨k1, k2⟩ := hk
          injection hc with hc
          have hb := scan_bounds s digB (numK s eb) (by omega)
          refine ⟨9, by omega, by omega, ?_⟩
          have hk7 : nuT st2 (pk s eb) = 7 := by
            rcases x2 with x2 | x2
            · rw [(pk_eq s eb 101 (by omega)).2 ⟨x1, x2⟩]
              rcases hst2 with rfl | rfl | rfl <;> rfl
            · rw [(pk_eq s eb 69 (by omega)).2 ⟨x1, x2⟩]
              rcases hst2 with rfl | rfl | rfl <;> rfl
          rw [num_go s st2 7 eb x1 hk7 (by decide) (by decide)]
          have hpk := pk_dig s (numK s eb) k1 k2
          have h9 : ∀ st, st = 7 ∨ st = 8 → numE s st (numK s eb) = numE s 9 (numK s eb + 1) := by
            intro st hst
            refine num_go s st 9 _ k1 ?_ (by decide) (by decide)
            have hn := (nuB_iff _).1 hpk.1
            rcases hst with rfl | rfl
            · unfold nuT; simp only [hpk.1]; rw [if_neg (by omega)]; rfl
            · unfold nuT; simp only [hpk.1]; rfl
          have hrest : numE s 9 (numK s eb + 1) = numE s 9 ec := by
            rw [← hc, scan_step s digB (numK s eb) k1 k2]
            exact num_run s 9 run9 (by decide) (by decide) _ _ rfl
          by_cases hs : sgnB s (eb + 1) = true
          · have hK : numK s eb = eb + 2 := by unfold numK; rw [if_pos hs]
            unfold sgnB at hs
            simp only [Bool.and_eq_true, Bool.or_eq_true, decide_eq_true_eq, beq_iff_eq] at hs
            rw [num_go s 7 8 (eb + 1) hs.1 (by
              rcases hs.2 with s2 | s2
              · rw [(pk_eq s (eb + 1) 43 (by omega)).2 ⟨hs.1, s2⟩]; rfl
              · rw [(pk_eq s (eb + 1) 45 (by omega)).2 ⟨hs.1, s2⟩]; rfl) (by decide) (by decide)]
            have := h9 8 (.inr rfl)
            rw [hK] at this hrest
            rw [show eb + 1 + 1 = eb + 2 by omega, this, hrest]
          · have hK : numK s eb = eb + 1 := by unfold numK; rw [if_neg hs]
            have := h9 7 (.inl rfl)
            rw [hK] at this hrest
            rw [this, hrest]
        · cases hc
      · rw [if_neg hx] at hc
        injection hc with hc
        subst hc
        exact ⟨st2, by omega, hE, rfl⟩
    by_cases ht : tailB s ec = true
    · rw [if_pos ht] at h; cases h
    · rw [if_neg ht] at h
      injection h with h
      subst h
      rw [e1, e2, e3, numE_step s st3 ec hC]
      have hk : pk s ec ≠ 46 ∧ nuB (pk s ec) = false ∧ pk s ec ≠ 101 ∧ pk s ec ≠ 69 ∧ pk s ec ≠ 95 := by
        by_cases h1 : ec < s.size
        · by_cases hl : gb s ec < 128
          · rw [pk_low s ec h1 hl]
            unfold tailB letB digB at ht
            simp only [Bool.and_eq_true, Bool.or_eq_true, decide_eq_true_eq, beq_iff_eq, h1, true_and] at ht
            have hd' : nuB (gb s ec : Int) = false := by
              cases hh : nuB (gb s ec : Int) with
              | false => rfl
              | true => exact absurd (Or.inr hh) ht
            refine ⟨by omega, hd', by omega, by omega, by omega⟩
          · have := pk_high s ec h1 (by omega)
            have hd' : nuB (pk s ec) = false := by
              cases hh : nuB (pk s ec) with
              | false => rfl
              | true => have := (nuB_iff _).1 hh; omega
            exact ⟨by omega, hd', by omega, by omega, by omega⟩
        · rw [pk_end s ec h1]
          exact ⟨by omega, by decide, by omega, by omega, by omega⟩
      obtain ⟨k1, k2, k3, k4, k5⟩ := hk
      have h11 : nuT st3 (pk s ec) = 11 := by
        rcases hst3 with rfl | rfl | rfl | rfl <;> (unfold nuT; simp [k1, k2, k3, k4, k5])
      rw [if_pos h11]

/-! ### scans by place -/
def scpN (s : ByteArray) (f : Nat → Bool) : Nat → Nat → Nat
  | 0, p => p
  | d + 1, p => if p < s.size ∧ f p = true then scpN s f d (p + 1) else p
def scp (s : ByteArray) (f : Nat → Bool) (p : Nat) : Nat := scpN s f (s.size - p) p
theorem scp_stop (s : ByteArray) (f : Nat → Bool) (p : Nat) (h : ¬ (p < s.size ∧ f p = true)) : scp s f p = p := by
  unfold scp
  cases s.size - p with
  | zero => rfl
  | succ d => unfold scpN; rw [if_neg h]
theorem scp_step (s : ByteArray) (f : Nat → Bool) (p : Nat) (h1 : p < s.size) (h2 : f p = true) : scp s f p = scp s f (p + 1) := by
  unfold scp
  obtain ⟨d, hd⟩ : ∃ d, s.size - p = d + 1 := ⟨s.size - p - 1, by omega⟩
  rw [hd, show s.size - (p + 1) = d by omega]
  show (if p < s.size ∧ f p = true then scpN s f d (p + 1) else p) = _
  rw [if_pos ⟨h1, h2⟩]
theorem scp_facts (s : ByteArray) (f : Nat → Bool) : ∀ d p, s.size - p = d → p ≤ s.size → p ≤ scp s f p ∧ scp s f p ≤ s.size ∧ (∀ k, p ≤ k → k < scp s f p → f k = true) ∧ ¬ (scp s f p < s.size ∧ f (scp s f p) = true) := by
  intro d
  induction d with
  | zero =>
    intro p h1 h2
    rw [scp_stop s f p (by omega)]
    exact ⟨Nat.le_refl _, h2, fun k _ _ => by omega, by omega⟩
  | succ d ih =>
    intro p h1 h2
    by_cases hp : f p = true
    · rw [scp_step s f p (by omega) hp]
      obtain ⟨i1, i2, i3, i4⟩ := ih (p + 1) (by omega) (by omega)
      refine ⟨by omega, i2, fun k hk1 hk2 => ?_, i4⟩
      by_cases hkp : k = p
      · rw [hkp]; exact hp
      · exact i3 k (by omega) hk2
    · rw [scp_stop s f p (fun hh => hp hh.2)]
      exact ⟨Nat.le_refl _, h2, fun k _ _ => by omega, fun hh => hp hh.2⟩
theorem scan_facts (s : ByteArray) (f : Nat → Bool) : ∀ d p, s.size - p = d → p ≤ s.size → ∀ k, p ≤ k → k < scan s f p → f (gb s k) = true := by
  intro d
  induction d with
  | zero =>
    intro p h1 h2 k h3 h4
    rw [scan_stop s f p (by omega)] at h4
    omega
  | succ d ih =>
    intro p h1 h2 k hk1 hk2
    by_cases hp : f (gb s p) = true
    · rw [scan_step s f p (by omega) hp] at hk2
      by_cases hkp : k = p
      · rw [hkp]; exact hp
      · exact ih (p + 1) (by omega) (by omega) k (by omega) hk2
    · rw [scan_stop s f p (fun hh => hp hh.2)] at hk2
      omega
end Go.Proofs.YtiicdalodfjgaaaGreatFmt
