/- The plain law of the two lexers, last part: the steps, and the two readings side by side. No program in sight. -/
import Derived.Test.YtiicdalodfjgaaaGreatFmtPn
namespace Go.Proofs.YtiicdalodfjgaaaGreatFmt
open Go.RowKit

theorem sg_bar (s : ByteArray) (p e : Nat) (hpe : p ≤ e) (he : e ≤ s.size) (h : hasL sgL (s.extract p e) = true) (k : Nat) (h1 : p ≤ k) (h2 : k + 2 < e) (hb : begB s k bar3 = true) : False := by
  obtain ⟨x, hx, hl⟩ := has_mem _ _ h
  obtain ⟨b1, b2, b3, b4⟩ := (beg3 s k 124 124 124).1 hb
  have hlen := ext_len s p e he
  have hk := ext_get s p e (k - p) (by omega) he
  rw [show p + (k - p) = k by omega, b2] at hk
  rcases sg_bars x hx with h3 | h3
  · rw [← hl, h3] at hlen
    simp at hlen
    omega
  · rw [← hl] at hk
    have hm := List.mem_of_getElem? hk
    exact h3 _ hm rfl
theorem sg_last (s : ByteArray) (p e : Nat) (hpe : p < e) (he : e ≤ s.size) (h : hasL sgL (s.extract p e) = true) : trimB (gb s (e - 1)) = false := by
  obtain ⟨x, hx, hl⟩ := has_mem _ _ h
  have hlen := ext_len s p e he
  have hk := ext_get s p e (e - 1 - p) (by omega) he
  rw [show p + (e - 1 - p) = e - 1 by omega] at hk
  have := sg_trim x hx (UInt8.ofNat (gb s (e - 1))) (by
    rw [hl, List.getLast?_eq_getElem?, hlen, show e - p - 1 = e - 1 - p by omega]
    exact hk)
  have hg := gb_lt s (e - 1)
  simpa [Nat.mod_eq_of_lt hg] using this
/-- what the reference's operator comes to within a run. -/
theorem sg_cases {s : ByteArray} {p W : Nat} (hR : Run s p W) (h : (sgS s p).1 ≠ 0) : (sgS s p).1 = 1 ∧ (((sgS s p).2 = p + 1 ∧ (W = p + 1 ∨ trimB (gb s (W - 1)) = true)) ∨ ((sgS s p).2 = W ∧ hasL sgL (s.extract p W) = true)) := by
  have hlt := hR.lt
  unfold sgS at h ⊢
  rw [hR.whole] at h ⊢
  have hb := trimN_bounds s (p + 1) W (by omega)
  by_cases ht : p + 1 < W ∧ trimB (gb s (W - 1)) = true
  · have hl : trimN s (p + 1) W < W := by
      obtain ⟨V, rfl⟩ : ∃ V, W = V + 1 := ⟨W - 1, by omega⟩
      rw [trimN_step s (p + 1) V ⟨by omega, ht.2⟩]
      have := trimN_bounds s (p + 1) V (by omega)
      omega
    by_cases h1 : 1 < trimN s (p + 1) W - p ∧ trimN s (p + 1) W < W
    · rw [if_pos h1]
      exact ⟨rfl, .inl ⟨rfl, .inr ht.2⟩⟩
    · have h2 : trimN s (p + 1) W = p + 1 := by omega
      rw [if_neg h1, if_pos (by omega)]
      exact ⟨rfl, .inl ⟨h2, .inr ht.2⟩⟩
  · have h2 := trimN_stop s (p + 1) W ht
    rw [h2] at h ⊢
    rw [if_neg (by omega)] at h ⊢
    by_cases h3 : W - p = 1
    · rw [if_pos h3]
      exact ⟨rfl, .inl ⟨by show W = p + 1; omega, .inl (by omega)⟩⟩
    · rw [if_neg h3] at h ⊢
      by_cases h4 : hasL sgL (s.extract p W) = true
      · rw [if_pos h4]
        exact ⟨rfl, .inr ⟨rfl, h4⟩⟩
      · rw [if_neg h4] at h
        exact absurd rfl h

/-! ### the steps -/
abbrev slsl : ByteArray := ⟨#[47, 47]⟩
abbrev slst : ByteArray := ⟨#[47, 42]⟩
abbrev atdq : ByteArray := ⟨#[64, 34]⟩
abbrev atsq : ByteArray := ⟨#[64, 39]⟩
def optS (p : Nat) : Option Nat → Int × Nat
  | some q => (1, q)
  | none => (2, p)
def optO (p : Nat) : Option Nat → Int × Nat
  | some q => (1, q)
  | none => (0, p)
/-- one step of the reference: the state that it leaves (0: what it says does not count), and the place. -/
def sone (s : ByteArray) (p : Nat) : Int × Nat :=
  if wsB (gb s p) = true then (1, p + 1)
  else if gb s p = 35 ∨ begB s p slsl = true then (1, scan s nolB p)
  else if begB s p slst = true then optS p ((starE s (p + 2)).map (· + 2))
  else if begB s p bar3 = true then blkS s p
  else if begB s p atdq = true then optS p (verbE s 34 (p + 2))
  else if begB s p atsq = true then optS p (verbE s 39 (p + 2))
  else if gb s p = 34 then quoS s p (quoN s 34 (s.size + 1) (p + 1))
  else if gb s p = 39 then quoS s p (quoN s 39 (s.size + 1) (p + 1))
  else if digB (gb s p) = true then optO p (numS s p)
  else if letB (gb s p) = true then (1, scan s idB p)
  else if lisB (gb s p) = true then (1, p + 1)
  else if opB (gb s p) = true then sgS s p
  else if gb s p < 128 then (2, p) else (0, p)
def slN (s : ByteArray) : Nat → Nat → Int
  | 0, _ => 1
  | f + 1, p => if p < s.size then (if (sone s p).1 = 1 then slN s f (sone s p).2 else (sone s p).1) else 1
/-- the code's symbol. -/
def symS (s : ByteArray) (p : Nat) : Option Nat :=
  if gb s p = 35 ∨ (gb s p = 47 ∧ gb s (p + 1) = 47) then some (scan s wsB (scan s nolB (p + 1)))
  else if gb s p = 47 ∧ gb s (p + 1) = 42 then (starE s (p + 2)).map (fun k => scan s wsB (k + 2))
  else if begB s p bar3 = true then blkG s p
  else some (wind s p (scp s (symC s) (p + 1)))
/-- one step of the code. -/
def cstep (s : ByteArray) (p : Nat) : Option Nat :=
  if lisB (gb s p) = true then some (p + 1)
  else if digB (gb s p) = true then numE s 0 p
  else if gb s p = 34 then strE s 34 (p + 1)
  else if gb s p = 39 then strE s 39 (p + 1)
  else if gb s p = 64 then (if gb s (p + 1) = 34 ∨ gb s (p + 1) = 39 then verbE s (gb s (p + 1)) (p + 2) else none)
  else if letB (gb s p) = true then some (scan s idB p)
  else if opB (gb s p) = true ∨ gb s p = 35 then symS s p
  else none
def clN (s : ByteArray) : Nat → Nat → Bool
  | 0, _ => true
  | f + 1, p => if scan s wsB p < s.size then (match cstep s (scan s wsB p) with | none => false | some q => clN s f q) else true

/-! ### the steps move on -/
theorem numGN_bounds (s : ByteArray) : ∀ f st p q, p ≤ s.size → numGN s f st p = some q → p ≤ q ∧ q ≤ s.size := by
  intro f
  induction f with
  | zero => intro st p q _ h; cases h
  | succ f ih =>
    intro st p q hp h
    unfold numGN at h
    split at h
    · injection h with h; omega
    · rename_i h11
      split at h
      · cases h
      · rename_i h12
        by_cases hlt : p < s.size
        · have := ih _ _ q (by omega) h; omega
        · rw [pk_end s p hlt] at h11 h12
          rcases nuT_end st with h3 | h3
          · exact absurd h3 h11
          · exact absurd h3 h12
theorem num_bounds (s : ByteArray) (p q : Nat) (hp : p < s.size) (hd : digB (gb s p) = true) (h : numE s 0 p = some q) : p < q ∧ q ≤ s.size := by
  have hpd := pk_dig s p hp hd
  rw [numE_step s 0 p (by omega)] at h
  have h2 := (nuB_iff _).1 hpd.1
  have hne : nuT 0 (pk s p) = 1 ∨ nuT 0 (pk s p) = 2 := by
    unfold nuT
    simp only [hpd.1]
    split
    · exact .inl rfl
    · exact .inr rfl
  rw [if_neg (by omega), if_neg (by omega)] at h
  have := numGN_bounds s _ _ (p + 1) q (by omega) h
  omega
theorem sym_le (s : ByteArray) (p : Nat) (hp : p < s.size) : p + 1 ≤ scp s (symC s) (p + 1) ∧ scp s (symC s) (p + 1) ≤ s.size := by
  have := scp_facts s (symC s) _ (p + 1) rfl (by omega)
  omega
theorem blkL_bounds (s ind : ByteArray) : ∀ f k q, k + ind.size ≤ s.size → blkL s ind f k = some q → k < q ∧ q ≤ s.size := by
  intro f
  induction f with
  | zero => intro k q _ h; cases h
  | succ f ih =>
    intro k q hk h
    unfold blkL at h
    have h4 := scan_bounds s nolB (k + ind.size) hk
    split at h
    · rename_i h5
      have h6 := scan_bounds s nlB (scan s nolB (k + ind.size) + 1) (by omega)
      split at h
      · rename_i hb
        have := ih _ q (beg_size s _ _ hb) h
        omega
      · split at h
        · rename_i hb
          injection h with h
          have h1 := beg_size s _ _ hb
          have hz : bar3.size = 3 := rfl
          have h3 := scan_bounds s blaB (scan s nlB (scan s nolB (k + ind.size) + 1)) h6.2
          omega
        · cases h
    · cases h
theorem blkG_bounds (s : ByteArray) (p q : Nat) (hp : p + 3 ≤ s.size) (h : blkG s p = some q) : p < q ∧ q ≤ s.size := by
  unfold blkG at h
  have h0 : (if gb s (p + 3) = 45 then p + 4 else p + 3) ≤ s.size := by
    split
    · rename_i h45
      by_cases hlt : p + 3 < s.size
      · omega
      · rw [gb_out s _ hlt] at h45; omega
    · omega
  have h00 : p + 3 ≤ (if gb s (p + 3) = 45 then p + 4 else p + 3) := by split <;> omega
  generalize (if gb s (p + 3) = 45 then p + 4 else p + 3) = a0 at *
  have h2 := scan_bounds s hwB _ h0
  by_cases h1 : scan s hwB a0 < s.size ∧ gb s (scan s hwB a0) = 10
  · rw [if_pos h1] at h
    have h3 := scan_bounds s nlB (scan s hwB a0 + 1) (by omega)
    generalize scan s nlB (scan s hwB a0 + 1) = a at *
    unfold blkH at h
    by_cases h5 : scan s blaB a = a
    · rw [if_pos h5] at h; cases h
    · rw [if_neg h5] at h
      have h4 := scan_bounds s blaB a h3.2
      have := blkL_bounds s _ _ a q (by rw [ext_size s a _ h4.2]; omega) h
      omega
  · rw [if_neg h1] at h; cases h
theorem symS_bounds (s : ByteArray) (p q : Nat) (hp : p < s.size) (h : symS s p = some q) : p < q ∧ q ≤ s.size := by
  unfold symS at h
  split at h
  · injection h with h
    have h1 := scan_bounds s nolB (p + 1) (by omega)
    have h2 := scan_bounds s wsB _ h1.2
    omega
  · split at h
    · cases h3 : starE s (p + 2) with
      | none => rw [h3] at h; cases h
      | some k =>
        rw [h3] at h
        simp only [Option.map_some, Option.some.injEq] at h
        have h1 := starN_bounds s _ (p + 2) k h3
        have h2 := scan_bounds s wsB (k + 2) (by omega)
        omega
    · split at h
      · rename_i hb
        have := beg_size s p _ hb
        exact blkG_bounds s p q this h
      · injection h with h
        have := sym_le s p hp
        unfold wind at h
        split at h <;> omega
theorem letB_id (c : Nat) (h : letB c = true) : idB c = true := by unfold idB; rw [h]; rfl
theorem cstep_bounds (s : ByteArray) (p q : Nat) (hp : p < s.size) (h : cstep s p = some q) : p < q ∧ q ≤ s.size := by
  unfold cstep at h
  split at h
  · injection h with h; omega
  split at h
  · rename_i hd
    exact num_bounds s p q hp hd h
  split at h
  · have := strN_bounds s 34 _ (p + 1) q h; omega
  split at h
  · have := strN_bounds s 39 _ (p + 1) q h; omega
  split at h
  · split at h
    · have := verbN_bounds s _ _ (p + 2) q h; omega
    · cases h
  split at h
  · rename_i hl
    injection h with h
    rw [scan_step s idB p hp (letB_id _ hl)] at h
    have := scan_bounds s idB (p + 1) (by omega)
    omega
  split at h
  · exact symS_bounds s p q hp h
  · cases h
theorem sone_bounds (s : ByteArray) (p : Nat) (hp : p < s.size) (h : (sone s p).1 = 1) : p < (sone s p).2 ∧ (sone s p).2 ≤ s.size := by
  unfold sone at h ⊢
  by_cases c1 : wsB (gb s p) = true
  · rw [if_pos c1]; exact ⟨Nat.lt_succ_self _, hp⟩
  rw [if_neg c1] at h ⊢
  by_cases c2 : gb s p = 35 ∨ begB s p slsl = true
  · rw [if_pos c2]
    have h10 : nolB (gb s p) = true := by
      rw [nolB_ten]
      rcases c2 with c2 | c2
      · omega
      · have := ((beg2 s p 47 47).1 c2).2.1
        simp at this
        omega
    rw [scan_step s nolB p hp h10]
    have := scan_bounds s nolB (p + 1) (by omega)
    exact ⟨by show p < scan s nolB (p + 1); omega, this.2⟩
  rw [if_neg c2] at h ⊢
  by_cases c3 : begB s p slst = true
  · rw [if_pos c3] at h ⊢
    cases h3 : starE s (p + 2) with
    | none => rw [h3] at h; cases h
    | some k =>
      have h1 := starN_bounds s _ (p + 2) k h3
      exact ⟨by show p < k + 2; omega, h1.2⟩
  rw [if_neg c3] at h ⊢
  by_cases c4 : begB s p bar3 = true
  · rw [if_pos c4] at h ⊢
    exact blkS_bounds s p (beg_size s p _ c4) h
  rw [if_neg c4] at h ⊢
  by_cases c5 : begB s p atdq = true
  · rw [if_pos c5] at h ⊢
    cases h3 : verbE s 34 (p + 2) with
    | none => rw [h3] at h; cases h
    | some k =>
      have h1 := verbN_bounds s _ _ (p + 2) k h3
      exact ⟨by show p < k; omega, h1.2⟩
  rw [if_neg c5] at h ⊢
  by_cases c6 : begB s p atsq = true
  · rw [if_pos c6] at h ⊢
    cases h3 : verbE s 39 (p + 2) with
    | none => rw [h3] at h; cases h
    | some k =>
      have h1 := verbN_bounds s _ _ (p + 2) k h3
      exact ⟨by show p < k; omega, h1.2⟩
  rw [if_neg c6] at h ⊢
  have hq : ∀ q, (quoS s p (quoN s q (s.size + 1) (p + 1))).1 = 1 → p < (quoS s p (quoN s q (s.size + 1) (p + 1))).2 ∧ (quoS s p (quoN s q (s.size + 1) (p + 1))).2 ≤ s.size := by
    intro q hh
    unfold quoS at hh ⊢
    by_cases g1 : (quoN s q (s.size + 1) (p + 1)).1 = 1
    · rw [if_pos g1] at hh ⊢
      have := quoN_bounds s q _ _ g1
      split at hh
      · rename_i g2
        rw [if_pos g2]
        exact ⟨by show p < _ + 1; omega, by show _ + 1 ≤ _; omega⟩
      · cases hh
    · rw [if_neg g1] at hh
      exact absurd hh g1
  by_cases c7 : gb s p = 34
  · rw [if_pos c7] at h ⊢
    exact hq 34 h
  rw [if_neg c7] at h ⊢
  by_cases c8 : gb s p = 39
  · rw [if_pos c8] at h ⊢
    exact hq 39 h
  rw [if_neg c8] at h ⊢
  by_cases c9 : digB (gb s p) = true
  · rw [if_pos c9] at h ⊢
    cases h3 : numS s p with
    | none => rw [h3] at h; cases h
    | some k =>
      have h1 := num_bounds s p k hp c9 (num_law s p hp c9 k h3)
      exact ⟨h1.1, h1.2⟩
  rw [if_neg c9] at h ⊢
  by_cases c10 : letB (gb s p) = true
  · rw [if_pos c10] at h ⊢
    rw [scan_step s idB p hp (letB_id _ c10)]
    have := scan_bounds s idB (p + 1) (by omega)
    exact ⟨by show p < scan s idB (p + 1); omega, this.2⟩
  rw [if_neg c10] at h ⊢
  by_cases c11 : lisB (gb s p) = true
  · rw [if_pos c11]; exact ⟨Nat.lt_succ_self _, hp⟩
  rw [if_neg c11] at h ⊢
  by_cases c12 : opB (gb s p) = true
  · rw [if_pos c12] at h ⊢
    have hcm : cmB s p = false := by
      cases hc : cmB s p with
      | false => rfl
      | true =>
        exfalso
        unfold cmB at hc
        simp only [Bool.and_eq_true, Bool.or_eq_true, beq_iff_eq] at hc
        have hp1 : p + 1 < s.size := by
          by_cases hh : p + 1 < s.size
          · exact hh
          · rw [gb_out s _ hh] at hc; omega
        rcases hc.2 with h4 | h4
        · exact c2 (.inr ((beg2 s p 47 47).2 ⟨hp1, hc.1, h4⟩))
        · exact c3 ((beg2 s p 47 42).2 ⟨hp1, hc.1, h4⟩)
    have hR := run_make s p hp c12 hcm
    obtain ⟨_, h5⟩ := sg_cases hR (by rw [h]; decide)
    have h6 := hR.lt
    have h7 := hR.le
    rcases h5 with ⟨h5, _⟩ | ⟨h5, _⟩ <;> (rw [h5]; omega)
  rw [if_neg c12] at h ⊢
  split at h <;> cases h

theorem slN_fuel (s : ByteArray) : ∀ f g p, s.size - p < f → s.size - p < g → slN s f p = slN s g p := by
  intro f
  induction f with
  | zero => intro g p h; omega
  | succ f ih =>
    intro g p h1 h2
    obtain ⟨g, rfl⟩ : ∃ m, g = m + 1 := ⟨g - 1, by omega⟩
    by_cases hp : p < s.size
    · simp only [slN, if_pos hp]
      by_cases h3 : (sone s p).1 = 1
      · rw [if_pos h3, if_pos h3]
        have := sone_bounds s p hp h3
        exact ih g _ (by omega) (by omega)
      · rw [if_neg h3, if_neg h3]
    · simp only [slN, if_neg hp]
def slE (s : ByteArray) (p : Nat) : Int := slN s (s.size + 1) p
theorem slE_step (s : ByteArray) (p : Nat) (hp : p < s.size) : slE s p = if (sone s p).1 = 1 then slE s (sone s p).2 else (sone s p).1 := by
  show slN s (s.size + 1) p = _
  simp only [slN, if_pos hp]
  by_cases h3 : (sone s p).1 = 1
  · rw [if_pos h3, if_pos h3]
    have := sone_bounds s p hp h3
    exact slN_fuel s _ _ _ (by omega) (by omega)
  · rw [if_neg h3, if_neg h3]
theorem slE_end (s : ByteArray) (p : Nat) (hp : ¬ p < s.size) : slE s p = 1 := by
  show slN s (s.size + 1) p = _
  simp only [slN, if_neg hp]
theorem clN_fuel (s : ByteArray) : ∀ f g p, p ≤ s.size → s.size - p < f → s.size - p < g → clN s f p = clN s g p := by
  intro f
  induction f with
  | zero => intro g p _ h; omega
  | succ f ih =>
    intro g p hps h1 h2
    obtain ⟨g, rfl⟩ : ∃ m, g = m + 1 := ⟨g - 1, by omega⟩
    have hw := scan_bounds s wsB p hps
    simp only [clN]
    by_cases hp : scan s wsB p < s.size
    · rw [if_pos hp, if_pos hp]
      cases h3 : cstep s (scan s wsB p) with
      | none => rfl
      | some q =>
        have := cstep_bounds s _ q hp h3
        exact ih g q (by omega) (by omega) (by omega)
    · rw [if_neg hp, if_neg hp]
def clE (s : ByteArray) (p : Nat) : Bool := clN s (s.size + 1) p
theorem clE_step (s : ByteArray) (p : Nat) (hps : p ≤ s.size) : clE s p = if scan s wsB p < s.size then (match cstep s (scan s wsB p) with | none => false | some q => clE s q) else true := by
  show clN s (s.size + 1) p = _
  have hw := scan_bounds s wsB p hps
  simp only [clN]
  by_cases hp : scan s wsB p < s.size
  · rw [if_pos hp, if_pos hp]
    cases h3 : cstep s (scan s wsB p) with
    | none => rfl
    | some q =>
      have := cstep_bounds s _ q hp h3
      exact clN_fuel s _ _ q (by omega) (by omega) (by omega)
  · rw [if_neg hp, if_neg hp]
theorem clE_scan (s : ByteArray) (p : Nat) (hps : p ≤ s.size) : clE s (scan s wsB p) = clE s p := by
  have hw := scan_bounds s wsB p hps
  rw [clE_step s _ hw.2, clE_step s p hps, scan_scan s wsB _ p rfl]
theorem clE_tok (s : ByteArray) (p : Nat) (hp : p < s.size) (hw : wsB (gb s p) = false) : clE s p = match cstep s p with | none => false | some q => clE s q := by
  rw [clE_step s p (by omega), scan_stop s wsB p (fun hh => by rw [hw] at hh; cases hh.2), if_pos hp]
end Go.Proofs.YtiicdalodfjgaaaGreatFmt
