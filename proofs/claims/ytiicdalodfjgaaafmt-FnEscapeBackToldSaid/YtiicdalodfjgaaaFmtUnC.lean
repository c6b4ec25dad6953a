/- The plain law of Unescape: what StringUnescape comes to, and that it answers as the reference does. -/
import Derived.Test.YtiicdalodfjgaaaFmtUnB
namespace Go.Proofs.YtiicdalodfjgaaaFmt

/-- the rune of a pair of halves, U+FFFD where they are none. -/
def decR (n m : Int) : Int := if 55296 ≤ n ∧ n < 56320 ∧ 56320 ≤ m ∧ m < 57344 then (n - 55296) * 1024 + (m - 56320) + 65536 else 65533
/-- what StringUnescape comes to from a place on: the text, or none for an error. -/
def uC (s : ByteArray) : Nat → Nat → List UInt8 → Option (List UInt8)
  | 0, _, _ => none
  | f + 1, i, out =>
    if i < s.size then
      if dr s i ≠ 92 then uC s f (i + dw s i) (out ++ Lib.encodeRune (dr s i))
      else if s.size ≤ i + 1 then none
      else if (plainE (dr s (i + 1))).isSome then uC s f (i + 2) (out ++ bl (lookS (dr s (i + 1))))
      else if dr s (i + 1) ≠ 117 then none
      else if fourV s (i + 2) < 0 then none
      else if 55296 ≤ fourV s (i + 2) ∧ fourV s (i + 2) < 57344 then
        if s.size < i + 12 then none
        else if ¬ (gb s (i + 6) = 92 ∧ gb s (i + 7) = 117) then none
        else if fourV s (i + 8) < 0 then none
        else uC s f (i + 12) (out ++ Lib.encodeRune (decR (fourV s (i + 2)) (fourV s (i + 8))))
      else uC s f (i + 6) (out ++ Lib.encodeRune (fourV s (i + 2)))
    else some out
theorem uC_step (s : ByteArray) (f i : Nat) (out : List UInt8) (h : i < s.size) : uC s (f + 1) i out =
      if dr s i ≠ 92 then uC s f (i + dw s i) (out ++ Lib.encodeRune (dr s i))
      else if s.size ≤ i + 1 then none
      else if (plainE (dr s (i + 1))).isSome then uC s f (i + 2) (out ++ bl (lookS (dr s (i + 1))))
      else if dr s (i + 1) ≠ 117 then none
      else if fourV s (i + 2) < 0 then none
      else if 55296 ≤ fourV s (i + 2) ∧ fourV s (i + 2) < 57344 then
        if s.size < i + 12 then none
        else if ¬ (gb s (i + 6) = 92 ∧ gb s (i + 7) = 117) then none
        else if fourV s (i + 8) < 0 then none
        else uC s f (i + 12) (out ++ Lib.encodeRune (decR (fourV s (i + 2)) (fourV s (i + 8))))
      else uC s f (i + 6) (out ++ Lib.encodeRune (fourV s (i + 2))) := by
  rw [uC, if_pos h]

theorem plainE_high (c : Nat) (h : 128 ≤ c) : plainE c = none := by
  unfold plainE
  repeat (rw [if_neg (by omega)])
theorem hexv_low (c : Int) (h : 0 ≤ hexv c) : c < 128 := by
  unfold hexv at h
  split at h
  · omega
  split at h
  · omega
  split at h <;> omega
theorem fourR_low (s : ByteArray) (i : Nat) : ∀ (d : Nat) (n : Int), d ≤ 4 → 0 ≤ fourR s i d n → ∀ k, 4 - d ≤ k → k < 4 → gb s (i + k) < 128
  | 0, _, _, _, k, h1, h2 => by omega
  | d + 1, n, hd, h, k, h1, h2 => by
    unfold fourR at h
    split at h
    · omega
    · rename_i hn
      by_cases e : k = 3 - d
      · have := hexv_low (gb s (i + (3 - d))) (by omega)
        rw [e]
        omega
      · exact fourR_low s i d _ (by omega) h k (by omega) h2
theorem fourV_low (s : ByteArray) (i : Nat) (h : 0 ≤ fourV s i) (k : Nat) (hk : k < 4) : gb s (i + k) < 128 := by
  unfold fourV at h
  split at h
  · exact fourR_low s i 4 0 (by omega) h k (by omega) hk
  · omega
theorem Bd.lows {s : ByteArray} {i : Nat} (hb : Bd s i) : ∀ (k : Nat), i + k ≤ s.size → (∀ j, j < k → gb s (i + j) < 128) → Bd s (i + k)
  | 0, _, _ => hb
  | k + 1, h, hl => (Bd.lows hb k (by omega) (fun j hj => hl j (by omega))).low (by omega) (hl k (by omega))

theorem uS_run (s : ByteArray) : ∀ (k f i : Nat) (out : List UInt8), i + k ≤ s.size → (∀ j, j < k → gb s (i + j) ≠ 92) → uS s (f + k) i out = uS s f (i + k) (out ++ ((bl s).drop i).take k)
  | 0, f, i, out, _, _ => by simp
  | k + 1, f, i, out, h, hn => by
    have h0 := hn 0 (by omega)
    rw [Nat.add_zero] at h0
    rw [show f + (k + 1) = (f + k) + 1 by omega, uS_step s (f + k) i out (by omega), if_pos h0, uS_run s k f (i + 1) _ (by omega) (fun j hj => by have := hn (j + 1) (by omega); rwa [show i + 1 + j = i + (j + 1) by omega])]
    rw [drop_bl s i (by omega), List.take_succ_cons, show i + 1 + k = i + (k + 1) by omega]
    simp

theorem uS_fuel (s : ByteArray) (d : Nat) : ∀ (f g i : Nat) (out : List UInt8), s.size - i ≤ d → s.size - i < f → s.size - i < g → uS s f i out = uS s g i out := by
  induction d with
  | zero =>
    intro f g i out hd hf hg
    obtain ⟨f, rfl⟩ : ∃ m, f = m + 1 := ⟨f - 1, by omega⟩
    obtain ⟨g, rfl⟩ : ∃ m, g = m + 1 := ⟨g - 1, by omega⟩
    unfold uS
    rw [if_neg (by omega), if_neg (by omega)]
  | succ d ih =>
    intro f g i out hd hf hg
    by_cases h : i < s.size
    · obtain ⟨f, rfl⟩ : ∃ m, f = m + 1 := ⟨f - 1, by omega⟩
      obtain ⟨g, rfl⟩ : ∃ m, g = m + 1 := ⟨g - 1, by omega⟩
      rw [uS_step s f i out h, uS_step s g i out h]
      rw [ih f g (i + 1) _ (by omega) (by omega) (by omega), ih f g (i + 2) _ (by omega) (by omega) (by omega), ih f g (i + 12) _ (by omega) (by omega) (by omega), ih f g (i + 6) _ (by omega) (by omega) (by omega)]
    · obtain ⟨f, rfl⟩ : ∃ m, f = m + 1 := ⟨f - 1, by omega⟩
      obtain ⟨g, rfl⟩ : ∃ m, g = m + 1 := ⟨g - 1, by omega⟩
      unfold uS
      rw [if_neg h, if_neg h]

def Agree (r : List UInt8 × Int) (c : Option (List UInt8)) : Prop := (r.2 = 1 → c = some r.1) ∧ (r.2 = 2 → c = none)
theorem agree_wrong : Agree ([], 2) none := ⟨(fun h => by cases h), fun _ => rfl⟩
theorem agree_open (c : Option (List UInt8)) : Agree ([], 0) c := ⟨(fun h => by cases h), (fun h => by cases h)⟩

theorem both (s : ByteArray) (d : Nat) : ∀ (f g i : Nat) (out : List UInt8), s.size - i ≤ d → s.size - i < f → s.size - i < g → Bd s i → Agree (uS s f i out) (uC s g i out) := by
  induction d with
  | zero =>
    intro f g i out hd hf hg hb
    obtain ⟨f, rfl⟩ : ∃ m, f = m + 1 := ⟨f - 1, by omega⟩
    obtain ⟨g, rfl⟩ : ∃ m, g = m + 1 := ⟨g - 1, by omega⟩
    unfold uS uC
    rw [if_neg (by omega), if_neg (by omega)]
    exact ⟨fun _ => rfl, (fun h => by cases h)⟩
  | succ d ih =>
    intro f g i out hd hf hg hb
    obtain ⟨g, rfl⟩ : ∃ m, g = m + 1 := ⟨g - 1, by have := hb.le; omega⟩
    by_cases h : i < s.size
    · obtain ⟨st1, st2, st3, st4⟩ := hb.step h
      have hdw := dec_pos s i h
      rw [uC_step s g i out h]
      by_cases c1 : gb s i = 92
      · obtain ⟨e1, e2⟩ := dec_low s i h (by omega)
        rw [if_neg (by omega)]
        obtain ⟨f, rfl⟩ : ∃ m, f = m + 1 := ⟨f - 1, by omega⟩
        rw [uS_step s f i out h, if_neg (by omega)]
        by_cases c2 : s.size ≤ i + 1
        · rw [if_pos c2, if_pos c2]; exact agree_wrong
        rw [if_neg c2, if_neg c2]
        have hb1 : Bd s (i + 1) := hb.low h (by omega)
        by_cases c3 : gb s (i + 1) < 128
        · obtain ⟨e3, e4⟩ := dec_low s (i + 1) (by omega) c3
          rw [e3]
          have hb2 : Bd s (i + 2) := hb1.low (by omega) c3
          by_cases c4 : (plainE (gb s (i + 1))).isSome = true
          · rw [if_pos c4, if_pos c4]
            exact ih f g (i + 2) _ (by omega) (by omega) (by omega) hb2
          rw [if_neg c4, if_neg c4]
          by_cases c5 : gb s (i + 1) ≠ 117
          · rw [if_pos c5, if_pos c5]; exact agree_wrong
          rw [if_neg c5, if_neg c5]
          by_cases c6 : fourV s (i + 2) < 0
          · rw [if_pos c6, if_pos c6]; exact agree_wrong
          rw [if_neg c6, if_neg c6]
          have hfit := fourV_fits s (i + 2) (by omega)
          have hb6 : Bd s (i + 6) := hb2.lows 4 (by omega) (fun j hj => fourV_low s (i + 2) (by omega) j hj)
          by_cases c7 : 55296 ≤ fourV s (i + 2) ∧ fourV s (i + 2) < 57344
          · rw [if_pos c7, if_pos c7]
            by_cases c8 : lowV s (fourV s (i + 2)) (i + 5) < 56320 ∨ 57344 ≤ lowV s (fourV s (i + 2)) (i + 5)
            · rw [if_pos c8]; exact agree_open _
            rw [if_neg c8]
            by_cases c9 : fourV s (i + 2) < 56320 ∧ i + 7 < s.size ∧ gb s (i + 6) = 92 ∧ gb s (i + 7) = 117
            · rw [lowV_yes s _ i c9] at c8 ⊢
              have hfit8 := fourV_fits s (i + 8) (by omega)
              rw [if_neg (by omega), if_neg (by omega), if_neg (by omega)]
              have ep : pairV (fourV s (i + 2)) (fourV s (i + 8)) = decR (fourV s (i + 2)) (fourV s (i + 8)) := by
                unfold pairV decR
                rw [if_pos (by omega)]
                omega
              rw [ep]
              refine ih f g (i + 12) _ (by omega) (by omega) (by omega) ?_
              have hb8 : Bd s (i + 8) := hb6.lows 2 (by omega) (fun j hj => by
                match j, hj with
                | 0, _ => rw [show i + 6 + 0 = i + 6 by omega]; omega
                | 1, _ => rw [show i + 6 + 1 = i + 7 by omega]; omega)
              exact hb8.lows 4 (by omega) (fun j hj => fourV_low s (i + 8) (by omega) j hj)
            · rw [lowV_no s _ i c9] at c8
              omega
          · rw [if_neg c7, if_neg c7]
            exact ih f g (i + 6) _ (by omega) (by omega) (by omega) hb6
        · have e3 := (dec_high s (i + 1) (by omega) (by omega)).1
          rw [plainE_high _ (show 128 ≤ gb s (i + 1) by omega), plainE_high _ e3]
          rw [if_neg (show ¬ ((none : Option UInt8).isSome = true) by decide), if_neg (show ¬ ((none : Option UInt8).isSome = true) by decide), if_pos (show gb s (i + 1) ≠ 117 by omega), if_pos (show dr s (i + 1) ≠ 117 by omega)]
          exact agree_wrong
      · have hne : dr s i ≠ 92 := by
          by_cases hl : gb s i < 128
          · rw [(dec_low s i h hl).1]; exact c1
          · have := (dec_high s i h (by omega)).1; omega
        rw [if_pos hne]
        have hrun := uS_run s (dw s i) (f - dw s i) i out st3 (fun j hj => by
          by_cases hl : gb s i < 128
          · rw [(dec_low s i h hl).2] at hj
            obtain rfl : j = 0 := by omega
            exact c1
          · have := hb.high h (by omega) j hj
            omega)
        rw [show f - dw s i + dw s i = f by omega] at hrun
        rw [hrun, ← st1]
        exact ih _ g (i + dw s i) _ (by omega) (by omega) (by omega) st4
    · obtain ⟨f, rfl⟩ : ∃ m, f = m + 1 := ⟨f - 1, by omega⟩
      unfold uS uC
      rw [if_neg h, if_neg h]
      exact ⟨fun _ => rfl, (fun h => by cases h)⟩

def unescC (s : ByteArray) : Option (List UInt8) := uC s (s.size + 1) 0 []
theorem unesc_agree (s : ByteArray) : Agree (unesc s) (unescC s) := by
  unfold unesc unescC
  split
  · rename_i hu
    exact both s s.size _ _ 0 [] (by omega) (by omega) (by omega) ((utfB_bd s).1 hu)
  · exact agree_open _
end Go.Proofs.YtiicdalodfjgaaaFmt
