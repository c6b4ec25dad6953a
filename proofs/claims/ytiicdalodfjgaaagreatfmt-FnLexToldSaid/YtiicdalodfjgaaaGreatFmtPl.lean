/- The plain law of the two lexers: what the reference's reading ends in, the parser's reading ends in. No program in sight. -/
import Derived.Test.YtiicdalodfjgaaaGreatFmtDe
import Derived.Lib.DecodeN
namespace Go.Proofs.YtiicdalodfjgaaaGreatFmt
open Go.RowKit

/-! ### bytes and runes -/
theorem gb_out (s : ByteArray) (i : Nat) (h : ¬ i < s.size) : gb s i = 0 := by unfold gb; rw [dif_neg h]
theorem get_gb (s : ByteArray) (k : Nat) : (s.get! k).toNat = gb s k := by
  by_cases h : k < s.size
  · rw [gb_in s k h]
    congr 1
    show s.data[k]! = s.data[k]
    exact getElem!_pos s.data k h
  · rw [gb_out s k h]
    show (s.data[k]!).toNat = 0
    rw [getElem!_neg s.data k h]
    rfl
theorem hi_bytes (s : ByteArray) (i : Nat) (_h : i < s.size) (hl : 128 ≤ gb s i) (d : Nat) (h2 : d < dw s i) : 128 ≤ gb s (i + d) := by
  unfold dw at h2
  rw [Lib.decode_at] at h2
  simp only [get_gb] at h2
  unfold Lib.decodeN at h2
  match d with
  | 0 => exact hl
  | 1 =>
    by_cases c : gb s (i + 1) / 64 = 2
    · omega
    · simp [c] at h2
      split at h2 <;> simp at h2
  | 2 =>
    by_cases c : gb s (i + 2) / 64 = 2
    · omega
    · simp [c] at h2
      repeat' (split at h2)
      all_goals simp at h2
  | 3 =>
    by_cases c : gb s (i + 3) / 64 = 2
    · omega
    · simp [c] at h2
      repeat' (split at h2)
      all_goals simp at h2
  | d + 4 =>
    exfalso
    repeat' (split at h2)
    all_goals (simp at h2; try omega)
/-- the place behind the rune at a place. -/
def nx (s : ByteArray) (p : Nat) : Nat := if p < s.size then p + dw s p else p
theorem nx_low (s : ByteArray) (p : Nat) (h : p < s.size) (hl : gb s p < 128) : nx s p = p + 1 := by unfold nx; rw [if_pos h, (dec_low s p h hl).2]
theorem nx_le (s : ByteArray) (p : Nat) (h : p ≤ s.size) : p ≤ nx s p ∧ nx s p ≤ s.size := by
  unfold nx
  split
  · rename_i hp
    have := dec_width s p hp
    omega
  · omega
theorem nx_lt (s : ByteArray) (p : Nat) (h : p < s.size) : p < nx s p ∧ nx s p ≤ s.size := by
  unfold nx
  rw [if_pos h]
  have := dec_width s p h
  have := dec_pos s p h
  omega
theorem nx_bytes (s : ByteArray) (p : Nat) (h : p < s.size) (k : Nat) (h1 : p ≤ k) (h2 : k < nx s p) : k = p ∨ (128 ≤ gb s p ∧ 128 ≤ gb s k) := by
  by_cases hl : gb s p < 128
  · rw [nx_low s p h hl] at h2
    omega
  · right
    unfold nx at h2
    rw [if_pos h] at h2
    have := hi_bytes s p h (by omega) (k - p) (by omega)
    rw [show p + (k - p) = k by omega] at this
    omega
theorem scan_run (s : ByteArray) (f : Nat → Bool) (d : Nat) : ∀ p q, q - p = d → p ≤ q → q ≤ s.size → (∀ k, p ≤ k → k < q → f (gb s k) = true) → scan s f p = scan s f q := by
  induction d with
  | zero => intro p q h1 h2 _ _; rw [show p = q by omega]
  | succ d ih =>
    intro p q h1 h2 h3 h4
    rw [scan_step s f p (by omega) (h4 p (Nat.le_refl _) (by omega))]
    exact ih (p + 1) q (by omega) (by omega) h3 (fun k hk1 hk2 => h4 k (by omega) hk2)
/-- a scan that lets pass all that is no ASCII goes on by runes. -/
theorem scan_nx (s : ByteArray) (f : Nat → Bool) (hf : ∀ c, 128 ≤ c → f c = true) (p : Nat) (h : p < s.size) (hp : f (gb s p) = true) : scan s f p = scan s f (nx s p) := by
  have hn := nx_lt s p h
  refine scan_run s f _ p (nx s p) rfl (by omega) hn.2 (fun k h1 h2 => ?_)
  rcases nx_bytes s p h k h1 h2 with rfl | ⟨_, h4⟩
  · exact hp
  · exact hf _ h4
theorem scan_scan (s : ByteArray) (f : Nat → Bool) : ∀ d p, s.size - p = d → scan s f (scan s f p) = scan s f p := by
  intro d
  induction d with
  | zero => intro p h; rw [scan_stop s f p (by omega), scan_stop s f p (by omega)]
  | succ d ih =>
    intro p h
    by_cases hp : f (gb s p) = true
    · rw [scan_step s f p (by omega) hp]
      exact ih (p + 1) (by omega)
    · rw [scan_stop s f p (fun hh => hp hh.2), scan_stop s f p (fun hh => hp hh.2)]
theorem scan_at (s : ByteArray) (f : Nat → Bool) : ∀ d p, s.size - p = d → ¬ (scan s f p < s.size ∧ f (gb s (scan s f p)) = true) := by
  intro d
  induction d with
  | zero => intro p h; rw [scan_stop s f p (by omega)]; omega
  | succ d ih =>
    intro p h
    by_cases hp : f (gb s p) = true
    · rw [scan_step s f p (by omega) hp]
      exact ih (p + 1) (by omega)
    · rw [scan_stop s f p (fun hh => hp hh.2)]
      exact fun hh => hp hh.2

/-! ### what stands at a place -/
theorem beg_nil (s : ByteArray) (p : Nat) (h : p ≤ s.size) : begB s p ⟨#[]⟩ = true := by
  unfold begB
  have hz : (⟨#[]⟩ : ByteArray).size = 0 := rfl
  rw [hz, Nat.add_zero, ByteArray.toList_eq, ByteArray.toList_eq]
  have : s.extract p p = ⟨#[]⟩ := by
    apply ByteArray.ext
    simp
  rw [this, decide_eq_true h]
  rfl
theorem ext_get (s : ByteArray) (a b k : Nat) (h : a + k < b) (hb : b ≤ s.size) : (s.extract a b).data.toList[k]? = some (UInt8.ofNat (gb s (a + k))) := by
  have h2 := gb_bl s (a + k) (by omega)
  unfold bl at h2
  rw [← h2]
  simp only [ByteArray.data_extract, Array.toList_extract, List.extract_eq_take_drop]
  rw [List.getElem?_take, if_pos (by omega), List.getElem?_drop]
theorem ext_len (s : ByteArray) (a b : Nat) (hb : b ≤ s.size) : (s.extract a b).data.toList.length = b - a := by
  have : (s.extract a b).size = b - a := by simp; omega
  exact this
theorem beg_iff (s : ByteArray) (p : Nat) (t : ByteArray) : begB s p t = true ↔ p + t.size ≤ s.size ∧ ∀ k, k < t.size → gb s (p + k) = gb t k := by
  unfold begB
  simp only [Bool.and_eq_true, decide_eq_true_eq, beq_iff_eq, ByteArray.toList_eq]
  constructor
  · rintro ⟨h1, h2⟩
    refine ⟨h1, fun k hk => ?_⟩
    have h3 := ext_get s p (p + t.size) k (by omega) h1
    rw [h2] at h3
    have h4 := gb_bl t k hk
    unfold bl at h4
    rw [h4] at h3
    have h5 := Option.some.inj h3
    have h6 := congrArg UInt8.toNat h5
    simp at h6
    have := gb_lt s (p + k)
    have := gb_lt t k
    omega
  · rintro ⟨h1, h2⟩
    refine ⟨h1, ?_⟩
    apply List.ext_getElem?
    intro k
    by_cases hk : k < t.size
    · rw [ext_get s p (p + t.size) k (by omega) h1, h2 k hk]
      have h4 := gb_bl t k hk
      unfold bl at h4
      rw [h4]
    · rw [List.getElem?_eq_none (by rw [ext_len s p (p + t.size) h1]; omega), List.getElem?_eq_none (by show t.size ≤ k; omega)]
theorem beg1 (s : ByteArray) (p : Nat) (a : UInt8) : begB s p ⟨#[a]⟩ = true ↔ p < s.size ∧ gb s p = a.toNat := by
  rw [beg_iff]
  have hz : (⟨#[a]⟩ : ByteArray).size = 1 := rfl
  rw [hz]
  constructor
  · rintro ⟨h1, h2⟩
    exact ⟨by omega, h2 0 (by omega)⟩
  · rintro ⟨h1, h2⟩
    refine ⟨by omega, fun k hk => ?_⟩
    obtain rfl : k = 0 := by omega
    exact h2
theorem beg2 (s : ByteArray) (p : Nat) (a b : UInt8) : begB s p ⟨#[a, b]⟩ = true ↔ p + 1 < s.size ∧ gb s p = a.toNat ∧ gb s (p + 1) = b.toNat := by
  rw [beg_iff]
  have hz : (⟨#[a, b]⟩ : ByteArray).size = 2 := rfl
  rw [hz]
  constructor
  · rintro ⟨h1, h2⟩
    exact ⟨by omega, h2 0 (by omega), h2 1 (by omega)⟩
  · rintro ⟨h1, h2, h3⟩
    refine ⟨by omega, fun k hk => ?_⟩
    rcases (show k = 0 ∨ k = 1 by omega) with rfl | rfl
    · exact h2
    · exact h3
theorem beg3 (s : ByteArray) (p : Nat) (a b c : UInt8) : begB s p ⟨#[a, b, c]⟩ = true ↔ p + 2 < s.size ∧ gb s p = a.toNat ∧ gb s (p + 1) = b.toNat ∧ gb s (p + 2) = c.toNat := by
  rw [beg_iff]
  have hz : (⟨#[a, b, c]⟩ : ByteArray).size = 3 := rfl
  rw [hz]
  constructor
  · rintro ⟨h1, h2⟩
    exact ⟨by omega, h2 0 (by omega), h2 1 (by omega), h2 2 (by omega)⟩
  · rintro ⟨h1, h2, h3, h4⟩
    refine ⟨by omega, fun k hk => ?_⟩
    rcases (show k = 0 ∨ k = 1 ∨ k = 2 by omega) with rfl | rfl | rfl
    · exact h2
    · exact h3
    · exact h4

/-! ### comments between signs -/
theorem starN_fuel (s : ByteArray) : ∀ f g p, s.size - p < f → s.size - p < g → starN s f p = starN s g p := by
  intro f
  induction f with
  | zero => intro g p h; omega
  | succ f ih =>
    intro g p h1 h2
    obtain ⟨g, rfl⟩ : ∃ m, g = m + 1 := ⟨g - 1, by omega⟩
    by_cases hp : p < s.size
    · rw [starN_step s f p hp, starN_step s g p hp, ih g (p + 1) (by omega) (by omega)]
    · rw [starN_end s _ p hp, starN_end s _ p hp]
def starE (s : ByteArray) (p : Nat) : Option Nat := starN s (s.size + 1) p
theorem starE_step (s : ByteArray) (p : Nat) (h : p < s.size) : starE s p = if begB s p ⟨#[42, 47]⟩ = true then some p else starE s (p + 1) := by
  unfold starE
  rw [starN_step s s.size p h, starN_fuel s s.size (s.size + 1) (p + 1) (by omega) (by omega)]
theorem starE_end (s : ByteArray) (p : Nat) (h : ¬ p < s.size) : starE s p = none := starN_end s _ p h
theorem starE_run (s : ByteArray) (d : Nat) : ∀ p q, q - p = d → p ≤ q → q ≤ s.size → (∀ k, p ≤ k → k < q → begB s k ⟨#[42, 47]⟩ = false) → starE s p = starE s q := by
  induction d with
  | zero => intro p q h1 h2 _ _; rw [show p = q by omega]
  | succ d ih =>
    intro p q h1 h2 h3 h4
    rw [starE_step s p (by omega), h4 p (Nat.le_refl _) (by omega)]
    exact ih (p + 1) q (by omega) (by omega) h3 (fun k hk1 hk2 => h4 k (by omega) hk2)
theorem starE_nx (s : ByteArray) (p : Nat) (h : p < s.size) (hb : begB s p ⟨#[42, 47]⟩ = false) : starE s p = starE s (nx s p) := by
  have hn := nx_lt s p h
  refine starE_run s _ p (nx s p) rfl (by omega) hn.2 (fun k h1 h2 => ?_)
  rcases nx_bytes s p h k h1 h2 with rfl | ⟨_, h4⟩
  · exact hb
  · cases e : begB s k ⟨#[42, 47]⟩ with
    | false => rfl
    | true =>
      have := ((beg2 s k 42 47).1 e).2.1
      simp at this
      omega
theorem starN_bounds (s : ByteArray) : ∀ f p k, starN s f p = some k → p ≤ k ∧ k + 2 ≤ s.size := by
  intro f
  induction f with
  | zero => intro p k h; cases h
  | succ f ih =>
    intro p k h
    unfold starN at h
    split at h
    · split at h
      · rename_i hb
        injection h with h
        have := ((beg2 s p 42 47).1 hb).1
        omega
      · have := ih (p + 1) k h
        omega
    · cases h

/-! ### strings in which nothing is escaped -/
theorem verbN_fuel (s : ByteArray) (q : Nat) : ∀ f g p, s.size - p < f → s.size - p < g → verbN s q f p = verbN s q g p := by
  intro f
  induction f using Nat.strongRecOn with
  | _ f ih =>
    intro g p h1 h2
    obtain ⟨f, rfl⟩ : ∃ m, f = m + 1 := ⟨f - 1, by omega⟩
    obtain ⟨g, rfl⟩ : ∃ m, g = m + 1 := ⟨g - 1, by omega⟩
    by_cases hp : p < s.size
    · rw [verbN_step s q f p hp, verbN_step s q g p hp, ih f (by omega) g (p + 1) (by omega) (by omega), ih f (by omega) g (p + 2) (by omega) (by omega)]
    · rw [verbN_end s q _ p hp, verbN_end s q _ p hp]
def verbE (s : ByteArray) (q p : Nat) : Option Nat := verbN s q (s.size + 1) p
theorem verbE_step (s : ByteArray) (q p : Nat) (h : p < s.size) : verbE s q p = if gb s p = q then (if p + 1 < s.size ∧ gb s (p + 1) = q then verbE s q (p + 2) else some (p + 1)) else verbE s q (p + 1) := by
  unfold verbE
  rw [verbN_step s q s.size p h, verbN_fuel s q s.size (s.size + 1) (p + 1) (by omega) (by omega), verbN_fuel s q s.size (s.size + 1) (p + 2) (by omega) (by omega)]
theorem verbE_end (s : ByteArray) (q p : Nat) (h : ¬ p < s.size) : verbE s q p = none := verbN_end s q _ p h
theorem verbE_run (s : ByteArray) (q : Nat) (d : Nat) : ∀ p r, r - p = d → p ≤ r → r ≤ s.size → (∀ k, p ≤ k → k < r → gb s k ≠ q) → verbE s q p = verbE s q r := by
  induction d with
  | zero => intro p r h1 h2 _ _; rw [show p = r by omega]
  | succ d ih =>
    intro p r h1 h2 h3 h4
    rw [verbE_step s q p (by omega), if_neg (h4 p (Nat.le_refl _) (by omega))]
    exact ih (p + 1) r (by omega) (by omega) h3 (fun k hk1 hk2 => h4 k (by omega) hk2)
theorem verbE_nx (s : ByteArray) (q p : Nat) (hq : q < 128) (h : p < s.size) (hb : gb s p ≠ q) : verbE s q p = verbE s q (nx s p) := by
  have hn := nx_lt s p h
  refine verbE_run s q _ p (nx s p) rfl (by omega) hn.2 (fun k h1 h2 => ?_)
  rcases nx_bytes s p h k h1 h2 with rfl | ⟨_, h4⟩
  · exact hb
  · omega
theorem verbN_bounds (s : ByteArray) (q : Nat) : ∀ f p k, verbN s q f p = some k → p < k ∧ k ≤ s.size := by
  intro f
  induction f with
  | zero => intro p k h; cases h
  | succ f ih =>
    intro p k h
    unfold verbN at h
    split at h
    · split at h
      · split at h
        · have := ih _ k h
          omega
        · injection h with h
          omega
      · have := ih _ k h
        omega
    · cases h

/-! ### strings between quotes -/
/-- the place behind the closing quote. -/
def strN (s : ByteArray) (q : Nat) : Nat → Nat → Option Nat
  | 0, _ => none
  | f + 1, k => if k < s.size then (if gb s k = q then some (k + 1) else if gb s k = 92 then strN s q f (k + 2) else strN s q f (k + 1)) else none
theorem strN_step (s : ByteArray) (q f k : Nat) (h : k < s.size) : strN s q (f + 1) k = if gb s k = q then some (k + 1) else if gb s k = 92 then strN s q f (k + 2) else strN s q f (k + 1) := by
  rw [strN, if_pos h]
theorem strN_end (s : ByteArray) (q f k : Nat) (h : ¬ k < s.size) : strN s q f k = none := by
  cases f with
  | zero => rfl
  | succ f => rw [strN, if_neg h]
theorem strN_fuel (s : ByteArray) (q : Nat) : ∀ f g p, s.size - p < f → s.size - p < g → strN s q f p = strN s q g p := by
  intro f
  induction f with
  | zero => intro g p h; omega
  | succ f ih =>
    intro g p h1 h2
    obtain ⟨g, rfl⟩ : ∃ m, g = m + 1 := ⟨g - 1, by omega⟩
    by_cases hp : p < s.size
    · rw [strN_step s q f p hp, strN_step s q g p hp, ih g (p + 1) (by omega) (by omega), ih g (p + 2) (by omega) (by omega)]
    · rw [strN_end s q _ p hp, strN_end s q _ p hp]
def strE (s : ByteArray) (q p : Nat) : Option Nat := strN s q (s.size + 1) p
theorem strE_step (s : ByteArray) (q p : Nat) (h : p < s.size) : strE s q p = if gb s p = q then some (p + 1) else if gb s p = 92 then strE s q (p + 2) else strE s q (p + 1) := by
  unfold strE
  rw [strN_step s q s.size p h, strN_fuel s q s.size (s.size + 1) (p + 1) (by omega) (by omega), strN_fuel s q s.size (s.size + 1) (p + 2) (by omega) (by omega)]
theorem strE_end (s : ByteArray) (q p : Nat) (h : ¬ p < s.size) : strE s q p = none := strN_end s q _ p h
theorem strE_run (s : ByteArray) (q : Nat) (d : Nat) : ∀ p r, r - p = d → p ≤ r → r ≤ s.size → (∀ k, p ≤ k → k < r → gb s k ≠ q ∧ gb s k ≠ 92) → strE s q p = strE s q r := by
  induction d with
  | zero => intro p r h1 h2 _ _; rw [show p = r by omega]
  | succ d ih =>
    intro p r h1 h2 h3 h4
    have h5 := h4 p (Nat.le_refl _) (by omega)
    rw [strE_step s q p (by omega), if_neg h5.1, if_neg h5.2]
    exact ih (p + 1) r (by omega) (by omega) h3 (fun k hk1 hk2 => h4 k (by omega) hk2)
theorem strE_nx (s : ByteArray) (q p : Nat) (hq : q < 128) (h : p < s.size) (hb : gb s p ≠ q) (hb' : gb s p ≠ 92) : strE s q p = strE s q (nx s p) := by
  have hn := nx_lt s p h
  refine strE_run s q _ p (nx s p) rfl (by omega) hn.2 (fun k h1 h2 => ?_)
  rcases nx_bytes s p h k h1 h2 with rfl | ⟨_, h4⟩
  · exact ⟨hb, hb'⟩
  · omega
/-- behind a backslash the code goes on by a rune. -/
theorem strE_esc (s : ByteArray) (q p : Nat) (hq : q < 128) (h : p + 1 < s.size) (hb : gb s p ≠ q) (hb' : gb s p = 92) : strE s q p = strE s q (nx s (p + 1)) := by
  have hn := nx_lt s (p + 1) h
  rw [strE_step s q p (by omega), if_neg hb, if_pos hb']
  refine strE_run s q _ (p + 2) (nx s (p + 1)) rfl (by omega) hn.2 (fun k h1 h2 => ?_)
  rcases nx_bytes s (p + 1) h k (by omega) h2 with rfl | ⟨_, h4⟩
  · omega
  · omega
theorem strE_last (s : ByteArray) (q p : Nat) (h : p + 1 = s.size) (hb : gb s p ≠ q) : strE s q p = none := by
  rw [strE_step s q p (by omega), if_neg hb]
  split <;> exact strE_end s q _ (by omega)
theorem strN_bounds (s : ByteArray) (q : Nat) : ∀ f p k, strN s q f p = some k → p < k ∧ k ≤ s.size := by
  intro f
  induction f with
  | zero => intro p k h; cases h
  | succ f ih =>
    intro p k h
    unfold strN at h
    split at h
    · split at h
      · injection h with h
        omega
      · split at h
        · have := ih _ k h
          omega
        · have := ih _ k h
          omega
    · cases h
theorem quo_str (s : ByteArray) (q : Nat) : ∀ f p, ((quoN s q f p).1 = 1 → strN s q f p = some ((quoN s q f p).2 + 1)) ∧ ((quoN s q f p).1 = 2 → strN s q f p = none) := by
  intro f
  induction f with
  | zero => intro p; exact ⟨fun h => (by first | cases h | simp at h), fun _ => rfl⟩
  | succ f ih =>
    intro p
    by_cases hp : p < s.size
    · by_cases hq : gb s p = q
      · rw [quoN_fine s q f p hp hq, strN_step s q f p hp, if_pos hq]
        exact ⟨fun _ => rfl, fun (h : (1 : Int) = 2) => by cases h⟩
      · rw [quoN_step s q f p ⟨hp, hq⟩, strN_step s q f p hp, if_neg hq]
        by_cases h10 : gb s p = 10
        · rw [if_pos h10]
          exact ⟨fun h => (by first | cases h | simp at h), fun h => (by first | cases h | simp at h)⟩
        · rw [if_neg h10]
          by_cases h92 : gb s p = 92
          · rw [if_pos h92, if_pos h92]
            exact ih (p + 2)
          · rw [if_neg h92, if_neg h92]
            exact ih (p + 1)
    · rw [quoN_end s q _ p hp, strN_end s q _ p hp]
      exact ⟨fun h => (by first | cases h | simp at h), fun _ => rfl⟩
theorem quoN_bounds (s : ByteArray) (q : Nat) : ∀ f p, (quoN s q f p).1 = 1 → p ≤ (quoN s q f p).2 ∧ (quoN s q f p).2 < s.size := by
  intro f
  induction f with
  | zero => intro p h; cases h
  | succ f ih =>
    intro p
    by_cases hp : p < s.size
    · by_cases hq : gb s p = q
      · rw [quoN_fine s q f p hp hq]
        exact fun _ => ⟨Nat.le_refl _, hp⟩
      · rw [quoN_step s q f p ⟨hp, hq⟩]
        split
        · exact fun h => (by first | cases h | simp at h)
        · split
          · intro h; have := ih (p + 2) h; omega
          · intro h; have := ih (p + 1) h; omega
    · rw [quoN_end s q _ p hp]
      exact fun h => (by first | cases h | simp at h)
end Go.Proofs.YtiicdalodfjgaaaGreatFmt
