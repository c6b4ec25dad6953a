/- The plain law of the two lexers, third part: blocks, operators, and the two readings side by side. No program in sight. -/
import Derived.Test.YtiicdalodfjgaaaGreatFmtPm
namespace Go.Proofs.YtiicdalodfjgaaaGreatFmt
open Go.RowKit

def wsB (c : Nat) : Bool := c == 10 || c == 32 || c == 9 || c == 13
def hwB (c : Nat) : Bool := c == 32 || c == 9 || c == 13
def nlB (c : Nat) : Bool := c == 10
def idB (c : Nat) : Bool := letB c || digB c
def lisB (c : Nat) : Bool := c == 123 || c == 125 || c == 91 || c == 93 || c == 40 || c == 41 || c == 44 || c == 46 || c == 59
def trimB (c : Nat) : Bool := c == 43 || c == 45 || c == 126 || c == 33 || c == 36
abbrev bar3 : ByteArray := ⟨#[124, 124, 124]⟩

/-! ### blocks -/
/-- the reference's lines of a block: where they end. -/
def blkB (s ind : ByteArray) : Nat → Nat → Nat
  | 0, k => k
  | f + 1, k => if k < s.size then (if gb s k = 10 then blkB s ind f (k + 1) else if begB s k ind = true then blkB s ind f (if scan s nolB (k + ind.size) < s.size then scan s nolB (k + ind.size) + 1 else scan s nolB (k + ind.size)) else k) else k
theorem blkB_end (s ind : ByteArray) (f k : Nat) (h : ¬ k < s.size) : blkB s ind f k = k := by
  cases f with
  | zero => rfl
  | succ f => rw [blkB, if_neg h]
theorem beg_size (s : ByteArray) (p : Nat) (t : ByteArray) (h : begB s p t = true) : p + t.size ≤ s.size := ((beg_iff s p t).1 h).1
theorem blkB_fuel (s ind : ByteArray) (hi : 0 < ind.size) : ∀ f g k, s.size - k < f → s.size - k < g → blkB s ind f k = blkB s ind g k := by
  intro f
  induction f with
  | zero => intro g k h; omega
  | succ f ih =>
    intro g k h1 h2
    obtain ⟨g, rfl⟩ : ∃ m, g = m + 1 := ⟨g - 1, by omega⟩
    by_cases hk : k < s.size
    · simp only [blkB, if_pos hk]
      split
      · exact ih g (k + 1) (by omega) (by omega)
      · split
        · rename_i hb
          have h3 := beg_size s k ind hb
          have h4 := scan_bounds s nolB (k + ind.size) h3
          split
          · exact ih g _ (by omega) (by omega)
          · exact ih g _ (by omega) (by omega)
        · rfl
    · rw [blkB_end s ind _ k hk, blkB_end s ind _ k hk]
def blkE (s ind : ByteArray) (k : Nat) : Nat := blkB s ind (s.size + 1) k
theorem blkE_step (s ind : ByteArray) (hi : 0 < ind.size) (k : Nat) (h : k < s.size) : blkE s ind k = if gb s k = 10 then blkE s ind (k + 1) else if begB s k ind = true then blkE s ind (if scan s nolB (k + ind.size) < s.size then scan s nolB (k + ind.size) + 1 else scan s nolB (k + ind.size)) else k := by
  show blkB s ind (s.size + 1) k = _
  rw [blkB, if_pos h]
  unfold blkE
  split
  · exact blkB_fuel s ind hi _ _ _ (by omega) (by omega)
  · split
    · rename_i hb
      have h3 := beg_size s k ind hb
      have h4 := scan_bounds s nolB (k + ind.size) h3
      exact blkB_fuel s ind hi _ _ _ (by split <;> omega) (by split <;> omega)
    · rfl
theorem blkE_end (s ind : ByteArray) (k : Nat) (h : ¬ k < s.size) : blkE s ind k = k := blkB_end s ind _ k h
theorem blkE_nl (s ind : ByteArray) (hi : 0 < ind.size) : ∀ d k, s.size - k = d → blkE s ind k = blkE s ind (scan s nlB k) := by
  intro d
  induction d with
  | zero => intro k h; rw [scan_stop s nlB k (by omega)]
  | succ d ih =>
    intro k h
    by_cases hk : nlB (gb s k) = true
    · rw [scan_step s nlB k (by omega) hk, blkE_step s ind hi k (by omega), if_pos (by unfold nlB at hk; simpa using hk)]
      exact ih (k + 1) (by omega)
    · rw [scan_stop s nlB k (fun hh => hk hh.2)]
theorem blkB_bounds (s ind : ByteArray) : ∀ f k, k ≤ s.size → k ≤ blkB s ind f k ∧ blkB s ind f k ≤ s.size := by
  intro f
  induction f with
  | zero => intro k h; exact ⟨Nat.le_refl _, h⟩
  | succ f ih =>
    intro k h
    by_cases hk : k < s.size
    · rw [blkB, if_pos hk]
      split
      · have := ih (k + 1) (by omega); omega
      · split
        · rename_i hb
          have h3 := beg_size s k ind hb
          have h4 := scan_bounds s nolB (k + ind.size) h3
          split
          · have := ih (scan s nolB (k + ind.size) + 1) (by omega); omega
          · have := ih (scan s nolB (k + ind.size)) (by omega); omega
        · omega
    · rw [blkB_end s ind _ k hk]; omega
/-- the code's lines of a block. -/
def blkL (s ind : ByteArray) : Nat → Nat → Option Nat
  | 0, _ => none
  | f + 1, k => if scan s nolB (k + ind.size) < s.size then (if begB s (scan s nlB (scan s nolB (k + ind.size) + 1)) ind = true then blkL s ind f (scan s nlB (scan s nolB (k + ind.size) + 1)) else if begB s (scan s blaB (scan s nlB (scan s nolB (k + ind.size) + 1))) bar3 = true then some (scan s blaB (scan s nlB (scan s nolB (k + ind.size) + 1)) + 3) else none) else none
def blkR (s ind : ByteArray) (k : Nat) : Option Nat := if begB s (scan s blaB (blkE s ind k)) bar3 = true then some (scan s blaB (blkE s ind k) + 3) else none
theorem nolB_ten (c : Nat) : nolB c = true ↔ c ≠ 10 := by simp [nolB]
theorem blk_law (s ind : ByteArray) (hi : 0 < ind.size) (hb0 : blaB (gb ind 0) = true) : ∀ f k, s.size - k < f → begB s k ind = true → blkL s ind f k = blkR s ind k := by
  intro f
  induction f with
  | zero => intro k h; omega
  | succ f ih =>
    intro k hf hb
    have h3 := beg_size s k ind hb
    have h4 := scan_bounds s nolB (k + ind.size) h3
    have h10 : gb s k ≠ 10 := by
      have := ((beg_iff s k ind).1 hb).2 0 hi
      rw [Nat.add_zero] at this
      rw [this]
      intro h
      rw [h] at hb0
      cases hb0
    have e1 := blkE_step s ind hi k (by omega)
    rw [if_neg h10, if_pos hb] at e1
    unfold blkL
    by_cases h5 : scan s nolB (k + ind.size) < s.size
    · rw [if_pos h5]
      rw [if_pos h5, blkE_nl s ind hi _ (scan s nolB (k + ind.size) + 1) rfl] at e1
      have h6 := scan_bounds s nlB (scan s nolB (k + ind.size) + 1) (by omega)
      have h7 := scan_at s nlB _ (scan s nolB (k + ind.size) + 1) rfl
      generalize scan s nlB (scan s nolB (k + ind.size) + 1) = k3 at *
      by_cases h8 : begB s k3 ind = true
      · rw [if_pos h8, ih k3 (by omega) h8]
        unfold blkR
        rw [e1]
      · rw [if_neg h8]
        have e2 : blkE s ind k3 = k3 := by
          by_cases h9 : k3 < s.size
          · rw [blkE_step s ind hi k3 h9, if_neg (fun h => h7 ⟨h9, by unfold nlB; simp [h]⟩), if_neg h8]
          · exact blkE_end s ind k3 h9
        unfold blkR
        rw [e1, e2]
    · rw [if_neg h5]
      rw [if_neg h5, blkE_end s ind _ h5] at e1
      unfold blkR
      rw [e1, scan_stop s blaB _ (by omega), if_neg]
      intro h
      have := beg_size s _ _ h
      have hz : bar3.size = 3 := rfl
      omega
/-- the reference's block: the state (0: what it says does not count), and the place behind it. -/
def blkS (s : ByteArray) (p : Nat) : Int × Nat :=
  if scan s blaB (p + 3) < s.size ∧ gb s (scan s blaB (p + 3)) = 10 then
    (if scan s blaB (scan s nlB (scan s blaB (p + 3) + 1)) = scan s nlB (scan s blaB (p + 3) + 1) then (2, p) else
      match blkR s (s.extract (scan s nlB (scan s blaB (p + 3) + 1)) (scan s blaB (scan s nlB (scan s blaB (p + 3) + 1)))) (scan s nlB (scan s blaB (p + 3) + 1)) with
      | some q => (1, q)
      | none => (2, p))
  else (0, p)
/-- the code's block, from the line behind its head on. -/
def blkH (s : ByteArray) (a : Nat) : Option Nat :=
  if scan s blaB a = a then none else blkL s (s.extract a (scan s blaB a)) (s.size + 1) a
def blkG (s : ByteArray) (p : Nat) : Option Nat :=
  if scan s hwB (if gb s (p + 3) = 45 then p + 4 else p + 3) < s.size ∧ gb s (scan s hwB (if gb s (p + 3) = 45 then p + 4 else p + 3)) = 10 then
    blkH s (scan s nlB (scan s hwB (if gb s (p + 3) = 45 then p + 4 else p + 3) + 1))
  else none
theorem ext_size (s : ByteArray) (a b : Nat) (hb : b ≤ s.size) : (s.extract a b).size = b - a := by simp; omega
theorem gb_ext (s : ByteArray) (a b k : Nat) (h : a + k < b) (hb : b ≤ s.size) : gb (s.extract a b) k = gb s (a + k) := by
  have h1 := ext_get s a b k h hb
  have h2 := gb_bl (s.extract a b) k (by rw [ext_size s a b hb]; omega)
  unfold bl at h2
  rw [h1] at h2
  have h3 := congrArg UInt8.toNat (Option.some.inj h2)
  simp at h3
  have := gb_lt s (a + k)
  have := gb_lt (s.extract a b) k
  omega
theorem beg_ext (s : ByteArray) (a b : Nat) (hab : a ≤ b) (hb : b ≤ s.size) : begB s a (s.extract a b) = true := by
  rw [beg_iff, ext_size s a b hb]
  exact ⟨by omega, fun k hk => (gb_ext s a b k (by omega) hb).symm⟩
theorem blk_both (s : ByteArray) (p : Nat) (hp : p + 3 ≤ s.size) : ((blkS s p).1 = 1 → blkG s p = some (blkS s p).2) ∧ ((blkS s p).1 = 2 → blkG s p = none) := by
  unfold blkS
  by_cases h1 : scan s blaB (p + 3) < s.size ∧ gb s (scan s blaB (p + 3)) = 10
  · rw [if_pos h1]
    have hb := scan_bounds s blaB (p + 3) hp
    have hf := scan_facts s blaB _ (p + 3) rfl hp
    have h45 : gb s (p + 3) ≠ 45 := by
      intro h
      rw [scan_stop s blaB (p + 3) (fun hh => by have := hh.2; rw [h] at this; cases this)] at h1
      rw [h] at h1
      exact absurd h1.2 (by decide)
    have hs : scan s hwB (p + 3) = scan s blaB (p + 3) := by
      rw [scan_run s hwB _ (p + 3) (scan s blaB (p + 3)) rfl hb.1 hb.2 (fun k hk1 hk2 => by
        have := hf k hk1 hk2
        unfold blaB at this
        unfold hwB
        simp at this ⊢
        omega)]
      exact scan_stop s hwB _ (fun hh => by have := hh.2; rw [h1.2] at this; cases this)
    unfold blkG
    rw [if_neg h45, hs, if_pos h1]
    unfold blkH
    have hb2 := scan_bounds s nlB (scan s blaB (p + 3) + 1) (by omega)
    generalize scan s nlB (scan s blaB (p + 3) + 1) = a at *
    have hb3 := scan_bounds s blaB a hb2.2
    have hf3 := scan_facts s blaB _ a rfl hb2.2
    by_cases h2 : scan s blaB a = a
    · rw [if_pos h2, if_pos h2]
      exact ⟨fun h => (by first | cases h | simp at h), fun _ => rfl⟩
    · rw [if_neg h2, if_neg h2]
      have hz := ext_size s a (scan s blaB a) hb3.2
      rw [blk_law s (s.extract a (scan s blaB a)) (by omega) (by rw [gb_ext s a _ 0 (by omega) hb3.2]; exact hf3 _ (by omega) (by omega)) (s.size + 1) a (by omega) (beg_ext s a _ (by omega) hb3.2)]
      cases blkR s (s.extract a (scan s blaB a)) a with
      | some q => exact ⟨fun _ => rfl, fun h => (by first | cases h | simp at h)⟩
      | none => exact ⟨fun h => (by first | cases h | simp at h), fun _ => rfl⟩
  · rw [if_neg h1]
    exact ⟨fun h => (by first | cases h | simp at h), fun h => (by first | cases h | simp at h)⟩
theorem blkR_bounds (s ind : ByteArray) (k q : Nat) (hk : k ≤ s.size) (h : blkR s ind k = some q) : k < q ∧ q ≤ s.size := by
  unfold blkR at h
  split at h
  · rename_i hb
    injection h with h
    have h1 := beg_size s _ _ hb
    have hz : bar3.size = 3 := rfl
    have h2 := blkB_bounds s ind (s.size + 1) k hk
    have h3 := scan_bounds s blaB (blkE s ind k) h2.2
    unfold blkE at *
    omega
  · cases h
theorem blkS_bounds (s : ByteArray) (p : Nat) (hp : p + 3 ≤ s.size) (h : (blkS s p).1 = 1) : p < (blkS s p).2 ∧ (blkS s p).2 ≤ s.size := by
  unfold blkS at h ⊢
  split
  · rename_i h1
    rw [if_pos h1] at h
    have hb := scan_bounds s blaB (p + 3) hp
    have hb2 := scan_bounds s nlB (scan s blaB (p + 3) + 1) (by omega)
    generalize scan s nlB (scan s blaB (p + 3) + 1) = a at *
    by_cases h2 : scan s blaB a = a
    · rw [if_pos h2] at h; cases h
    · rw [if_neg h2] at h ⊢
      cases h3 : blkR s (s.extract a (scan s blaB a)) a with
      | none => rw [h3] at h; cases h
      | some q =>
        have := blkR_bounds s _ a q hb2.2 h3
        exact ⟨by show p < q; omega, this.2⟩
  · rename_i h1
    rw [if_neg h1] at h
    cases h

/-! ### operators -/
def cmB (s : ByteArray) (e : Nat) : Bool := gb s e == 47 && (gb s (e + 1) == 47 || gb s (e + 1) == 42)
def runC (s : ByteArray) (e : Nat) : Bool := opB (gb s e) && !cmB s e
def symC (s : ByteArray) (e : Nat) : Bool := opB (gb s e) && !(gb s e == 47) && !begB s e ⟨#[124, 124]⟩
def trimN (s : ByteArray) (lo : Nat) : Nat → Nat
  | 0 => 0
  | e + 1 => if lo < e + 1 ∧ trimB (gb s e) = true then trimN s lo e else e + 1
theorem trimN_step (s : ByteArray) (lo e : Nat) (h : lo < e + 1 ∧ trimB (gb s e) = true) : trimN s lo (e + 1) = trimN s lo e := by rw [trimN, if_pos h]
theorem trimN_stop (s : ByteArray) (lo e : Nat) (h : ¬ (lo < e ∧ trimB (gb s (e - 1)) = true)) : trimN s lo e = e := by
  cases e with
  | zero => rfl
  | succ e => rw [trimN]; exact if_neg h
theorem trimN_bounds (s : ByteArray) (lo : Nat) : ∀ e, lo ≤ e → lo ≤ trimN s lo e ∧ trimN s lo e ≤ e := by
  intro e
  induction e with
  | zero => intro h; exact ⟨h, Nat.le_refl _⟩
  | succ e ih =>
    intro h
    rw [trimN]
    split
    · have := ih (by omega); omega
    · omega
/-- the reference's operator. -/
def sgS (s : ByteArray) (p : Nat) : Int × Nat :=
  if 1 < trimN s (p + 1) (scp s (runC s) (p + 1)) - p ∧ trimN s (p + 1) (scp s (runC s) (p + 1)) < scp s (runC s) (p + 1) then (1, p + 1)
  else if trimN s (p + 1) (scp s (runC s) (p + 1)) - p = 1 then (1, trimN s (p + 1) (scp s (runC s) (p + 1)))
  else if hasL sgL (s.extract p (trimN s (p + 1) (scp s (runC s) (p + 1)))) = true then (1, trimN s (p + 1) (scp s (runC s) (p + 1)))
  else (0, p)
/-- the code's operator. -/
def wind (s : ByteArray) (p e : Nat) : Nat := if trimB (gb s (e - 1)) = true then p + 1 else e
/-- a run of operators' bytes from p up to W. -/
structure Run (s : ByteArray) (p W : Nat) : Prop where
  lt : p < W
  le : W ≤ s.size
  op : opB (gb s p) = true
  cm : cmB s p = false
  rest : ∀ k, p < k → k < W → runC s k = true
  stop : ¬ (W < s.size ∧ runC s W = true)
theorem Run.next {s : ByteArray} {p W : Nat} (h : Run s p W) (q : Nat) (h1 : p < q) (h2 : q < W) : Run s q W := by
  have h3 := h.rest q h1 h2
  unfold runC at h3
  simp only [Bool.and_eq_true, Bool.not_eq_true'] at h3
  exact ⟨h2, h.le, h3.1, h3.2, fun k hk1 hk2 => h.rest k (by omega) hk2, h.stop⟩
theorem Run.whole {s : ByteArray} {p W : Nat} (h : Run s p W) : scp s (runC s) (p + 1) = W := by
  have h1 := h.lt
  have h2 := h.le
  obtain ⟨f1, f2, f3, f4⟩ := scp_facts s (runC s) _ (p + 1) rfl (by omega)
  generalize scp s (runC s) (p + 1) = V at *
  by_cases hVW : V < W
  · exact absurd ⟨by omega, h.rest V (by omega) hVW⟩ f4
  · by_cases hWV : W < V
    · exact absurd ⟨by omega, f3 W (by omega) hWV⟩ h.stop
    · omega
theorem run_make (s : ByteArray) (p : Nat) (hp : p < s.size) (h1 : opB (gb s p) = true) (h2 : cmB s p = false) : Run s p (scp s (runC s) (p + 1)) := by
  obtain ⟨f1, f2, f3, f4⟩ := scp_facts s (runC s) _ (p + 1) rfl (by omega)
  exact ⟨by omega, f2, h1, h2, fun k hk1 hk2 => f3 k (by omega) hk2, f4⟩
theorem op124 (s : ByteArray) (k : Nat) (h : gb s k = 124) : runC s k = true := by
  unfold runC cmB
  rw [h]
  rfl
theorem Run.in3 {s : ByteArray} {p W : Nat} (h : Run s p W) (k : Nat) (_h1 : p ≤ k) (h2 : k < W) (hb : begB s k bar3 = true) : k + 2 < W := by
  obtain ⟨b1, b2, b3, b4⟩ := (beg3 s k 124 124 124).1 hb
  have := h.stop
  by_cases e1 : k + 1 = W
  · exact absurd ⟨by omega, op124 s W (by rw [← e1]; exact b3)⟩ this
  · by_cases e2 : k + 2 = W
    · exact absurd ⟨by omega, op124 s W (by rw [← e2]; exact b4)⟩ this
    · omega
theorem opB_lt (c : Nat) (h : opB c = true) : c < 128 := by
  unfold opB opl at h
  simp at h
  omega
theorem sg_bars : ∀ t ∈ sgL, t.data.toList = [124, 124] ∨ ∀ u ∈ t.data.toList, u ≠ 124 := by decide
theorem sg_trim : ∀ t ∈ sgL, ∀ u, t.data.toList.getLast? = some u → trimB u.toNat = false := by decide
theorem has_mem (l : List ByteArray) (t : ByteArray) (h : hasL l t = true) : ∃ x ∈ l, x.data.toList = t.data.toList := by
  unfold hasL at h
  rw [List.any_eq_true] at h
  obtain ⟨x, hx, he⟩ := h
  refine ⟨x, hx, ?_⟩
  simpa [ByteArray.toList_eq] using he
end Go.Proofs.YtiicdalodfjgaaaGreatFmt
