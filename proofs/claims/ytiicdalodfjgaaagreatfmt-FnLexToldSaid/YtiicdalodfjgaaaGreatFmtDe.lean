/- The plain functions in which the contracts of the two lexers are stated. -/
import Derived.Test.YtiicdalodfjgaaaGreatFmtUnB
namespace Go.Proofs.YtiicdalodfjgaaaGreatFmt
open Go.RowKit
/-- whether a text stands at a place. -/
def begB (s : ByteArray) (p : Nat) (t : ByteArray) : Bool := decide (p + t.size ≤ s.size) && ((s.extract p (p + t.size)).toList == t.toList)
/-- the first place from p on at which a byte does not pass, or the end. -/
def scanN (s : ByteArray) (f : Nat → Bool) : Nat → Nat → Nat
  | 0, p => p
  | d + 1, p => if p < s.size ∧ f (gb s p) = true then scanN s f d (p + 1) else p
def scan (s : ByteArray) (f : Nat → Bool) (p : Nat) : Nat := scanN s f (s.size - p) p
theorem scan_stop (s : ByteArray) (f : Nat → Bool) (p : Nat) (h : ¬ (p < s.size ∧ f (gb s p) = true)) : scan s f p = p := by
  unfold scan
  cases s.size - p with
  | zero => rfl
  | succ d => unfold scanN; rw [if_neg h]
theorem scan_step (s : ByteArray) (f : Nat → Bool) (p : Nat) (h1 : p < s.size) (h2 : f (gb s p) = true) : scan s f p = scan s f (p + 1) := by
  unfold scan
  obtain ⟨d, hd⟩ : ∃ d, s.size - p = d + 1 := ⟨s.size - p - 1, by omega⟩
  rw [hd, show s.size - (p + 1) = d by omega]
  show (if p < s.size ∧ f (gb s p) = true then scanN s f d (p + 1) else p) = _
  rw [if_pos ⟨h1, h2⟩]
theorem scanN_bounds (s : ByteArray) (f : Nat → Bool) : ∀ d p, p ≤ s.size → p ≤ scanN s f d p ∧ scanN s f d p ≤ s.size
  | 0, p, h => ⟨Nat.le_refl _, h⟩
  | d + 1, p, h => by
    unfold scanN
    split
    · have := scanN_bounds s f d (p + 1) (by omega)
      omega
    · omega
theorem scan_bounds (s : ByteArray) (f : Nat → Bool) (p : Nat) (h : p ≤ s.size) : p ≤ scan s f p ∧ scan s f p ≤ s.size := scanN_bounds s f _ p h
def digB (c : Nat) : Bool := nuB (c : Int)
def blaB (c : Nat) : Bool := c == 32 || c == 9
def nolB (c : Nat) : Bool := c != 10
/-- the end of a string in which two quotes stand for one. -/
def verbN (s : ByteArray) (q : Nat) : Nat → Nat → Option Nat
  | 0, _ => none
  | f + 1, k => if k < s.size then if gb s k = q then (if k + 1 < s.size ∧ gb s (k + 1) = q then verbN s q f (k + 2) else some (k + 1)) else verbN s q f (k + 1) else none
theorem verbN_step (s : ByteArray) (q f k : Nat) (h : k < s.size) : verbN s q (f + 1) k = if gb s k = q then (if k + 1 < s.size ∧ gb s (k + 1) = q then verbN s q f (k + 2) else some (k + 1)) else verbN s q f (k + 1) := by
  rw [verbN, if_pos h]
theorem verbN_end (s : ByteArray) (q f k : Nat) (h : ¬ k < s.size) : verbN s q f k = none := by
  cases f with
  | zero => rfl
  | succ f => rw [verbN, if_neg h]
/-- the place of the closing quote, with the state that the reading ends in. -/
def quoN (s : ByteArray) (q : Nat) : Nat → Nat → Int × Nat
  | 0, _ => (2, 0)
  | f + 1, k => if k < s.size ∧ gb s k ≠ q then (if gb s k = 10 then (0, 0) else if gb s k = 92 then quoN s q f (k + 2) else quoN s q f (k + 1)) else if k < s.size then (1, k) else (2, 0)
theorem quoN_step (s : ByteArray) (q f k : Nat) (h : k < s.size ∧ gb s k ≠ q) : quoN s q (f + 1) k = if gb s k = 10 then (0, 0) else if gb s k = 92 then quoN s q f (k + 2) else quoN s q f (k + 1) := by
  rw [quoN, if_pos h]
theorem quoN_fine (s : ByteArray) (q f k : Nat) (h : k < s.size) (hq : gb s k = q) : quoN s q (f + 1) k = (1, k) := by
  rw [quoN, if_neg (fun hh => hh.2 hq), if_pos h]
theorem quoN_end (s : ByteArray) (q f k : Nat) (h : ¬ k < s.size) : quoN s q f k = (2, 0) := by
  cases f with
  | zero => rfl
  | succ f => rw [quoN, if_neg (fun hh => h hh.1), if_neg h]
/-- the reading of a string between quotes: the state and the place behind it. -/
def quoS (s : ByteArray) (p : Nat) (r : Int × Nat) : Int × Nat := if r.1 = 1 then (if (unesc (s.extract (p + 1) r.2)).2 = 1 then (1, r.2 + 1) else (0, p)) else (r.1, p)
/-- the first place from p on at which the two signs that end a comment stand, or none. -/
def starN (s : ByteArray) : Nat → Nat → Option Nat
  | 0, _ => none
  | d + 1, p => if p < s.size then (if begB s p ⟨#[42, 47]⟩ = true then some p else starN s d (p + 1)) else none
theorem starN_step (s : ByteArray) (d p : Nat) (h : p < s.size) : starN s (d + 1) p = if begB s p ⟨#[42, 47]⟩ = true then some p else starN s d (p + 1) := by
  rw [starN, if_pos h]
theorem starN_end (s : ByteArray) (d p : Nat) (h : ¬ p < s.size) : starN s d p = none := by
  cases d with
  | zero => rfl
  | succ d => rw [starN, if_neg h]
def letB (c : Nat) : Bool := c == 95 || (decide (97 ≤ c) && decide (c ≤ 122)) || (decide (65 ≤ c) && decide (c ≤ 90))
def numA (s : ByteArray) (p : Nat) : Nat := if gb s p = 48 then p + 1 else scan s digB p
def fracB (s : ByteArray) (e : Nat) : Bool := decide (e + 1 < s.size) && gb s e == 46 && digB (gb s (e + 1))
def numB (s : ByteArray) (e : Nat) : Nat := if fracB s e = true then scan s digB (e + 1) else e
def expB (s : ByteArray) (e : Nat) : Bool := decide (e < s.size) && (gb s e == 101 || gb s e == 69)
def sgnB (s : ByteArray) (k : Nat) : Bool := decide (k < s.size) && (gb s k == 43 || gb s k == 45)
def numK (s : ByteArray) (e : Nat) : Nat := if sgnB s (e + 1) = true then e + 2 else e + 1
def numC (s : ByteArray) (e : Nat) : Option Nat := if expB s e = true then (if numK s e < s.size ∧ digB (gb s (numK s e)) = true then some (scan s digB (numK s e)) else none) else some e
def tailB (s : ByteArray) (e : Nat) : Bool := decide (e < s.size) && (gb s e == 46 || letB (gb s e) || digB (gb s e))
def numS (s : ByteArray) (p : Nat) : Option Nat := match numC s (numB s (numA s p)) with | none => none | some e => if tailB s e = true then none else some e
def hasL (l : List ByteArray) (t : ByteArray) : Bool := l.any (fun x => x.toList == t.toList)
def opl : List Nat := [33, 36, 58, 126, 43, 45, 38, 124, 94, 61, 60, 62, 42, 47, 37]
def opB (c : Nat) : Bool := opl.contains c
def sgL : List ByteArray := [⟨#[43, 58, 58, 58]⟩, ⟨#[58, 58, 58]⟩, ⟨#[43, 58, 58]⟩, ⟨#[60, 60]⟩, ⟨#[62, 62]⟩, ⟨#[60, 61]⟩, ⟨#[62, 61]⟩, ⟨#[61, 61]⟩, ⟨#[33, 61]⟩, ⟨#[38, 38]⟩, ⟨#[124, 124]⟩, ⟨#[58, 58]⟩, ⟨#[43, 58]⟩]
/-- the rune at a place, or -1 at the end. -/
def pk (s : ByteArray) (p : Nat) : Int := if p < s.size then (dr s p : Int) else -1
end Go.Proofs.YtiicdalodfjgaaaGreatFmt
