/- The parser's lexer: symbols, put together. -/
import Derived.Test.YtiicdalodfjgaaaGreatFmtLxU
import Derived.Test.YtiicdalodfjgaaaGreatFmtLxR
import Derived.Test.YtiicdalodfjgaaaGreatFmtLxO
namespace Go.Proofs.YtiicdalodfjgaaaGreatFmt
open Go.RowKit Go.Extern.Stop Go.Stop Go.Extern
variable {F : Interp} {s : ByteArray} {b p ts c : Nat} {w : World}
theorem sym_lx (h : LxL F s b p p c w) (hs : s.size ≤ 2000) (hbig : 2 ≤ w.heap.size) (hc : c ≤ 90000) (hp : p < s.size) (ho : opB (gb s p) = true ∨ gb s p = 35) :
    Calls Tryz.prog 39 #[.pointer (some ⟨b, 0, none⟩)] w fun e w' => RdPost F s b (c + 2) (symS s p) w e w' := by
  unfold symS
  by_cases hA : gb s p = 35 ∨ (gb s p = 47 ∧ gb s (p + 1) = 47)
  · rw [if_pos hA]
    exact symA h hs hbig (by omega) hp hA
  rw [if_neg hA]
  by_cases hB : gb s p = 47 ∧ gb s (p + 1) = 42
  · rw [if_pos hB]
    exact symB h hs hbig hc hp hB.1 hB.2
  rw [if_neg hB]
  cases hbar : begB s p bar3 with
  | true =>
    rw [if_pos rfl]
    exact symE h hs hbig hc hbar
  | false =>
    rw [if_neg (by simp)]
    have hop : opB (gb s p) = true := by
      rcases ho with h | h
      · exact h
      · exact absurd (Or.inl h) hA
    refine symD h hs hc hp hop ?_ hbar
    unfold cmB
    rw [Bool.eq_false_iff]
    intro hh
    simp at hh
    omega
end Go.Proofs.YtiicdalodfjgaaaGreatFmt
