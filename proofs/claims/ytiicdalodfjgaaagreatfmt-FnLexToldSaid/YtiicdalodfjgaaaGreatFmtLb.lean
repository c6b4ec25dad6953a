/- The parser's lexer: short words for the walks of the greater functions. -/
import Derived.Test.YtiicdalodfjgaaaGreatFmtLxJ
import Derived.Test.YtiicdalodfjgaaaGreatFmtLxM
import Derived.Test.YtiicdalodfjgaaaGreatFmtLxK
namespace Go.Proofs.YtiicdalodfjgaaaGreatFmt
open Go.RowKit Go.Extern.Stop Go.Stop Go.Extern
variable {F : Interp} {s : ByteArray} {b p ts c : Nat} {w : World}

/-- the lexer, and that below it nothing has turned. -/
structure LB (F : Interp) (s : ByteArray) (b p ts c : Nat) (w w' : World) : Prop where
  lx : LxL F s b p ts c w'
  be : Below b w w'
theorem LB.on {w1 w2 : World} (h : LB F s b p ts c w w1) (hb : Below w1.heap.size w1 w2) : LB F s b p ts c w w2 := ⟨h.lx.below hb, h.be.trans (hb.mono (Nat.le_of_lt h.lx.lt))⟩
theorem LB.to {w1 w2 : World} {p' ts' c' : Nat} (h : LB F s b p ts c w w1) (hl : LxL F s b p' ts' c' w2) (hb : Below b w1 w2) : LB F s b p' ts' c' w w2 := ⟨hl, h.be.trans hb⟩
theorem LxL.ans (h : LxL F s b p ts c w) : F.answers w.tape := by
  obtain ⟨d, m, sa, tv, fv, tl, tc, fr, ln, ls, n1, n2, xs1, xs2, h⟩ := h
  exact h.ans
/-- the end of a reading: a place, or an error. -/
def RdPost (F : Interp) (s : ByteArray) (b c : Nat) (r : Option Nat) (w : World) (e : Ending) (w' : World) : Prop :=
  (match r with | some q => e = .returned .nilIface ∧ ∃ ts, LxL F s b q ts c w' | none => ∃ v, e = .returned (.iface 120 v)) ∧ Below b w w'
theorem rd_some {r : Option Nat} {q ts : Nat} {w' : World} (hr : r = some q) (h : LB F s b q ts c w w') : RdPost F s b c r w (.returned .nilIface) w' := by
  subst hr
  exact ⟨⟨rfl, ts, h.lx⟩, h.be⟩
theorem rd_none {r : Option Nat} {w' : World} {v : Value} (hr : r = none) (h : Below b w w') : RdPost F s b c r w (.returned (.iface 120 v)) w' := by
  subst hr
  exact ⟨⟨v, rfl⟩, h⟩

theorem LB.alo {w1 : World} (h : LB F s b p ts c w w1) (o : Obj) : LB F s b p ts c w (w1.alloc o) := h.on (below_alo o)
theorem LB.refl (h : LxL F s b p ts c w) : LB F s b p ts c w w := ⟨h, Below.refl b w⟩
theorem LB.size {w1 : World} (h : LB F s b p ts c w w1) (h2 : 2 ≤ w.heap.size) : 2 ≤ w1.heap.size := Nat.le_trans h2 h.be.size
theorem LB.mor {w1 : World} {c' : Nat} (h : LB F s b p ts c w w1) (hc : c ≤ c') : LB F s b p ts c' w w1 := ⟨h.lx.more hc, h.be⟩
/-- whether a text begins so, at a place of another. -/
theorem hp_beg (s : ByteArray) (p : Nat) (t : ByteArray) (hp : p ≤ s.size) : Lib.hasPrefix (s.extract p s.size).data.toList t.data.toList = begB s p t := by
  rw [← Lib.hasPrefix_raw]
  have hsz : (s.extract p s.size).size = s.size - p := ext_size s p s.size (Nat.le_refl _)
  unfold begB
  rw [hsz]
  by_cases h : p + t.size ≤ s.size
  · rw [show decide (t.size ≤ s.size - p) = true by simp; omega, show decide (p + t.size ≤ s.size) = true by simpa using h]
    congr 2
    have : (s.extract p s.size).extract 0 t.size = s.extract p (p + t.size) := by
      rw [ByteArray.extract_extract, show min (p + t.size) s.size = p + t.size by omega, Nat.add_zero]
    rw [this]
  · rw [show decide (t.size ≤ s.size - p) = false by simp; omega, show decide (p + t.size ≤ s.size) = false by simpa using h]
    simp
end Go.Proofs.YtiicdalodfjgaaaGreatFmt
