/- Buffers beside the parser's lexer: what a write leaves of the lexer. -/
import Derived.Test.YtiicdalodfjgaaaGreatFmtLxD
import Derived.Lib.RuneBytes
import Derived.Lib.OthersKept
namespace Go.Proofs.YtiicdalodfjgaaaGreatFmt
open Go.RowKit Go.Extern.Stop Go.Stop Go.Extern

def Buf (b : Nat) (acc : List UInt8) (w : World) : Prop := Lib.IsBuffer 88 5 b b (Lib.byteCells acc) w
theorem Buf.lt {b : Nat} {acc : List UInt8} {w : World} (h : Buf b acc w) : b < w.heap.size := Lib.IsBuffer.lt h
theorem Buf.old {b : Nat} {acc : List UInt8} {w w' : World} (h : Buf b acc w) (hb : Below w.heap.size w w') : Buf b acc w' := Lib.IsBuffer.old h hb
theorem enc_small (r : Int) : 1 ≤ (Lib.encodeRune r).length ∧ (Lib.encodeRune r).length ≤ 4 := by
  have := Lib.runeCells_le r
  rw [Lib.runeCells_length] at this
  exact this
theorem wrune_any (b : Nat) (acc : List UInt8) (r : Int) (h0 : -2147483648 ≤ r) (h1 : r ≤ 2147483647) (w : World) (hB : Buf b acc w) (hl : acc.length ≤ 100000) :
    Calls Tryz.prog 51 #[.pointer (some ⟨b, 0, none⟩), .int .i32 r] w fun e w' => (∃ v, e = .returned v) ∧ Buf b (acc ++ Lib.encodeRune r) w' ∧ Below b w w' ∧ Lib.OthersKept 5 (some b) w w' := by
  have hlt := hB.lt
  refine (Tryz.Buffer_WriteRune_k b b _ r h0 h1 w hB (by omega) (Lib.byteCells_one _) (by rw [Lib.byteCells_length]; omega)).mono ?_
  rintro e w' ⟨rfl, h1, h2, h3⟩
  refine ⟨⟨_, rfl⟩, ?_, h2, h3⟩
  unfold Buf
  rw [Lib.byteCells_append, Lib.byteCells_encodeRune]
  exact h1
theorem bstr_any (b : Nat) (acc : List UInt8) (w : World) (hB : Buf b acc w) :
    Calls Tryz.prog 52 #[.pointer (some ⟨b, 0, none⟩)] w fun e w' => e = .returned (.string ⟨acc.toArray⟩) ∧ ∃ n, w' = w.drewN n := Tryz.Buffer_String b b acc w hB
theorem breset_any (b : Nat) (acc : List UInt8) (w : World) (hB : Buf b acc w) :
    Calls Tryz.prog 69 #[.pointer (some ⟨b, 0, none⟩)] w fun e w' => (∃ v, e = .returned v) ∧ Buf b [] w' ∧ Below b w w' ∧ Lib.OthersKept 5 (some b) w w' := by
  refine (Tryz.Buffer_Reset_k b b _ w hB).mono ?_
  rintro e w' ⟨rfl, h1, h2, h3⟩
  exact ⟨⟨_, rfl⟩, h1, h2, h3⟩
theorem blen_any (b : Nat) (acc : List UInt8) (w : World) (hB : Buf b acc w) :
    Calls Tryz.prog 77 #[.pointer (some ⟨b, 0, none⟩)] w fun e w' => e = .returned (.int .i64 acc.length) ∧ ∃ n, w' = w.drewN n := by
  have := Tryz.Buffer_Len b b _ w hB
  rw [Lib.byteCells_length] at this
  exact this
/-- a row of another type is kept. -/
theorem row_others {w w' : World} {base : Nat} {e : TypeId} {size : Nat} {v : Value} {n : Nat} {xs : List Value} {bb : Nat} (h : w.ownsRow base e size v n xs) (he : e ≠ 5) (hk : Lib.OthersKept 5 (some bb) w w') (hb : v.ownBlock ≠ some bb) : w'.ownsRow base e size v n xs := by
  obtain ⟨h1, h2⟩ := h
  refine ⟨h1, ?_⟩
  rcases h2 with h2 | ⟨g, cap, cur, hv, hbg, hg, hr⟩
  · exact .inl h2
  · refine .inr ⟨g, cap, cur, hv, hbg, hk g _ hg ?_ ?_, hr⟩
    · intro hgb
      rw [hv] at hb
      exact hb (by rw [← hgb]; rfl)
    · intro c fz hc
      injection hc with h3 h4 h5
      exact he h4
theorem row_not_buf {w : World} {base : Nat} {e : TypeId} {size : Nat} {v : Value} {n : Nat} {xs : List Value} {bb : Nat} {cs : Array Value} (h : w.ownsRow base e size v n xs) (hb : w.heap[bb]? = some (.cells cs 88 (0, 0))) (he : e ≠ 88) : v.ownBlock ≠ some bb := by
  intro hv
  rcases h.2 with ⟨h2, _⟩ | ⟨g, cap, cur, h2, hbg, hg, hr⟩
  · rw [h2] at hv; cases hv
  · rw [h2] at hv
    have hgb : g = bb := by simpa [Value.ownBlock] using hv
    rw [hgb, hb] at hg
    injection hg with hg
    injection hg with h3 h4 h5
    exact he h4.symm
theorem Buf.blk {b : Nat} {acc : List UInt8} {w : World} (h : Buf b acc w) : ∃ cs, w.heap[b]? = some (.cells cs 88 (0, 0)) := by
  obtain ⟨_, v, lr, hb, _⟩ := h
  exact ⟨_, hb⟩
variable {F : Interp} {s : ByteArray} {b p ts c : Nat} {w w' : World}
/-- what a write into a buffer leaves of the lexer. -/
theorem LxL.kept {bb : Nat} {acc : List UInt8} (h : LxL F s b p ts c w) (hbuf : Buf bb acc w) (hB : Below bb w w') (hbb : 2 ≤ bb) (hk : Lib.OthersKept 5 (some bb) w w') : LxL F s b p ts c w' := by
  obtain ⟨d, m, sa, tv, fv, tl, tc, fr, ln, ls, n1, n2, xs1, xs2, h⟩ := h
  obtain ⟨cs, hcs⟩ := hbuf.blk
  have hne : b ≠ bb := by
    intro e
    rw [← e, h.blk] at hcs
    injection hcs with hcs
    injection hcs with h3 h4 h5
    cases h4
  refine ⟨d, m, sa, tv, fv, tl, tc, fr, ln, ls, n1, n2, xs1, xs2, ⟨hk b _ h.blk (fun e => hne (Option.some.inj e)) (fun c fz hc => ?_), row_others h.own1 (by decide) hk (row_not_buf h.own1 hcs (by decide)), row_others h.own2 (by decide) hk (row_not_buf h.own2 hcs (by decide)), h.apart, h.len1, h.len2, h.tsp, h.lep, h.kind, by rw [hB.tape]; exact h.ans, tabs_below h.tabs hB hbb, h.lo⟩⟩
  injection hc with h3 h4 h5
  cases h4
/-- what a step of the lexer leaves of a buffer that was made behind it, where only the lexer's own cells are turned. -/
theorem Buf.set {bb : Nat} {acc : List UInt8} (h : Buf bb acc w) (i : Nat) (u : Value) (hb : b < bb) : Buf bb acc (w.setCell ⟨b, i, none⟩ u) := by
  obtain ⟨h1, v, lr, h2, h3, h4⟩ := h
  refine ⟨h1, v, lr, by rw [set_other w b i u bb (by omega)]; exact h2, ?_, h4⟩
  obtain ⟨h5, h6⟩ := h3
  refine ⟨h5, ?_⟩
  rcases h6 with h6 | ⟨g, cap, cur, hv, hbg, hg, hr⟩
  · exact .inl h6
  · exact .inr ⟨g, cap, cur, hv, hbg, by rw [set_other w b i u g (by omega)]; exact hg, hr⟩
theorem Buf.only {bb : Nat} {acc : List UInt8} (h : Buf bb acc w) (hg : w.grownBy w' (some b)) (hb : b < bb) : Buf bb acc w' := by
  have hlt := h.lt
  obtain ⟨h1, v, lr, h2, h3, h4⟩ := h
  refine ⟨h1, v, lr, by rw [hg.block bb hlt (by simp; omega)]; exact h2, ?_, h4⟩
  obtain ⟨h5, h6⟩ := h3
  refine ⟨h5, ?_⟩
  rcases h6 with h6 | ⟨g, cap, cur, hv, hbg, hg2, hr⟩
  · exact .inl h6
  · exact .inr ⟨g, cap, cur, hv, hbg, by rw [hg.block g (blk_lt hg2) (by simp; omega)]; exact hg2, hr⟩
end Go.Proofs.YtiicdalodfjgaaaGreatFmt
