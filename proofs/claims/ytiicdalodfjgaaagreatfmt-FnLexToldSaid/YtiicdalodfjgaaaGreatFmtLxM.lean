/- The parser's lexer: the token that has been read is emitted. -/
import Derived.Test.YtiicdalodfjgaaaGreatFmtLxE
namespace Go.Proofs.YtiicdalodfjgaaaGreatFmt
open Go.RowKit Go.Extern.Stop Go.Stop Go.Extern
variable {F : Interp} {s : ByteArray} {b p ts c : Nat} {w : World}

set_option maxRecDepth 100000 in
set_option maxHeartbeats 6400000 in
theorem emit_any (k : Int) (h : LxL F s b p ts c w) (hc : c ≤ 100000) :
    Calls Tryz.prog 30 #[.pointer (some ⟨b, 0, none⟩), .int .i64 k] w fun e w' => (∃ v, e = .returned v) ∧ LxL F s b p p (c + 1) w' ∧ Below b w w' := by
  have lb := h.lt
  have hp := h.lep
  have ht := h.tsp
  have hd : Below w.heap.size w w.drew := below_drewN (Below.refl _ w) 1
  have HLd := h.below hd
  have S0 : w.drew.cell? ⟨b, 2, none⟩ = some (.string s) ∧ w.drew.cell? ⟨b, 6, none⟩ = some (.int .i64 ts) ∧ w.drew.cell? ⟨b, 10, none⟩ = some (.int .i64 p) := ⟨HLd.c2, HLd.c6, HLd.c10⟩
  have q0 : (0 : Int) ≤ (ts : Int) := by omega
  have q1 : (ts : Int) ≤ (p : Int) := by omega
  have q2 : (p : Int) ≤ (s.size : Int) := by omega
  have HE := emitFull_any k (s.extract ts p) ⟨#[]⟩ ⟨#[]⟩ HLd hc
  go_enter Tryz.func30, Tryz.ntmps30
  go_wp2_with fail
  go_region_held_law (fun w' => w'.cell? ⟨b, 2, none⟩ = some (.string s) ∧ w'.cell? ⟨b, 6, none⟩ = some (.int .i64 ts) ∧ w'.cell? ⟨b, 10, none⟩ = some (.int .i64 p)) (first | exact S0 | exact S1) (first | (go_simp; go_at_call 34; refine HE.mono ?_; rintro e w1 ⟨⟨v, rfl⟩, hL1, hb1⟩; have S1 := And.intro hL1.c2 (And.intro hL1.c6 hL1.c10)))
  all_goals (
    go_wp2_with (go_at_call 28; refine (reset_any hL1).mono ?_; rintro e w2 ⟨⟨v2, rfl⟩, hL2, hb2⟩)
    go_end0
    exact ⟨⟨_, rfl⟩, hL2, ((hd.mono (Nat.le_of_lt lb)).trans hb1).trans hb2⟩)
end Go.Proofs.YtiicdalodfjgaaaGreatFmt
