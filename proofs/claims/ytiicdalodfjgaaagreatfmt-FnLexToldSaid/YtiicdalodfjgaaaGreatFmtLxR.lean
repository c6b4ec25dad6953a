/- The parser's lexer: symbols: comments up to the line's end. -/
import Derived.Test.YtiicdalodfjgaaaGreatFmtLb
import Derived.Test.YtiicdalodfjgaaaGreatFmtLxQ
namespace Go.Proofs.YtiicdalodfjgaaaGreatFmt
open Go.RowKit Go.Extern.Stop Go.Stop Go.Extern
variable {F : Interp} {s : ByteArray} {b p ts c : Nat} {w : World}

set_option maxRecDepth 100000 in
set_option maxHeartbeats 6400000 in
theorem symA (h : LxL F s b p p c w) (hs : s.size ≤ 2000) (hbig : 2 ≤ w.heap.size) (hc : c ≤ 100000) (hp : p < s.size) (hA : gb s p = 35 ∨ (gb s p = 47 ∧ gb s (p + 1) = 47)) :
    Calls Tryz.prog 39 #[.pointer (some ⟨b, 0, none⟩)] w fun e w' => RdPost F s b (c + 2) (some (scan s wsB (scan s nolB (p + 1)))) w e w' := by
  have lb := h.lt
  obtain ⟨fr, c9⟩ := h.c9
  have h128 : gb s p < 128 := by omega
  have hpk := pk_low s p hp h128
  have HN : Hid (nx s p = p + 1) := Lib.hid (nx_low s p hp h128)
  obtain ⟨q, hq⟩ : ∃ q, scan s wsB (scan s nolB (p + 1)) = q := ⟨_, rfl⟩
  rw [hq]
  have HQ := Lib.hid hq
  clear hq
  have henc : (Utf8.encode 35).size = 1 := by decide
  have henc2 : (Utf8.encode 47).size = 1 := by decide
  rcases hA with h35 | ⟨h47, h47'⟩
  · have HP : Hid (pk s p = 35) := Lib.hid (by rw [hpk, h35]; rfl)
    clear hpk h35 h128
    cases fr with
    | true =>
      go_enter Tryz.func39, Tryz.ntmps39
      go_wp2_with (first | (go_at_call 27; refine (next_any h hs).mono ?_; intro e w1 hnx; unfold NxPost at hnx; obtain ⟨rfl, hL1, hb1, hg1⟩ := hnx; rw [HN.out] at hL1; rw [HP.out]; have hB1 := LB.to (LB.refl h) hL1 hb1; have hz1 := hB1.size hbig) | (go_at_call 60; refine (line_lx hB1.lx hs hz1).mono ?_; intro e w2 hlu; unfold LuPost at hlu; obtain ⟨⟨t2, x2, y2, rfl, ht2⟩, hL2, hg2⟩ := hlu; rw [HQ.out] at hL2; have hB2 := hB1.to hL2 (below_only hg2 (Nat.le_of_lt hB1.lx.lt))) | (go_at_call 29; refine (addFodder_any _ _ _ _ _ _ (hB2.alo _).lx (by unfold okF; omega) hc).mono ?_; rintro e w3 ⟨⟨v3, rfl⟩, hL3, hb3⟩; have hB3 := (hB2.alo _).to hL3 hb3))
      go_ret
      exact rd_some rfl (hB3.mor (by omega))
    | false =>
      go_enter Tryz.func39, Tryz.ntmps39
      go_wp2_with (first | (go_at_call 27; refine (next_any h hs).mono ?_; intro e w1 hnx; unfold NxPost at hnx; obtain ⟨rfl, hL1, hb1, hg1⟩ := hnx; rw [HN.out] at hL1; rw [HP.out]; have hB1 := LB.to (LB.refl h) hL1 hb1; have hz1 := hB1.size hbig) | (go_at_call 60; refine (line_lx hB1.lx hs hz1).mono ?_; intro e w2 hlu; unfold LuPost at hlu; obtain ⟨⟨t2, x2, y2, rfl, ht2⟩, hL2, hg2⟩ := hlu; rw [HQ.out] at hL2; have hB2 := hB1.to hL2 (below_only hg2 (Nat.le_of_lt hB1.lx.lt))) | (go_at_call 29; refine (addFodder_any _ _ _ _ _ _ (hB2.alo _).lx (by unfold okF; omega) hc).mono ?_; rintro e w3 ⟨⟨v3, rfl⟩, hL3, hb3⟩; have hB3 := (hB2.alo _).to hL3 hb3))
      go_ret
      exact rd_some rfl (hB3.mor (by omega))
  · have HP : Hid (pk s p = 47) := Lib.hid (by rw [hpk, h47]; rfl)
    have HP2 : Hid (pk s (p + 1) = 47) := Lib.hid ((pk_eq s (p + 1) 47 (by omega)).2 ⟨by
      by_cases hlt : p + 1 < s.size
      · exact hlt
      · rw [gb_out s (p + 1) hlt] at h47'; omega, h47'⟩)
    clear hpk h47 h47' h128
    cases fr with
    | true =>
      go_enter Tryz.func39, Tryz.ntmps39
      go_wp2_with (first | (go_at_call 27; refine (next_any h hs).mono ?_; intro e w1 hnx; unfold NxPost at hnx; obtain ⟨rfl, hL1, hb1, hg1⟩ := hnx; rw [HN.out] at hL1; rw [HP.out]; have hB1 := LB.to (LB.refl h) hL1 hb1; have hz1 := hB1.size hbig) | (go_at_call 26; refine (peek_lx hB1.lx).mono ?_; rintro e w1' ⟨rfl, hbp⟩; rw [HP2.out]; have hBp := hB1.on hbp; have hzp := hBp.size hbig) | (go_at_call 60; refine (line_lx hBp.lx hs hzp).mono ?_; intro e w2 hlu; unfold LuPost at hlu; obtain ⟨⟨t2, x2, y2, rfl, ht2⟩, hL2, hg2⟩ := hlu; rw [HQ.out] at hL2; have hB2 := hBp.to hL2 (below_only hg2 (Nat.le_of_lt hBp.lx.lt))) | (go_at_call 29; refine (addFodder_any _ _ _ _ _ _ (hB2.alo _).lx (by unfold okF; omega) hc).mono ?_; rintro e w3 ⟨⟨v3, rfl⟩, hL3, hb3⟩; have hB3 := (hB2.alo _).to hL3 hb3))
      go_ret
      exact rd_some rfl (hB3.mor (by omega))
    | false =>
      go_enter Tryz.func39, Tryz.ntmps39
      go_wp2_with (first | (go_at_call 27; refine (next_any h hs).mono ?_; intro e w1 hnx; unfold NxPost at hnx; obtain ⟨rfl, hL1, hb1, hg1⟩ := hnx; rw [HN.out] at hL1; rw [HP.out]; have hB1 := LB.to (LB.refl h) hL1 hb1; have hz1 := hB1.size hbig) | (go_at_call 26; refine (peek_lx hB1.lx).mono ?_; rintro e w1' ⟨rfl, hbp⟩; rw [HP2.out]; have hBp := hB1.on hbp; have hzp := hBp.size hbig) | (go_at_call 60; refine (line_lx hBp.lx hs hzp).mono ?_; intro e w2 hlu; unfold LuPost at hlu; obtain ⟨⟨t2, x2, y2, rfl, ht2⟩, hL2, hg2⟩ := hlu; rw [HQ.out] at hL2; have hB2 := hBp.to hL2 (below_only hg2 (Nat.le_of_lt hBp.lx.lt))) | (go_at_call 29; refine (addFodder_any _ _ _ _ _ _ (hB2.alo _).lx (by unfold okF; omega) hc).mono ?_; rintro e w3 ⟨⟨v3, rfl⟩, hL3, hb3⟩; have hB3 := (hB2.alo _).to hL3 hb3))
      go_ret
      exact rd_some rfl (hB3.mor (by omega))
end Go.Proofs.YtiicdalodfjgaaaGreatFmt
