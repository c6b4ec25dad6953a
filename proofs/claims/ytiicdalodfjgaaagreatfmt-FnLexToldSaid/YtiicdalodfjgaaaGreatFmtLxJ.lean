/- The parser's lexer: the rest of a line. -/
import Derived.Test.YtiicdalodfjgaaaGreatFmtLxH
namespace Go.Proofs.YtiicdalodfjgaaaGreatFmt
open Go.RowKit Go.Extern.Stop Go.Stop Go.Extern
variable {F : Interp} {s : ByteArray} {b p ts c : Nat} {w : World}

theorem pk_range (s : ByteArray) (p : Nat) : -1 ≤ pk s p ∧ pk s p ≤ 2147483647 := by
  unfold pk
  split
  · have := decode_le s p
    have h2 : dr s p = (Utf8.decode s p).1 := rfl
    omega
  · omega
theorem nolB_hi (c : Nat) (h : 128 ≤ c) : nolB c = true := by rw [nolB_ten]; omega
/-- what is turned behind a fixed height alone, is not turned but in the lexer. -/
theorem only_of {a w w' : World} {b B : Nat} (h : a.grownBy w (some b)) (h2 : Below B w w') (hB : a.heap.size ≤ B) : a.grownBy w' (some b) :=
  ⟨h2.os.trans h.os, h2.tape.trans h.tape, h2.output.trans h.output, Nat.le_trans h.size h2.size, fun k hk hne => (h2.block k (by omega)).trans (h.block k hk hne)⟩
theorem below_only {w w' : World} {b : Nat} (h : w.grownBy w' (some b)) (hb : b ≤ w.heap.size) : Below b w w' := ⟨h.os, h.tape, h.output, h.size, fun k hk => h.block k (by omega) (by simp; omega)⟩
theorem bel_dn {w w' : World} {m : Nat} (hw : w' = w.drewN m) : Below w.heap.size w w' := by
  subst hw
  exact below_drewN (Below.refl _ _) m
theorem LxL.dn {w' : World} (h : LxL F s b p ts c w) {m : Nat} (hw : w' = w.drewN m) : LxL F s b p ts c w' := h.below (bel_dn hw)
theorem Buf.dn {bb : Nat} {acc : List UInt8} {w w' : World} (h : Buf bb acc w) {m : Nat} (hw : w' = w.drewN m) : Buf bb acc w' := h.old (bel_dn hw)
theorem take_small (acc : List UInt8) (x : Nat) (h : acc.length ≤ 8000) : (⟨(acc.take x).toArray⟩ : ByteArray).size ≤ 8000 := by
  show (acc.take x).toArray.size ≤ 8000
  simp
  omega
def LuPost (F : Interp) (s : ByteArray) (b p ts c : Nat) (w : World) (e : Ending) (w' : World) : Prop :=
  (∃ (t : ByteArray) (x y : Int), e = .returned (.tuple #[.string t, .int .i64 x, .int .i64 y]) ∧ t.size ≤ 8000) ∧ LxL F s b (scan s wsB (scan s nolB p)) ts c w' ∧ w.grownBy w' (some b)
set_option maxRecDepth 100000 in
set_option maxHeartbeats 6400000 in
theorem line_lx (h : LxL F s b p ts c w) (hs : s.size ≤ 2000) (hbig : 2 ≤ w.heap.size) : Calls Tryz.prog 60 #[.pointer (some ⟨b, 0, none⟩)] w fun e w' => LuPost F s b p ts c w e w' := by
  have hp := h.lep
  have lb := h.lt
  obtain ⟨B, hB⟩ : ∃ B, w.heap.size = B := ⟨_, rfl⟩
  have hal : ∀ o, Below w.heap.size w (w.alloc o) := fun o => (Below.refl _ _).alloc (Nat.le_refl _) o
  have hf : Buf B [] (w.alloc (.cells #[.slice none 0 0, .int .i64 0, .int .i8 0] 88)) := by rw [← hB]; exact Lib.fresh_isBuffer 88 5 w
  have h0 := h.below (hal (.cells #[.slice none 0 0, .int .i64 0, .int .i8 0] 88))
  have g0 : w.grownBy (w.alloc (.cells #[.slice none 0 0, .int .i64 0, .int .i8 0] 88)) (some b) := only_below (hal _)
  go_enter Tryz.func60, Tryz.ntmps60
  go_upto_region 3 with (fail)
  generalize w.alloc (.cells #[.slice none 0 0, .int .i64 0, .int .i8 0] 88) = w0 at *
  go_wp2_with (go_at_call 26; refine (peek_lx h0).mono ?_; rintro e w1 ⟨rfl, hb1⟩)
  have h1 := h0.below hb1
  have hf1 := hf.old hb1
  have g1 := only_trans g0 (only_below hb1)
  go_loopg [6, 7] (s.size + 1) (fun k l r wr => ∃ (j x : Nat) (acc : List UInt8), l = .int .i64 x ∧ r = .int .i32 (pk s j) ∧ x ≤ acc.length ∧ acc.length ≤ 4 * j ∧ s.size - j < k ∧ Hid (scan s nolB j = scan s nolB p) ∧ Buf B acc wr ∧ LxL F s b j ts c wr ∧ w.grownBy wr (some b))
  case atStart => exact ⟨p, 0, [], rfl, rfl, Nat.zero_le _, Nat.zero_le _, by omega, Lib.hid rfl, hf1, h1, g1⟩
  case round =>
    clear h0 hf g0 hb1 h1 hf1 g1
    obtain ⟨j, x, acc, rfl, rfl, hx, hacc, hk, HS, hbuf, HL, hG⟩ := hrel
    obtain ⟨k, rfl⟩ : ∃ m, gk = m + 1 := ⟨gk - 1, by omega⟩
    have hj := HL.lep
    have hr := pk_range s j
    by_cases hgo : j < s.size ∧ nolB (gb s j) = true
    · obtain ⟨hlt, hnl⟩ := hgo
      have hn := nx_lt s j hlt
      have HN : Hid (scan s nolB (nx s j) = scan s nolB p) := Lib.hid (by rw [← HS.out, scan_nx s nolB nolB_hi j hlt hnl])
      have h10 : gb s j ≠ 10 := (nolB_ten _).1 hnl
      have tA : (pk s j != -1) = true := by
        have : pk s j ≠ -1 := fun e => by unfold pk at e; rw [if_pos hlt] at e; omega
        simpa using this
      have tB : (pk s j != 10) = true := by
        have : pk s j ≠ 10 := fun e => h10 ((pk_eq s j 10 (by omega)).1 e).2
        simpa using this
      obtain ⟨r, hrr⟩ : ∃ r, pk s j = r := ⟨_, rfl⟩
      have HX := next_any HL hs
      unfold NxPost at HX
      rw [hrr] at HX tA tB hr ⊢
      clear hrr h10 hnl
      have he := enc_small r
      cases hh : hwR r with
      | true =>
        go_wp2_with (first | (go_at_call 27; refine HX.mono ?_; rintro e w2 ⟨rfl, hL2, hb2, hg2⟩; have hbuf2 := hbuf.only hg2 (by omega)) | (go_at_call 51; refine (wrune_any B acc r (by omega) (by omega) _ hbuf2 (by omega)).mono ?_; rintro e w3 ⟨⟨v3, rfl⟩, hbuf3, hb3, hk3⟩; have hL3 := hL2.kept hbuf2 hb3 (by omega) hk3) | (go_at_call 70; refine (hw_any _ _).mono ?_; rintro e w4 ⟨rfl, rfl⟩) | (go_at_call 26; refine (peek_lx hL3).mono ?_; rintro e w5 ⟨rfl, hb5⟩))
        go_roundg k
        case measure => omega
        case rel => exact ⟨nx s j, x, _, rfl, rfl, by rw [List.length_append]; omega, by rw [List.length_append]; omega, by omega, HN, hbuf3.old hb5, hL3.below hb5, only_trans (only_of (only_trans hG hg2) hb3 (by omega)) (only_below hb5)⟩
      | false =>
        go_wp2_with (first | (go_at_call 27; refine HX.mono ?_; rintro e w2 ⟨rfl, hL2, hb2, hg2⟩; have hbuf2 := hbuf.only hg2 (by omega)) | (go_at_call 51; refine (wrune_any B acc r (by omega) (by omega) _ hbuf2 (by omega)).mono ?_; rintro e w3 ⟨⟨v3, rfl⟩, hbuf3, hb3, hk3⟩; have hL3 := hL2.kept hbuf2 hb3 (by omega) hk3) | (go_at_call 70; refine (hw_any _ _).mono ?_; rintro e w4 ⟨rfl, rfl⟩) | (go_at_call 77; refine (blen_any B _ _ hbuf3).mono ?_; rintro e w4 ⟨rfl, m, hw4⟩; have hL4 := hL3.dn hw4; have hbuf4 := hbuf3.dn hw4; have hb4 := bel_dn hw4; clear hw4) | (go_at_call 26; refine (peek_lx hL4).mono ?_; rintro e w5 ⟨rfl, hb5⟩))
        go_roundg k
        case measure => omega
        case rel => exact ⟨nx s j, _, _, rfl, rfl, by rw [List.length_append]; exact Nat.le_refl _, by rw [List.length_append]; omega, by omega, HN, hbuf4.old hb5, hL4.below hb5, only_trans (only_trans (only_of (only_trans hG hg2) hb3 (by omega)) (only_below hb4)) (only_below hb5)⟩
    · have HE : Hid (j = scan s nolB p) := Lib.hid (by rw [← HS.out, scan_stop s nolB j hgo])
      have tE : ((pk s j != -1) && (pk s j != 10)) = false := by
        by_cases hlt : j < s.size
        · have h10 : gb s j = 10 := by
            cases hn : nolB (gb s j) with
            | true => exact absurd ⟨hlt, hn⟩ hgo
            | false =>
              by_cases h10 : gb s j = 10
              · exact h10
              · rw [(nolB_ten _).2 h10] at hn; cases hn
          rw [(pk_eq s j 10 (by omega)).2 ⟨hlt, h10⟩]
          rfl
        · rw [pk_end s j hlt]
          rfl
      obtain ⟨r, hrr⟩ : ∃ r, pk s j = r := ⟨_, rfl⟩
      rw [hrr] at tE ⊢
      clear hrr hgo hr
      have A78 := trunc_any B x acc wr hbuf hx (by omega)
      cases tA : (r != -1) with
      | true =>
        have tB : (r != 10) = false := by rw [tA] at tE; simpa using tE
        clear tE
        go_wp2_with (first | (go_at_call 78; refine A78.mono ?_; rintro e w2 ⟨⟨v2, rfl⟩, hbuf2, hb2, hk2⟩; have hL2 := HL.kept hbuf hb2 (by omega) hk2) | (go_at_call 52; refine (bstr_any B _ _ hbuf2).mono ?_; rintro e w3 ⟨rfl, m, hw3⟩; have hb3 := bel_dn hw3; have hL3 := hL2.dn hw3; clear hw3) | (go_at_call 25; refine (white_any hL3 hs).mono ?_; rintro e w4 ⟨⟨nl, ind, rfl, hnl⟩, hL4, hb4, hg4⟩))
        all_goals (
          go_ret3
          unfold LuPost
          rw [← HE.out]
          exact ⟨⟨_, _, _, rfl, take_small acc x (by omega)⟩, hL4, only_trans (only_trans (only_of hG hb2 (by omega)) (only_below hb3)) hg4⟩)
      | false =>
        clear tE
        go_wp2_with (first | (go_at_call 78; refine A78.mono ?_; rintro e w2 ⟨⟨v2, rfl⟩, hbuf2, hb2, hk2⟩; have hL2 := HL.kept hbuf hb2 (by omega) hk2) | (go_at_call 52; refine (bstr_any B _ _ hbuf2).mono ?_; rintro e w3 ⟨rfl, m, hw3⟩; have hb3 := bel_dn hw3; have hL3 := hL2.dn hw3; clear hw3) | (go_at_call 25; refine (white_any hL3 hs).mono ?_; rintro e w4 ⟨⟨nl, ind, rfl, hnl⟩, hL4, hb4, hg4⟩))
        all_goals (
          go_ret3
          unfold LuPost
          rw [← HE.out]
          exact ⟨⟨_, _, _, rfl, take_small acc x (by omega)⟩, hL4, only_trans (only_trans (only_of hG hb2 (by omega)) (only_below hb3)) hg4⟩)
end Go.Proofs.YtiicdalodfjgaaaGreatFmt
