/- The parser's lexer: the source's lines, the making of the lexer. -/
import Derived.Test.YtiicdalodfjgaaaGreatFmtBf
import Derived.Lib.BufferKept
import Derived.Laws.RangeAny
import Derived.Handy
namespace Go.Proofs.YtiicdalodfjgaaaGreatFmt
open Go.RowKit Go.Extern.Stop Go.Stop Go.Extern

theorem info9' : (Tryz.prog.info? 9).map (fun i => (i.zero, i.size, i.bytes)) = some (some (.string ⟨#[]⟩), 1, 16) := by kernel_rfl
/-- a string's iterator, a buffer and a row of texts side by side. -/
structure Trio (s : ByteArray) (B k pos bb : Nat) (acc : List UInt8) (v : Value) (n : Nat) (xs : List Value) (w : World) : Prop where
  it : w.heap[k]? = some (.stringIter s pos)
  buf : Buf bb acc w
  row : w.ownsRow B 9 1 v n xs
theorem own_kind {w : World} {base : Nat} {e : TypeId} {size : Nat} {v : Value} {n : Nat} {xs : List Value} (h : w.ownsRow base e size v n xs) (g : Nat) (hg : v.ownBlock = some g) : ∃ cur, w.heap[g]? = some (.cells cur e (0, 0)) := by
  rcases h.2 with ⟨h2, _⟩ | ⟨g', cap, cur, h2, hbg, hg', hr⟩
  · rw [h2] at hg; cases hg
  · rw [h2] at hg
    have : g' = g := by simpa [Value.ownBlock] using hg
    subst this
    exact ⟨cur, hg'⟩
variable {s : ByteArray} {B k pos bb : Nat} {acc : List UInt8} {v : Value} {n : Nat} {xs : List Value} {w w' : World}
theorem Trio.old (h : Trio s B k pos bb acc v n xs w) (hb : Below w.heap.size w w') : Trio s B k pos bb acc v n xs w' :=
  ⟨by rw [hb.block k (blk_lt h.it)]; exact h.it, h.buf.old hb, row_keep h.row (fun g _ hl => hb.block g hl)⟩
theorem Trio.next (h : Trio s B k pos bb acc v n xs w) (pos' : Nat) : Trio s B k pos' bb acc v n xs (w.iterAt k s pos') := by
  refine ⟨Lib.iterAt_heap w k s pos pos' h.it, Lib.IsBuffer.iterAt h.buf h.it pos', row_keep h.row (fun g hg _ => Lib.iterAt_other w k g s pos' (fun e => ?_))⟩
  obtain ⟨cur, hc⟩ := own_kind h.row g hg
  rw [e, h.it] at hc
  cases hc
theorem Trio.wrote {acc' : List UInt8} (h : Trio s B k pos bb acc v n xs w) (hb : Buf bb acc' w') (hk : Lib.OthersKept 5 (some bb) w w') : Trio s B k pos bb acc' v n xs w' := by
  obtain ⟨cs, hcs⟩ := h.buf.blk
  exact ⟨hk.iter h.it (Lib.IsBuffer.ne_iter h.buf h.it), hb, row_others h.row (by decide) hk (row_not_buf h.row hcs (by decide))⟩
theorem Trio.grew {v' : Value} {n' : Nat} {xs' : List Value} (h : Trio s B k pos bb acc v n xs w) (hg : w.grownBy w' v.ownBlock) (hr : w'.ownsRow B 9 1 v' n' xs') : Trio s B k pos bb acc v' n' xs' w' := by
  have hne : ∀ (j : Nat) (o : Obj), w.heap[j]? = some o → (∀ cur, o ≠ Obj.cells cur 9 (0, 0)) → w'.heap[j]? = some o := fun j o hj ho => by
    rw [hg.block j (blk_lt hj) (fun e => ?_)]
    · exact hj
    · obtain ⟨cur, hc⟩ := own_kind h.row j e.symm
      rw [hc] at hj
      exact ho cur (Option.some.inj hj).symm
  refine ⟨hne k _ h.it (fun cur e => by cases e), ?_, hr⟩
  obtain ⟨h1, v1, lr, h2, h3, h4⟩ := h.buf
  refine ⟨h1, v1, lr, hne bb _ h2 (fun cur e => by injection e with e1 e2 e3; cases e2), ?_, h4⟩
  obtain ⟨h5, h6⟩ := h3
  refine ⟨h5, ?_⟩
  rcases h6 with h6 | ⟨g, cap, cur, hv, hbg, hg2, hr2⟩
  · exact .inl h6
  · exact .inr ⟨g, cap, cur, hv, hbg, hne g _ hg2 (fun cur' e => by injection e with e1 e2 e3; cases e2), hr2⟩

theorem Trio.dn (h : Trio s B k pos bb acc v n xs w) {m : Nat} (hw : w' = w.drewN m) : Trio s B k pos bb acc v n xs w' := by
  subst hw
  exact h.old (below_drewN (Below.refl _ _) m)
theorem bdn {a : World} (h : Below B a w) {m : Nat} (hw : w' = w.drewN m) : Below B a w' := by
  subst hw
  exact below_drewN h m
theorem below_alo {w : World} (o : Obj) : Below w.heap.size w (w.alloc o) := (Below.refl _ _).alloc (Nat.le_refl _) o
theorem grown_below {row : Option Nat} (hg : w.grownBy w' row) (hr : ∀ g, row = some g → B ≤ g) (hB : B ≤ w.heap.size) : Below B w w' :=
  ⟨hg.os, hg.tape, hg.output, hg.size, fun j hj => hg.block j (by omega) (fun e => by have := hr j e.symm; omega)⟩
theorem iter_pos (h : Trio s B k pos bb acc v n xs w) : w.iterPos k = pos := by
  unfold World.iterPos
  rw [h.it]

set_option maxRecDepth 100000 in
set_option maxHeartbeats 6400000 in
theorem source_any (d s : ByteArray) (w : World) (hs : s.size ≤ 2000) : Calls Tryz.prog 47 #[.string d, .string s] w fun e w' => (∃ a, e = .returned (.pointer a)) ∧ Below w.heap.size w w' := by
  obtain ⟨i0, hi0, hz0, hz1, hz2⟩ := info_parts info9'
  obtain ⟨B, hB⟩ : ∃ B, w.heap.size = B := ⟨_, rfl⟩
  go_enter Tryz.func47, Tryz.ntmps47
  go_wp2_with fail
  go_loopw [5] (fun v wr => ∃ (pos n : Nat) (acc : List UInt8) (xs : List Value), Trio s B (B + 1) pos B acc v n xs wr ∧ n ≤ pos ∧ acc.length ≤ 4 * pos ∧ pos ≤ s.size ∧ Below B w wr) (fun _ wr => s.size - wr.iterPos (B + 1))
  case atStart =>
    have hf := Lib.fresh_isBuffer 88 5 w
    have hb1 : Below w.heap.size w (w.alloc (.cells #[.slice none 0 0, .int .i64 0, .int .i8 0] 88)) := (Below.refl _ _).alloc (Nat.le_refl _) _
    refine ⟨0, 0, [], [], ⟨?_, ?_, World.ownsRow_nil _ _ _ _⟩, Nat.le_refl _, Nat.zero_le _, Nat.zero_le _, ?_⟩
    · have := World.iter_heap (w.alloc (.cells #[.slice none 0 0, .int .i64 0, .int .i8 0] 88)) s 0
      rw [← hB]
      simpa using this
    · rw [← hB]
      exact Buf.old hf ((Below.refl _ _).alloc (Nat.le_refl _) _)
    · rw [← hB]
      exact hb1.alloc (by simp) _
  case round =>
    obtain ⟨pos, n, acc, xs, HT, hn, hacc, hpos, hBw⟩ := hrel
    by_cases hlt : pos < s.size
    · have hnx : ∀ ty, (Instr.next (.pointer (some ⟨B + 1, 0, none⟩)) true ty).run Tryz.prog wr = _ := fun ty => Lib.run_next_any_at wr (B + 1) s pos ty HT.it hlt
      have hdw := dec_width s pos hlt
      have hdp := dec_pos s pos hlt
      have hdl := decode_le s pos
      have HT1 := HT.next (pos + dw s pos)
      have hB1 : Below B w (wr.iterAt (B + 1) s (pos + dw s pos)) := Lib.below_iterAt hBw (by omega) _ _
      obtain ⟨rr, hrr⟩ : ∃ x, (Utf8.decode s pos).1 = x := ⟨_, rfl⟩
      have hdw2 : (Utf8.decode s pos).2 = dw s pos := rfl
      rw [hrr, hdw2] at hnx
      obtain ⟨x, hx⟩ : ∃ x, dw s pos = x := ⟨_, rfl⟩
      have hrl : rr ≤ 2147483647 := by rw [← hrr]; exact hdl
      rw [hx] at hnx HT1 hB1 hdw hdp
      generalize wr.iterAt (B + 1) s (pos + x) = w1 at *
      have hip := iter_pos HT
      clear hrr hx hdl HT hBw hdw2
      have he := enc_small rr
      by_cases e10 : rr = 10
      · have t : ((rr : Int) == 10) = true := by simp; omega
        clear e10
        go_wp2_with (first | (go_at_call 51; refine (wrune_any B acc rr (by omega) (by omega) _ HT1.buf (by omega)).mono ?_; rintro e w2 ⟨⟨v2, rfl⟩, hbuf2, hb2, hk2⟩; have HT2 := HT1.wrote hbuf2 hk2; have hB2 := hB1.trans hb2) | (go_at_call 52; refine (bstr_any B _ _ HT2.buf).mono ?_; rintro e w3 ⟨rfl, m, hw3⟩; have HT3 := HT2.dn hw3; have hB3 := bdn hB2 hw3; clear hw3) | (at_builtin; (refine wpList_append_lies _ (by rfl) _ _ _ (by rfl) B 9 i0 _ 1 16 Tryz.underlying25 hi0 hz0 hz1 hz2 rfl (by omega) _ n xs (by rfl) (HT3.row.alloc _) ⟨w3.heap.size, 0, none⟩ 1 1 [.string ⟨(acc ++ Lib.encodeRune rr).toArray⟩] (by rfl) (by rfl) (World.news_of_block (cs := #[.string ⟨(acc ++ Lib.encodeRune rr).toArray⟩]) (t := 9) (fr := (0, 0)) (heap_alloc_new w3 _)) (by simp [Value.oneCell']) (by omega) (by unfold maxLen; omega) (by omega) (by have := hB3.size; simp; omega) (w3.heap.size + 1) (by simp) ?_); (intro gg cap w4 hown4 hgrow hat hlt4); (have HT4 := (HT3.old (below_alo _)).grew hgrow hown4); (have hB4 := (hB3.alloc (by have := hB3.size; omega) _).trans (grown_below hgrow (fun g hg => (ownBlock_ge HT3.row g hg).1) (by have := hB3.size; simp; omega)))) | (go_at_call 69; refine (breset_any B _ _ HT4.buf).mono ?_; rintro e w5 ⟨⟨v5, rfl⟩, hbuf5, hb5, hk5⟩; have HT5 := HT4.wrote hbuf5 hk5; have hB5 := hB4.trans hb5))
        go_roundw
        case rel => exact ⟨pos + x, n + 1, [], _, HT5, by omega, Nat.zero_le _, hdw.2, hB5⟩
        case measure => rw [iter_pos HT5, hip]; omega
      · have t : ((rr : Int) == 10) = false := by simp; omega
        clear e10
        go_wp2_with (first | (go_at_call 51; refine (wrune_any B acc rr (by omega) (by omega) _ HT1.buf (by omega)).mono ?_; rintro e w2 ⟨⟨v2, rfl⟩, hbuf2, hb2, hk2⟩; have HT2 := HT1.wrote hbuf2 hk2; have hB2 := hB1.trans hb2))
        go_roundw
        case rel => exact ⟨pos + x, n, _, xs, HT2, by omega, by rw [List.length_append]; omega, hdw.2, hB2⟩
        case measure => rw [iter_pos HT2, hip]; omega
    · have hnx : ∀ ty, (Instr.next (.pointer (some ⟨B + 1, 0, none⟩)) true ty).run Tryz.prog wr = _ := fun ty => Lib.run_next_end_at wr (B + 1) s pos ty HT.it hlt
      have hal : (⟨acc.toArray⟩ : ByteArray).size = acc.length := rfl
      go_wp2_with (first | (go_at_call 52; refine (bstr_any B _ _ HT.buf).mono ?_; rintro e w3 ⟨rfl, m, hw3⟩; have HT3 := HT.dn hw3; have hB3 := bdn hBw hw3; clear hw3) | (at_builtin; (refine wpList_append_lies _ (by rfl) _ _ _ (by rfl) B 9 i0 _ 1 16 Tryz.underlying25 hi0 hz0 hz1 hz2 rfl (by omega) _ n xs (by rfl) (HT3.row.alloc _) ⟨w3.heap.size, 0, none⟩ 1 1 [.string (⟨acc.toArray⟩ ++ ⟨#[10]⟩)] (by rfl) (by rfl) (World.news_of_block (cs := #[.string (⟨acc.toArray⟩ ++ ⟨#[10]⟩)]) (t := 9) (fr := (0, 0)) (heap_alloc_new w3 _)) (by simp [Value.oneCell']) (by omega) (by unfold maxLen; omega) (by omega) (by have := hB3.size; simp; omega) (w3.heap.size + 1) (by simp) ?_); (intro gg cap w4 hown4 hgrow hat hlt4); (have HT4 := (HT3.old (below_alo _)).grew hgrow hown4); (have hB4 := (hB3.alloc (by have := hB3.size; omega) _).trans (grown_below hgrow (fun g hg => (ownBlock_ge HT3.row g hg).1) (by have := hB3.size; simp; omega)))))
      go_ret
      exact ⟨⟨_, rfl⟩, by rw [hB]; exact hB4.alloc (by have := hB4.size; omega) _⟩
theorem lxl_new (F : Interp) (s d m : ByteArray) (a : Option Addr) (w : World) (hF : F.answers w.tape) (hT : Lib.Utf8Tabs 0 1 w) (h2 : 2 ≤ w.heap.size) :
    LxL F s w.heap.size 0 0 0 (w.alloc (.cells (lxC d m s (.pointer a) (.slice none 0 0) (.slice none 0 0) 0 0 1 1 true 1 0) 68)) :=
  ⟨_, _, _, _, _, _, _, _, _, _, 0, 0, [], [], ⟨heap_alloc_new w _, World.ownsRow_nil _ _ _ _, World.ownsRow_nil _ _ _ _, fun g hg => (by cases hg), Nat.le_refl _, Nat.le_refl _, Nat.le_refl _, Nat.zero_le _, fun i hi => by omega, hF, tabs_below hT ((Below.refl _ _).alloc (Nat.le_refl _) _) h2, h2⟩⟩
set_option maxRecDepth 100000 in
set_option maxHeartbeats 6400000 in
theorem make_any (F : Interp) (d m s : ByteArray) (w : World) (hs : s.size ≤ 2000) (hF : F.answers w.tape) (hT : Lib.Utf8Tabs 0 1 w) (h2 : 2 ≤ w.heap.size) :
    Calls Tryz.prog 24 #[.string d, .string m, .string s] w fun e w' => (∃ b, e = .returned (.pointer (some ⟨b, 0, none⟩)) ∧ LxL F s b 0 0 0 w' ∧ w.heap.size ≤ b) ∧ Below w.heap.size w w' := by
  go_enter Tryz.func24, Tryz.ntmps24
  go_wp2_with (go_at_call 47; refine (source_any _ _ _ hs).mono ?_; rintro e w1 ⟨⟨a, rfl⟩, hb1⟩)
  have hsz := hb1.size
  have hL := lxl_new F s d m a w1 (by rw [hb1.tape]; exact hF) (tabs_below hT hb1 h2) (by omega)
  go_ret
  exact ⟨⟨_, rfl, hL, hsz⟩, hb1.alloc hsz _⟩
end Go.Proofs.YtiicdalodfjgaaaGreatFmt
