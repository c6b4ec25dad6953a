/- Small helpers of the parser's lexer: whether a text holds a line's end; a buffer is cut short. -/
import Derived.Test.YtiicdalodfjgaaaGreatFmtLxG
namespace Go.Proofs.YtiicdalodfjgaaaGreatFmt
open Go.RowKit Go.Extern.Stop Go.Stop Go.Extern

theorem below_iter' (w : World) (s : ByteArray) (p : Nat) : Below w.heap.size w (w.iter s p) := (Below.refl _ _).alloc (Nat.le_refl _) _
set_option maxRecDepth 100000 in
set_option maxHeartbeats 3200000 in
theorem index_any (s : ByteArray) (w : World) : Calls Tryz.prog 79 #[.string s, .int .i32 10] w fun e w' => (∃ v : Int, e = .returned (.int .i64 v)) ∧ Below w.heap.size w w' := by
  go_enter Tryz.func79, Tryz.ntmps79
  go_wp2_with fail
  go_loopw [5, 6] (fun _ _ w' => ∃ pos : Nat, w' = w.iter s pos) (fun _ _ w' => s.size - w'.iterPos w.heap.size)
  case atStart => exact ⟨0, rfl⟩
  case round =>
    obtain ⟨pos, rfl⟩ := hrel
    by_cases hp : pos < s.size
    · have hnx : ∀ ty, (Instr.next (.pointer (some ⟨w.heap.size, 0, none⟩)) true ty).run Tryz.prog (w.iter s pos) = _ := fun ty => run_next_any w s pos ty hp
      have hwd := dec_pos s pos hp
      have hwd2 : (Utf8.decode s pos).2 = dw s pos := rfl
      obtain ⟨c, hcd⟩ : ∃ c : Int, ((Utf8.decode s pos).1 : Int) = c := ⟨_, rfl⟩
      rw [hcd] at hnx
      clear hcd
      cases t : (c == 10) with
      | true =>
        go_wp2_with fail
        go_ret
        exact ⟨⟨_, rfl⟩, below_iter' _ _ _⟩
      | false =>
        go_wp2_with fail
        go_roundw
        case rel => exact ⟨_, rfl⟩
        case measure => simp; omega
    · have hnx : ∀ ty, (Instr.next (.pointer (some ⟨w.heap.size, 0, none⟩)) true ty).run Tryz.prog (w.iter s pos) = _ := fun ty => run_next_end w s pos ty hp
      go_wp2_with fail
      go_ret
      exact ⟨⟨_, rfl⟩, below_iter' _ _ _⟩
theorem contains_any (s : ByteArray) (w : World) : Calls Tryz.prog 61 #[.string s, .int .i32 10] w fun e w' => (∃ v : Bool, e = .returned (.bool v)) ∧ Below w.heap.size w w' := by
  go_enter Tryz.func61, Tryz.ntmps61
  go_wp2_with (go_at_call 79; refine (index_any _ _).mono ?_; rintro e w1 ⟨⟨v, rfl⟩, hb1⟩)
  go_ret
  exact ⟨⟨_, rfl⟩, hb1⟩

set_option maxRecDepth 100000 in
set_option maxHeartbeats 6400000 in
theorem trunc_any (b n : Nat) (acc : List UInt8) (w : World) (hB : Buf b acc w) (hn : n ≤ acc.length) (hl : acc.length ≤ 100000) :
    Calls Tryz.prog 78 #[.pointer (some ⟨b, 0, none⟩), .int .i64 n] w fun e w' => (∃ v, e = .returned v) ∧ Buf b (acc.take n) w' ∧ Below b w w' ∧ Lib.OthersKept 5 (some b) w w' := by
  by_cases h0 : n = 0
  · subst h0
    go_enter Tryz.func78, Tryz.ntmps78
    go_wp2_with (go_at_call 69; refine (breset_any b _ _ hB).mono ?_; rintro e w1 ⟨⟨v, rfl⟩, h1, h2, h3⟩)
    go_returns
    exact ⟨⟨_, rfl⟩, h1, h2, h3⟩
  · have hbuf := hB
    obtain ⟨h1, v, lr, h2, h3, h4⟩ := hB
    rw [Lib.byteCells_length] at h3
    obtain ⟨h5, h6⟩ := h3
    have hlz := Lib.byteCells_length acc
    rcases h6 with ⟨_, h6⟩ | ⟨g, cap, cur, rfl, hbg, hg, hcap, hcm, hcs, htk⟩
    · omega
    have hgb : g ≠ b := fun e => h4 (by rw [e]; rfl)
    have c0 := blk_cell h2 0
    have c1 := blk_cell h2 1
    have c2 := blk_cell h2 2
    simp at c0 c1 c2
    have z0 := blk_thaw h2 0
    have z2 := blk_thaw h2 2
    have hs2 := blk_set h2 2 (.int .i8 0)
    have hB2 : Buf b acc (w.setCell ⟨b, 2, none⟩ (.int .i8 0)) := ⟨h1, _, 0, by simpa using hs2, ⟨by simp, .inr ⟨g, cap, cur, by rw [hlz], hbg, by rw [set_other w b 2 _ g hgb]; exact hg, by rw [hlz]; exact hcap, hcm, hcs, by rw [hlz]; exact htk⟩⟩, h4⟩
    have t0 : ((n : Int) == 0) = false := by simp; omega
    have t1 : decide ((n : Int) < 0) = false := by simp
    have t2 : decide ((acc.length : Int) < (n : Int)) = false := by simp; omega
    have t3 : (0 : Int) ≤ (n : Int) := by omega
    have t4 : (n : Int) ≤ (cap : Int) := by omega
    have t5 : (n : Int) ≤ (acc.length : Int) := by omega
    go_enter Tryz.func78, Tryz.ntmps78
    go_wp2_with (go_at_call 77; refine (blen_any b _ _ hB2).mono ?_; rintro e w1 ⟨rfl, m, rfl⟩)
    go_region
    all_goals (
      go_wp2_with fail
      go_returns
      have hlt : (acc.take n).length = n := by rw [List.length_take]; omega
      have hlb := Lib.byteCells_length (acc.take n)
      refine ⟨⟨_, rfl⟩, ⟨h1, .slice (some ⟨g, 0, none⟩) n cap, 0, by simpa using blk_set (i := 0) (u := .slice (some ⟨g, 0, none⟩) n cap) (w := (w.setCell ⟨b, 2, none⟩ (.int .i8 0)).drewN (m + 1)) hs2, ⟨by simp, .inr ⟨g, cap, cur, by rw [hlb, hlt], hbg, ?_, by rw [hlb, hlt]; omega, hcm, hcs, ?_⟩⟩, h4⟩, below_set (below_drewN (below_set (Below.refl b w) _ _) _) _ _, ?_⟩
      · rw [set_other _ b 0 _ g hgb]
        show (w.setCell _ _).heap[g]? = _
        rw [set_other _ b 2 _ g hgb]
        exact hg
      · rw [hlb, hlt]
        have h7 := congrArg (List.take (n * 1)) htk
        rw [List.take_take, show min (n * 1) (acc.length * 1) = n * 1 by omega] at h7
        rw [h7]
        simp [Lib.byteCells, List.map_take]
      · intro k o hk hne _
        have hkb : k ≠ b := fun e => hne (by rw [e])
        rw [set_other _ b 0 _ k hkb]
        show (w.setCell _ _).heap[k]? = _
        rw [set_other _ b 2 _ k hkb]
        exact hk)
end Go.Proofs.YtiicdalodfjgaaaGreatFmt
