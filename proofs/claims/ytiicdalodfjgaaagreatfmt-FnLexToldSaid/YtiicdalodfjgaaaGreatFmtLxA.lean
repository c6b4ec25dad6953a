/- The parser's lexer as it lies in memory; peek. -/
import Derived.Test.YtiicdalodfjgaaaGreatFmtSpA
import Derived.Test.YtiicdalodfjgaaaGreatFmtDe
import Derived.Test.YtiicdalodfjgaaaGreatFmtSh
import Derived.Lib.DecodeN
import Derived.Deep.RegionWith
namespace Go.Proofs.YtiicdalodfjgaaaGreatFmt
open Go.RowKit

theorem get_ext (s : ByteArray) (i k : Nat) : (s.extract i s.size).get! k = s.get! (i + k) := by
  obtain ⟨⟨l⟩⟩ := s
  simp only [ByteArray.get!, ByteArray.extract_mk]
  have hd : (default : UInt8) = 0 := rfl
  by_cases h : i + k < l.length
  · simp [ByteArray.size, h, show k < l.length - i by omega]
  · simp [ByteArray.size, h, show ¬ k < l.length - i by omega]
theorem decode_ext (s : ByteArray) (i : Nat) (h : i < s.size) : Lib.decodeGo (s.extract i s.size) = (dr s i, dw s i) := by
  have hz : (s.extract i s.size).size = s.size - i := by simp
  have e : Lib.decodeGo (s.extract i s.size) = Utf8.decode (s.extract i s.size) 0 := by
    show (if (s.extract i s.size).size = 0 then _ else _) = _
    rw [if_neg (by omega)]
  rw [e, Lib.decode_at, hz]
  simp only [Nat.sub_zero, Nat.zero_add, get_ext, Nat.add_zero]
  rw [← Lib.decode_at]
/-- the cells of the parser's lexer: its text s, its place p, where the token begins ts. -/
abbrev lxC (d m : ByteArray) (s : ByteArray) (src tv fv : Value) (ts p : Nat) (tl tc : Int) (fr : Bool) (ln ls : Int) : Array Value :=
  #[.string d, .string m, .string s, src, tv, fv, .int .i64 ts, .int .i64 tl, .int .i64 tc, .bool fr, .int .i64 p, .int .i64 ln, .int .i64 ls]
set_option maxRecDepth 100000 in
set_option maxHeartbeats 3200000 in
theorem peek_any (d m s : ByteArray) (src tv fv : Value) (ts p b : Nat) (tl tc : Int) (fr : Bool) (ln ls : Int) (w : World) (hp : p ≤ s.size) (hT : Lib.Utf8Tabs 0 1 w)
    (hC : w.heap[b]? = some (.cells (lxC d m s src tv fv ts p tl tc fr ln ls) 68 (0, 0))) :
    Calls Tryz.prog 26 #[.pointer (some ⟨b, 0, none⟩)] w fun e w' => e = .returned (.int .i32 (pk s p)) ∧ Below w.heap.size w w' := by
  have c2 := blk_cell hC 2
  have c10 := blk_cell hC 10
  simp [lxC] at c2 c10
  have hp0 : (0 : Int) ≤ (p : Int) := Int.natCast_nonneg _
  by_cases hlt : p < s.size
  · have H49 := fun w h => Tryz.utf8_DecodeRuneInString (s.extract p s.size) w h
    rw [decode_ext s p hlt] at H49
    have hTd : ∀ n, Lib.Utf8Tabs 0 1 (w.drewN n) := fun n => Utf8Tabs_below hT (below_drewN (Below.refl w.heap.size w) n)
    have HR : Hid ((dr s p : Int) = pk s p) := Lib.hid (by unfold pk; rw [if_pos hlt])
    have h1 : (p : Int) < (s.size : Int) := by omega
    have h1' : (p : Int) ≤ (s.size : Int) := by omega
    have h2 : decide ((s.size : Int) ≤ (p : Int)) = false := by simp; omega
    go_enter Tryz.func26, Tryz.ntmps26
    go_wp2_with fail
    go_quiet (fail)
    go_wp2_with fail
    go_region_with (go_at_call 49; refine (H49 _ (hTd _)).mono ?_; rintro e w1 ⟨rfl, hb1⟩)
    all_goals (
      go_wp2_with fail
      go_ret
      exact ⟨ret_int HR.out, (below_drewN (Below.refl w.heap.size w) _).trans hb1⟩)
  · have HR : Hid (-1 = pk s p) := Lib.hid (by unfold pk; rw [if_neg hlt])
    have h1 : (s.size : Int) ≤ (p : Int) := by omega
    go_enter Tryz.func26, Tryz.ntmps26
    go_wp2_with fail
    go_quiet (fail)
    go_wp2_with fail
    go_ret
    exact ⟨ret_int HR.out, below_drewN (Below.refl _ _) _⟩
end Go.Proofs.YtiicdalodfjgaaaGreatFmt
