/- The reference's lexer: what it reads: begins, digits, blanks. -/
import Derived.Test.YtiicdalodfjgaaaGreatFmtSpA
import Derived.Test.YtiicdalodfjgaaaGreatFmtDe
namespace Go.Proofs.YtiicdalodfjgaaaGreatFmt
open Go.RowKit

theorem begins_any (s : ByteArray) (b p : Nat) (st : Int) (t : ByteArray) (w : World) (h : SpL s b p st w) (hp : p ≤ s.size) (hs : s.size ≤ 2000) (ht : t.size ≤ 3) :
    Calls Tryz.prog 9 #[.pointer (some ⟨b, 0, none⟩), .string t] w fun e w' => e = .returned (.bool (begB s p t)) ∧ ∃ n, w' = w.drewN n := by
  obtain ⟨tv, cv, wd, co, n1, n2, xs1, xs2, hI⟩ := h
  have c0 := blk_cell hI.blk 0
  have c1 := blk_cell hI.blk 1
  simp at c0 c1
  have hp0 : (0 : Int) ≤ (p : Int) := Int.natCast_nonneg _
  by_cases hf : p + t.size ≤ s.size
  · have hB : Hid (((s.extract p (p + t.size)).toList == t.toList) = begB s p t) := Lib.hid (by unfold begB; simp [hf])
    have hw1 : IntKind.i64.wrap ((s.size : Int) - (p : Int)) = (s.size : Int) - (p : Int) := IntWalk.i64_in _ (by omega)
    have hw2 : IntKind.i64.wrap ((p : Int) + (t.size : Int)) = (p : Int) + (t.size : Int) := IntWalk.i64_in _ (by omega)
    have hw3 : ((p : Int) + (t.size : Int)).toNat = p + t.size := by omega
    have h0 : (0 : Int) ≤ (p : Int) + (t.size : Int) := by omega
    have h1 : (p : Int) + (t.size : Int) ≤ (s.size : Int) := by omega
    have h2 : (p : Int) ≤ (p : Int) + (t.size : Int) := by omega
    have h3 : (t.size : Int) ≤ (s.size : Int) - (p : Int) := by omega
    go_enter Tryz.func9, Tryz.ntmps9
    go_wp2_with fail
    go_quiet (fail)
    go_wp2_with fail
    go_ret
    exact ⟨ret_bool hB.out, _, rfl⟩
  · have hB : begB s p t = false := by unfold begB; simp [hf]
    have hw1 : IntKind.i64.wrap ((s.size : Int) - (p : Int)) = (s.size : Int) - (p : Int) := IntWalk.i64_in _ (by omega)
    have h3 : decide ((t.size : Int) ≤ (s.size : Int) - (p : Int)) = false := by simp; omega
    rw [hB]
    go_enter Tryz.func9, Tryz.ntmps9
    go_wp2_with fail
    go_quiet (fail)
    go_wp2_with fail
    go_ret
    exact ⟨rfl, _, rfl⟩

set_option maxHeartbeats 800000 in
theorem digits_any (s : ByteArray) (b p : Nat) (st : Int) (k : Nat) (w : World) (h : SpL s b p st w) (hk : k ≤ s.size) (hs : s.size ≤ 2000) :
    Calls Tryz.prog 45 #[.pointer (some ⟨b, 0, none⟩), .int .i64 k] w fun e w' => e = .returned (.int .i64 (scan s digB k)) ∧ w = w' := by
  obtain ⟨tv, cv, wd, co, n1, n2, xs1, xs2, hI⟩ := h
  have c0 := blk_cell hI.blk 0
  simp at c0
  clear hI
  go_enter Tryz.func45, Tryz.ntmps45
  go_wp2_with fail
  go_loopw [1] (fun i wr => ∃ j : Nat, i = .int .i64 j ∧ Hid (scan s digB j = scan s digB k) ∧ j ≤ s.size ∧ wr = w) (fun i _ => s.size - (intOf i).toNat)
  case atStart => exact ⟨k, rfl, Lib.hid rfl, hk, rfl⟩
  case round =>
    obtain ⟨j, rfl, HS, hj, rfl⟩ := hrel
    by_cases hlt : j < s.size
    · have hgb : ∀ h : j < s.size, (s[j]'h).toNat = gb s j := fun h => (gb_in s j h).symm
      by_cases hd : nuB (gb s j : Int) = true
      · have HST := Lib.hid (scan_step s digB j hlt hd)
        go_wp2_with (go_at_call 15; refine (digit_any _ _).mono ?_; rintro e w' ⟨rfl, rfl⟩)
        go_roundw
        case rel => exact ⟨j + 1, rfl, Lib.hid (by rw [← HS.out, HST.out]), by omega, trivial⟩
        case measure => simp [intOf]; omega
      · have hd' : nuB (gb s j : Int) = false := by simpa using hd
        have HST := Lib.hid (scan_stop s digB j (fun h => hd h.2))
        go_wp2_with (go_at_call 15; refine (digit_any _ _).mono ?_; rintro e w' ⟨rfl, rfl⟩)
        go_ret
        exact ⟨ret_int (by rw [← HS.out, HST.out]), rfl⟩
    · have HST := Lib.hid (scan_stop s digB j (fun h => hlt h.1))
      go_wp2_with fail
      go_ret
      exact ⟨ret_int (by rw [← HS.out, HST.out]), rfl⟩
set_option maxHeartbeats 800000 in
theorem blanks_any (s : ByteArray) (b p : Nat) (st : Int) (k : Nat) (w : World) (h : SpL s b p st w) (hk : k ≤ s.size) (hs : s.size ≤ 2000) :
    Calls Tryz.prog 41 #[.pointer (some ⟨b, 0, none⟩), .int .i64 k] w fun e w' => e = .returned (.int .i64 (scan s blaB k)) ∧ w = w' := by
  obtain ⟨tv, cv, wd, co, n1, n2, xs1, xs2, hI⟩ := h
  have c0 := blk_cell hI.blk 0
  simp at c0
  clear hI
  go_enter Tryz.func41, Tryz.ntmps41
  go_wp2_with fail
  go_loopw [1] (fun i wr => ∃ j : Nat, i = .int .i64 j ∧ Hid (scan s blaB j = scan s blaB k) ∧ j ≤ s.size ∧ wr = w) (fun i _ => s.size - (intOf i).toNat)
  case atStart => exact ⟨k, rfl, Lib.hid rfl, hk, rfl⟩
  case round =>
    obtain ⟨j, rfl, HS, hj, rfl⟩ := hrel
    by_cases hlt : j < s.size
    · have hgb : ∀ h : j < s.size, (s[j]'h).toNat = gb s j := fun h => (gb_in s j h).symm
      by_cases hd : blaB (gb s j) = true
      · have HST := Lib.hid (scan_step s blaB j hlt hd)
        by_cases h32 : gb s j = 32
        · have t : ((gb s j : Int) == 32) = true := by simp; omega
          go_wp2_with fail
          go_roundw
          case rel => exact ⟨j + 1, rfl, Lib.hid (by rw [← HS.out, HST.out]), by omega, trivial⟩
          case measure => simp [intOf]; omega
        · have h9 : gb s j = 9 := by unfold blaB at hd; simp at hd; omega
          have t : ((gb s j : Int) == 32) = false := by simp; omega
          have t' : ((gb s j : Int) == 9) = true := by simp; omega
          go_wp2_with fail
          go_roundw
          case rel => exact ⟨j + 1, rfl, Lib.hid (by rw [← HS.out, HST.out]), by omega, trivial⟩
          case measure => simp [intOf]; omega
      · have HST := Lib.hid (scan_stop s blaB j (fun h => hd h.2))
        have h32 : gb s j ≠ 32 ∧ gb s j ≠ 9 := by unfold blaB at hd; simp at hd; exact hd
        have t : ((gb s j : Int) == 32) = false := by simp; omega
        have t' : ((gb s j : Int) == 9) = false := by simp; omega
        go_wp2_with fail
        go_ret
        exact ⟨ret_int (by rw [← HS.out, HST.out]), rfl⟩
    · have HST := Lib.hid (scan_stop s blaB j (fun h => hlt h.1))
      go_wp2_with fail
      go_ret
      exact ⟨ret_int (by rw [← HS.out, HST.out]), rfl⟩
end Go.Proofs.YtiicdalodfjgaaaGreatFmt
