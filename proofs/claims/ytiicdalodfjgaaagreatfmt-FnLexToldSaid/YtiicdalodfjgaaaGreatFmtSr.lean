/- strconv.QuoteRuneToASCII: some text comes back (no more is wanted of it). -/
import Derived.Test.YtiicdalodfjgaaaGreatFmtSq
import Derived.Test.YtiicdalodfjgaaaGreatFmtUnA
import Derived.Lib.BufSteps
import Derived.Lib.QuoteHex
import Derived.Lib.QuoteBits
import Derived.LoopN
import Derived.Handy
import Derived.Lib.Hide
import Derived.Laws.BytesArg
namespace Go.Proofs.YtiicdalodfjgaaaGreatFmt
open Go.RowKit Go.Shelf
theorem info5 : (Tryz.prog.info? 5).map (fun i => (i.zero, i.size, i.bytes)) = some (some (.int .u8 0), 1, 1) := by kernel_rfl
/-- cells that are bytes. -/
def BytesOf (xs : List Value) : Prop := ∃ l : List Int, xs = l.map (Value.int .u8)
theorem BytesOf.byte {xs : List Value} {c : Int} (h : BytesOf xs) : BytesOf (xs ++ [.int .u8 c]) := by
  obtain ⟨l, rfl⟩ := h
  exact ⟨l ++ [c], by simp⟩
theorem BytesOf.text {xs : List Value} {s : ByteArray} (h : BytesOf xs) : BytesOf (xs ++ Lib.strCells s) := by
  obtain ⟨l, rfl⟩ := h
  exact ⟨l ++ s.data.toList.map (fun b => (b.toNat : Int)), by simp [Lib.strCells, Function.comp_def]⟩
def EscPost (B n : Nat) (W0 : World) (e : Ending) (w' : World) : Prop := ∃ (v' : Value) (n' : Nat) (xs' : List Value), e = .returned v' ∧ n' ≤ n + 20 ∧ BytesOf xs' ∧ Lib.OwnBuf B 5 v' n' xs' W0 w'
theorem esc_post {B n : Nat} {W0 : World} {v' : Value} {n' : Nat} {xs' : List Value} {w' : World} (hb : Lib.OwnBuf B 5 v' n' xs' W0 w') (hn : n' ≤ n + 20) (hx : BytesOf xs') : EscPost B n W0 (.returned v') w' := ⟨v', n', xs', rfl, hn, hx, hb⟩

set_option maxHeartbeats 4000000 in
set_option maxRecDepth 1000000 in
theorem esc_quoted (B : Nat) (v : Value) (n : Nat) (xs : List Value) (r : Int) (W0 w : World) (hb : Lib.OwnBuf B 5 v n xs W0 w) (hlen : n ≤ 100) (hx : BytesOf xs) (hr0 : 0 ≤ r) (hr1 : r ≤ 1114111) (hq : r = 39 ∨ r = 92) :
    Calls Tryz.prog 89 #[v, .int .i32 r, .int .u8 39, .bool true, .bool false] w fun e w' => EscPost B n W0 e w' := by
  obtain ⟨i0, hi, hz0, hz1, hz2⟩ := info_parts info5
  rcases hq with rfl | rfl
  all_goals (
    go_enter Tryz.func89, Tryz.ntmps89
    go_big_wp2_with (at_builtin; first
      | (refine Lib.wpList_append_byte rfl _ _ 78 rfl B 5 i0 Tryz.underlying78 hi hz0 hz1 hz2 _ _ _ rfl W0 _ _ (by assumption) rfl (by first | omega | (simp only [Lib.size_two]; omega)) ?_; intro _ _ hb)
      | (refine Lib.wpList_append_text rfl _ _ 78 9 rfl B 5 i0 Tryz.underlying78 Tryz.underlying9 hi hz0 hz1 hz2 _ _ _ rfl W0 (by assumption) _ rfl (by first | omega | (simp only [Lib.size_two]; omega)) ?_; intro _ _ hb))
    go_ret
    exact esc_post hb (by omega) (by repeat (first | exact hx | apply BytesOf.byte | apply BytesOf.text)))

set_option maxHeartbeats 4000000 in
set_option maxRecDepth 1000000 in
theorem esc_plain (B : Nat) (v : Value) (n : Nat) (xs : List Value) (r : Int) (W0 w : World) (hb : Lib.OwnBuf B 5 v n xs W0 w) (hlen : n ≤ 100) (hx : BytesOf xs) (hr0 : 0 ≤ r) (hr1 : r ≤ 1114111) (hq1 : r ≠ 39) (hq2 : r ≠ 92) (h1 : 32 ≤ r) (h2 : r ≤ 126) :
    Calls Tryz.prog 89 #[v, .int .i32 r, .int .u8 39, .bool true, .bool false] w fun e w' => EscPost B n W0 e w' := by
  obtain ⟨i0, hi, hz0, hz1, hz2⟩ := info_parts info5
  have cP : Calls Tryz.prog 91 #[.int .i32 r] w fun e w' => e = .returned (.bool true) ∧ w' = w := by
    have e : Lib.isPrintLatin r = true := by simp [Lib.isPrintLatin]; omega
    rw [← e]; exact Tryz.strconv_IsPrint_latin r w (by omega)
  obtain ⟨k, rfl⟩ := Int.eq_ofNat_of_zero_le hr0
  have hw8 : IntKind.u8.wrap (k : Int) = (k : Int) := by
    have e : (k : Int) % 256 = k := Int.emod_eq_of_lt (by omega) (by omega)
    simp [IntKind.wrap, IntKind.bits, IntKind.signed, e]
  have h3 : (k : Int) < 128 := by omega
  go_enter Tryz.func89, Tryz.ntmps89
  go_big_wp2_with (first | (go_at_call 91; refine cP.mono ?_; rintro e w1 ⟨rfl, rfl⟩) | (at_builtin; first
      | (refine Lib.wpList_append_byte rfl _ _ 78 rfl B 5 i0 Tryz.underlying78 hi hz0 hz1 hz2 _ _ _ rfl W0 _ _ (by assumption) rfl (by first | omega | (simp only [Lib.size_two]; omega)) ?_; intro _ _ hb)
      | (refine Lib.wpList_append_text rfl _ _ 78 9 rfl B 5 i0 Tryz.underlying78 Tryz.underlying9 hi hz0 hz1 hz2 _ _ _ rfl W0 (by assumption) _ rfl (by first | omega | (simp only [Lib.size_two]; omega)) ?_; intro _ _ hb)))
  go_ret
  exact esc_post hb (by first | omega | (simp only [Lib.size_two]; omega)) (by repeat (first | exact hx | apply BytesOf.byte | apply BytesOf.text))

set_option maxHeartbeats 4000000 in
set_option maxRecDepth 1000000 in
theorem esc_named (B : Nat) (v : Value) (n : Nat) (xs : List Value) (r : Int) (W0 w : World) (hb : Lib.OwnBuf B 5 v n xs W0 w) (hlen : n ≤ 100) (hx : BytesOf xs) (hr0 : 0 ≤ r) (hr1 : r ≤ 1114111) (hn : r = 7 ∨ r = 8 ∨ r = 12 ∨ r = 10 ∨ r = 13 ∨ r = 9 ∨ r = 11) :
    Calls Tryz.prog 89 #[v, .int .i32 r, .int .u8 39, .bool true, .bool false] w fun e w' => EscPost B n W0 e w' := by
  obtain ⟨i0, hi, hz0, hz1, hz2⟩ := info_parts info5
  have cP : Calls Tryz.prog 91 #[.int .i32 r] w fun e w' => e = .returned (.bool false) ∧ w' = w := by
    have e : Lib.isPrintLatin r = false := by rcases hn with rfl | rfl | rfl | rfl | rfl | rfl | rfl <;> rfl
    rw [← e]; exact Tryz.strconv_IsPrint_latin r w (by omega)
  rcases hn with rfl | rfl | rfl | rfl | rfl | rfl | rfl
  all_goals (
    go_enter Tryz.func89, Tryz.ntmps89
    go_big_wp2_with (first | (go_at_call 91; refine cP.mono ?_; rintro e w1 ⟨rfl, rfl⟩) | (at_builtin; first
      | (refine Lib.wpList_append_byte rfl _ _ 78 rfl B 5 i0 Tryz.underlying78 hi hz0 hz1 hz2 _ _ _ rfl W0 _ _ (by assumption) rfl (by first | omega | (simp only [Lib.size_two]; omega)) ?_; intro _ _ hb)
      | (refine Lib.wpList_append_text rfl _ _ 78 9 rfl B 5 i0 Tryz.underlying78 Tryz.underlying9 hi hz0 hz1 hz2 _ _ _ rfl W0 (by assumption) _ rfl (by first | omega | (simp only [Lib.size_two]; omega)) ?_; intro _ _ hb)))
    go_ret
    exact esc_post hb (by first | omega | (simp only [Lib.size_two]; omega)) (by repeat (first | exact hx | apply BytesOf.byte | apply BytesOf.text)))

set_option maxHeartbeats 4000000 in
set_option maxRecDepth 1000000 in
theorem esc_hex2 (B : Nat) (v : Value) (n : Nat) (xs : List Value) (r : Int) (W0 w : World) (hb : Lib.OwnBuf B 5 v n xs W0 w) (hlen : n ≤ 100) (hx : BytesOf xs) (hr0 : 0 ≤ r) (hr1 : r ≤ 1114111) (hh : r < 32 ∨ r = 127) (hn : ¬ (r = 7 ∨ r = 8 ∨ r = 12 ∨ r = 10 ∨ r = 13 ∨ r = 9 ∨ r = 11)) :
    Calls Tryz.prog 89 #[v, .int .i32 r, .int .u8 39, .bool true, .bool false] w fun e w' => EscPost B n W0 e w' := by
  obtain ⟨i0, hi, hz0, hz1, hz2⟩ := info_parts info5
  have cP : Calls Tryz.prog 91 #[.int .i32 r] w fun e w' => e = .returned (.bool false) ∧ w' = w := by
    have e : Lib.isPrintLatin r = false := by simp [Lib.isPrintLatin]; omega
    rw [← e]; exact Tryz.strconv_IsPrint_latin r w (by omega)
  obtain ⟨k, rfl⟩ := Int.eq_ofNat_of_zero_le hr0
  have hk : k < 128 := by omega
  have hw8 : IntKind.u8.wrap (k : Int) = (k : Int) := by
    have e : (k : Int) % 256 = k := Int.emod_eq_of_lt (by omega) (by omega)
    simp [IntKind.wrap, IntKind.bits, IntKind.signed, e]
  go_enter Tryz.func89, Tryz.ntmps89
  go_big_wp2_with (first | (go_at_call 91; refine cP.mono ?_; rintro e w1 ⟨rfl, rfl⟩) | (at_builtin; first
      | (refine Lib.wpList_append_byte rfl _ _ 78 rfl B 5 i0 Tryz.underlying78 hi hz0 hz1 hz2 _ _ _ rfl W0 _ _ (by assumption) rfl (by first | omega | (simp only [Lib.size_two]; omega)) ?_; intro _ _ hb)
      | (refine Lib.wpList_append_text rfl _ _ 78 9 rfl B 5 i0 Tryz.underlying78 Tryz.underlying9 hi hz0 hz1 hz2 _ _ _ rfl W0 (by assumption) _ rfl (by first | omega | (simp only [Lib.size_two]; omega)) ?_; intro _ _ hb)))
  all_goals (
    go_ret
    exact esc_post hb (by first | omega | (simp only [Lib.size_two]; omega)) (by repeat (first | exact hx | apply BytesOf.byte | apply BytesOf.text)))

set_option maxHeartbeats 4000000 in
set_option maxRecDepth 1000000 in
theorem esc_u4 (B : Nat) (v : Value) (n : Nat) (xs : List Value) (r : Int) (W0 w : World) (hb : Lib.OwnBuf B 5 v n xs W0 w) (hlen : n ≤ 100) (hx : BytesOf xs) (hr0 : 0 ≤ r) (hr1 : r ≤ 1114111) (h80 : 128 ≤ r) (hlt : r < 65536) (hv : Lib.validRune r = true) :
    Calls Tryz.prog 89 #[v, .int .i32 r, .int .u8 39, .bool true, .bool false] w fun e w' => EscPost B n W0 e w' := by
  obtain ⟨i0, hi, hz0, hz1, hz2⟩ := info_parts info5
  have cV : Calls Tryz.prog 88 #[.int .i32 r] w fun e w' => e = .returned (.bool true) ∧ w' = w := by
    rw [← hv]; exact Tryz.utf8_ValidRune r w
  clear hv
  have hq1 : r ≠ 39 := by omega
  have hq2 : r ≠ 92 := by omega
  obtain ⟨k, hk⟩ := Int.eq_ofNat_of_zero_le (show 0 ≤ r by omega)
  have hk31 : k < 2147483648 := by omega
  obtain ⟨d0, hd0⟩ : ∃ d, d = k / 4096 % 16 := ⟨_, rfl⟩
  have hD0 : bits .and .i32 (r / 4096) 15 = (d0 : Int) := by
    have e := Lib.and15_shift (r) k hk hk31 4096
    rw [hd0]; simpa using e
  have hL0 : d0 < 16 := by omega
  have hL0' : (d0 : Int) < 16 := by omega
  clear hd0
  obtain ⟨d1, hd1⟩ : ∃ d, d = k / 256 % 16 := ⟨_, rfl⟩
  have hD1 : bits .and .i32 (r / 256) 15 = (d1 : Int) := by
    have e := Lib.and15_shift (r) k hk hk31 256
    rw [hd1]; simpa using e
  have hL1 : d1 < 16 := by omega
  have hL1' : (d1 : Int) < 16 := by omega
  clear hd1
  obtain ⟨d2, hd2⟩ : ∃ d, d = k / 16 % 16 := ⟨_, rfl⟩
  have hD2 : bits .and .i32 (r / 16) 15 = (d2 : Int) := by
    have e := Lib.and15_shift (r) k hk hk31 16
    rw [hd2]; simpa using e
  have hL2 : d2 < 16 := by omega
  have hL2' : (d2 : Int) < 16 := by omega
  clear hd2
  obtain ⟨d3, hd3⟩ : ∃ d, d = k / 1 % 16 := ⟨_, rfl⟩
  have hD3 : bits .and .i32 (r) 15 = (d3 : Int) := by
    have e := Lib.and15_shift (r) k hk hk31 1
    rw [hd3]; simpa using e
  have hL3 : d3 < 16 := by omega
  have hL3' : (d3 : Int) < 16 := by omega
  clear hd3
  clear hk hk31
  go_enter Tryz.func89, Tryz.ntmps89
  go_big_wp2_with (first | (go_at_call 88; refine cV.mono ?_; rintro e w1 ⟨rfl, rfl⟩) | (at_builtin; first
      | (refine Lib.wpList_append_byte rfl _ _ 78 rfl B 5 i0 Tryz.underlying78 hi hz0 hz1 hz2 _ _ _ rfl W0 _ _ (by assumption) rfl (by first | omega | (simp only [Lib.size_two]; omega)) ?_; intro _ _ hb)
      | (refine Lib.wpList_append_text rfl _ _ 78 9 rfl B 5 i0 Tryz.underlying78 Tryz.underlying9 hi hz0 hz1 hz2 _ _ _ rfl W0 (by assumption) _ rfl (by first | omega | (simp only [Lib.size_two]; omega)) ?_; intro _ _ hb)))
  refine wp_loop_rounds 5 ?_
  rw [rounds_succ]
  go_big_wp2_with (at_builtin; first
      | (refine Lib.wpList_append_byte rfl _ _ 78 rfl B 5 i0 Tryz.underlying78 hi hz0 hz1 hz2 _ _ _ rfl W0 _ _ (by assumption) rfl (by first | omega | (simp only [Lib.size_two]; omega)) ?_; intro _ _ hb)
      | (refine Lib.wpList_append_text rfl _ _ 78 9 rfl B 5 i0 Tryz.underlying78 Tryz.underlying9 hi hz0 hz1 hz2 _ _ _ rfl W0 (by assumption) _ rfl (by first | omega | (simp only [Lib.size_two]; omega)) ?_; intro _ _ hb))
  rw [rounds_succ]
  go_big_wp2_with (at_builtin; first
      | (refine Lib.wpList_append_byte rfl _ _ 78 rfl B 5 i0 Tryz.underlying78 hi hz0 hz1 hz2 _ _ _ rfl W0 _ _ (by assumption) rfl (by first | omega | (simp only [Lib.size_two]; omega)) ?_; intro _ _ hb)
      | (refine Lib.wpList_append_text rfl _ _ 78 9 rfl B 5 i0 Tryz.underlying78 Tryz.underlying9 hi hz0 hz1 hz2 _ _ _ rfl W0 (by assumption) _ rfl (by first | omega | (simp only [Lib.size_two]; omega)) ?_; intro _ _ hb))
  rw [rounds_succ]
  go_big_wp2_with (at_builtin; first
      | (refine Lib.wpList_append_byte rfl _ _ 78 rfl B 5 i0 Tryz.underlying78 hi hz0 hz1 hz2 _ _ _ rfl W0 _ _ (by assumption) rfl (by first | omega | (simp only [Lib.size_two]; omega)) ?_; intro _ _ hb)
      | (refine Lib.wpList_append_text rfl _ _ 78 9 rfl B 5 i0 Tryz.underlying78 Tryz.underlying9 hi hz0 hz1 hz2 _ _ _ rfl W0 (by assumption) _ rfl (by first | omega | (simp only [Lib.size_two]; omega)) ?_; intro _ _ hb))
  rw [rounds_succ]
  go_big_wp2_with (at_builtin; first
      | (refine Lib.wpList_append_byte rfl _ _ 78 rfl B 5 i0 Tryz.underlying78 hi hz0 hz1 hz2 _ _ _ rfl W0 _ _ (by assumption) rfl (by first | omega | (simp only [Lib.size_two]; omega)) ?_; intro _ _ hb)
      | (refine Lib.wpList_append_text rfl _ _ 78 9 rfl B 5 i0 Tryz.underlying78 Tryz.underlying9 hi hz0 hz1 hz2 _ _ _ rfl W0 (by assumption) _ rfl (by first | omega | (simp only [Lib.size_two]; omega)) ?_; intro _ _ hb))
  rw [rounds_succ]
  go_big_wp2_with (at_builtin; first
      | (refine Lib.wpList_append_byte rfl _ _ 78 rfl B 5 i0 Tryz.underlying78 hi hz0 hz1 hz2 _ _ _ rfl W0 _ _ (by assumption) rfl (by first | omega | (simp only [Lib.size_two]; omega)) ?_; intro _ _ hb)
      | (refine Lib.wpList_append_text rfl _ _ 78 9 rfl B 5 i0 Tryz.underlying78 Tryz.underlying9 hi hz0 hz1 hz2 _ _ _ rfl W0 (by assumption) _ rfl (by first | omega | (simp only [Lib.size_two]; omega)) ?_; intro _ _ hb))
  go_ret
  exact esc_post hb (by first | omega | (simp only [Lib.size_two]; omega)) (by repeat (first | exact hx | apply BytesOf.byte | apply BytesOf.text))

set_option maxHeartbeats 4000000 in
set_option maxRecDepth 1000000 in
theorem esc_u8 (B : Nat) (v : Value) (n : Nat) (xs : List Value) (r : Int) (W0 w : World) (hb : Lib.OwnBuf B 5 v n xs W0 w) (hlen : n ≤ 100) (hx : BytesOf xs) (hr0 : 0 ≤ r) (hr1 : r ≤ 1114111) (h80 : 65536 ≤ r) (hv : Lib.validRune r = true) :
    Calls Tryz.prog 89 #[v, .int .i32 r, .int .u8 39, .bool true, .bool false] w fun e w' => EscPost B n W0 e w' := by
  obtain ⟨i0, hi, hz0, hz1, hz2⟩ := info_parts info5
  have cV : Calls Tryz.prog 88 #[.int .i32 r] w fun e w' => e = .returned (.bool true) ∧ w' = w := by
    rw [← hv]; exact Tryz.utf8_ValidRune r w
  clear hv
  have hq1 : r ≠ 39 := by omega
  have hq2 : r ≠ 92 := by omega
  obtain ⟨k, hk⟩ := Int.eq_ofNat_of_zero_le (show 0 ≤ r by omega)
  have hk31 : k < 2147483648 := by omega
  obtain ⟨d0, hd0⟩ : ∃ d, d = k / 268435456 % 16 := ⟨_, rfl⟩
  have hD0 : bits .and .i32 (r / 268435456) 15 = (d0 : Int) := by
    have e := Lib.and15_shift (r) k hk hk31 268435456
    rw [hd0]; simpa using e
  have hL0 : d0 < 16 := by omega
  have hL0' : (d0 : Int) < 16 := by omega
  clear hd0
  obtain ⟨d1, hd1⟩ : ∃ d, d = k / 16777216 % 16 := ⟨_, rfl⟩
  have hD1 : bits .and .i32 (r / 16777216) 15 = (d1 : Int) := by
    have e := Lib.and15_shift (r) k hk hk31 16777216
    rw [hd1]; simpa using e
  have hL1 : d1 < 16 := by omega
  have hL1' : (d1 : Int) < 16 := by omega
  clear hd1
  obtain ⟨d2, hd2⟩ : ∃ d, d = k / 1048576 % 16 := ⟨_, rfl⟩
  have hD2 : bits .and .i32 (r / 1048576) 15 = (d2 : Int) := by
    have e := Lib.and15_shift (r) k hk hk31 1048576
    rw [hd2]; simpa using e
  have hL2 : d2 < 16 := by omega
  have hL2' : (d2 : Int) < 16 := by omega
  clear hd2
  obtain ⟨d3, hd3⟩ : ∃ d, d = k / 65536 % 16 := ⟨_, rfl⟩
  have hD3 : bits .and .i32 (r / 65536) 15 = (d3 : Int) := by
    have e := Lib.and15_shift (r) k hk hk31 65536
    rw [hd3]; simpa using e
  have hL3 : d3 < 16 := by omega
  have hL3' : (d3 : Int) < 16 := by omega
  clear hd3
  obtain ⟨d4, hd4⟩ : ∃ d, d = k / 4096 % 16 := ⟨_, rfl⟩
  have hD4 : bits .and .i32 (r / 4096) 15 = (d4 : Int) := by
    have e := Lib.and15_shift (r) k hk hk31 4096
    rw [hd4]; simpa using e
  have hL4 : d4 < 16 := by omega
  have hL4' : (d4 : Int) < 16 := by omega
  clear hd4
  obtain ⟨d5, hd5⟩ : ∃ d, d = k / 256 % 16 := ⟨_, rfl⟩
  have hD5 : bits .and .i32 (r / 256) 15 = (d5 : Int) := by
    have e := Lib.and15_shift (r) k hk hk31 256
    rw [hd5]; simpa using e
  have hL5 : d5 < 16 := by omega
  have hL5' : (d5 : Int) < 16 := by omega
  clear hd5
  obtain ⟨d6, hd6⟩ : ∃ d, d = k / 16 % 16 := ⟨_, rfl⟩
  have hD6 : bits .and .i32 (r / 16) 15 = (d6 : Int) := by
    have e := Lib.and15_shift (r) k hk hk31 16
    rw [hd6]; simpa using e
  have hL6 : d6 < 16 := by omega
  have hL6' : (d6 : Int) < 16 := by omega
  clear hd6
  obtain ⟨d7, hd7⟩ : ∃ d, d = k / 1 % 16 := ⟨_, rfl⟩
  have hD7 : bits .and .i32 (r) 15 = (d7 : Int) := by
    have e := Lib.and15_shift (r) k hk hk31 1
    rw [hd7]; simpa using e
  have hL7 : d7 < 16 := by omega
  have hL7' : (d7 : Int) < 16 := by omega
  clear hd7
  clear hk hk31
  go_enter Tryz.func89, Tryz.ntmps89
  go_big_wp2_with (first | (go_at_call 88; refine cV.mono ?_; rintro e w1 ⟨rfl, rfl⟩) | (at_builtin; first
      | (refine Lib.wpList_append_byte rfl _ _ 78 rfl B 5 i0 Tryz.underlying78 hi hz0 hz1 hz2 _ _ _ rfl W0 _ _ (by assumption) rfl (by first | omega | (simp only [Lib.size_two]; omega)) ?_; intro _ _ hb)
      | (refine Lib.wpList_append_text rfl _ _ 78 9 rfl B 5 i0 Tryz.underlying78 Tryz.underlying9 hi hz0 hz1 hz2 _ _ _ rfl W0 (by assumption) _ rfl (by first | omega | (simp only [Lib.size_two]; omega)) ?_; intro _ _ hb)))
  refine wp_loop_rounds 9 ?_
  rw [rounds_succ]
  go_big_wp2_with (at_builtin; first
      | (refine Lib.wpList_append_byte rfl _ _ 78 rfl B 5 i0 Tryz.underlying78 hi hz0 hz1 hz2 _ _ _ rfl W0 _ _ (by assumption) rfl (by first | omega | (simp only [Lib.size_two]; omega)) ?_; intro _ _ hb)
      | (refine Lib.wpList_append_text rfl _ _ 78 9 rfl B 5 i0 Tryz.underlying78 Tryz.underlying9 hi hz0 hz1 hz2 _ _ _ rfl W0 (by assumption) _ rfl (by first | omega | (simp only [Lib.size_two]; omega)) ?_; intro _ _ hb))
  rw [rounds_succ]
  go_big_wp2_with (at_builtin; first
      | (refine Lib.wpList_append_byte rfl _ _ 78 rfl B 5 i0 Tryz.underlying78 hi hz0 hz1 hz2 _ _ _ rfl W0 _ _ (by assumption) rfl (by first | omega | (simp only [Lib.size_two]; omega)) ?_; intro _ _ hb)
      | (refine Lib.wpList_append_text rfl _ _ 78 9 rfl B 5 i0 Tryz.underlying78 Tryz.underlying9 hi hz0 hz1 hz2 _ _ _ rfl W0 (by assumption) _ rfl (by first | omega | (simp only [Lib.size_two]; omega)) ?_; intro _ _ hb))
  rw [rounds_succ]
  go_big_wp2_with (at_builtin; first
      | (refine Lib.wpList_append_byte rfl _ _ 78 rfl B 5 i0 Tryz.underlying78 hi hz0 hz1 hz2 _ _ _ rfl W0 _ _ (by assumption) rfl (by first | omega | (simp only [Lib.size_two]; omega)) ?_; intro _ _ hb)
      | (refine Lib.wpList_append_text rfl _ _ 78 9 rfl B 5 i0 Tryz.underlying78 Tryz.underlying9 hi hz0 hz1 hz2 _ _ _ rfl W0 (by assumption) _ rfl (by first | omega | (simp only [Lib.size_two]; omega)) ?_; intro _ _ hb))
  rw [rounds_succ]
  go_big_wp2_with (at_builtin; first
      | (refine Lib.wpList_append_byte rfl _ _ 78 rfl B 5 i0 Tryz.underlying78 hi hz0 hz1 hz2 _ _ _ rfl W0 _ _ (by assumption) rfl (by first | omega | (simp only [Lib.size_two]; omega)) ?_; intro _ _ hb)
      | (refine Lib.wpList_append_text rfl _ _ 78 9 rfl B 5 i0 Tryz.underlying78 Tryz.underlying9 hi hz0 hz1 hz2 _ _ _ rfl W0 (by assumption) _ rfl (by first | omega | (simp only [Lib.size_two]; omega)) ?_; intro _ _ hb))
  rw [rounds_succ]
  go_big_wp2_with (at_builtin; first
      | (refine Lib.wpList_append_byte rfl _ _ 78 rfl B 5 i0 Tryz.underlying78 hi hz0 hz1 hz2 _ _ _ rfl W0 _ _ (by assumption) rfl (by first | omega | (simp only [Lib.size_two]; omega)) ?_; intro _ _ hb)
      | (refine Lib.wpList_append_text rfl _ _ 78 9 rfl B 5 i0 Tryz.underlying78 Tryz.underlying9 hi hz0 hz1 hz2 _ _ _ rfl W0 (by assumption) _ rfl (by first | omega | (simp only [Lib.size_two]; omega)) ?_; intro _ _ hb))
  rw [rounds_succ]
  go_big_wp2_with (at_builtin; first
      | (refine Lib.wpList_append_byte rfl _ _ 78 rfl B 5 i0 Tryz.underlying78 hi hz0 hz1 hz2 _ _ _ rfl W0 _ _ (by assumption) rfl (by first | omega | (simp only [Lib.size_two]; omega)) ?_; intro _ _ hb)
      | (refine Lib.wpList_append_text rfl _ _ 78 9 rfl B 5 i0 Tryz.underlying78 Tryz.underlying9 hi hz0 hz1 hz2 _ _ _ rfl W0 (by assumption) _ rfl (by first | omega | (simp only [Lib.size_two]; omega)) ?_; intro _ _ hb))
  rw [rounds_succ]
  go_big_wp2_with (at_builtin; first
      | (refine Lib.wpList_append_byte rfl _ _ 78 rfl B 5 i0 Tryz.underlying78 hi hz0 hz1 hz2 _ _ _ rfl W0 _ _ (by assumption) rfl (by first | omega | (simp only [Lib.size_two]; omega)) ?_; intro _ _ hb)
      | (refine Lib.wpList_append_text rfl _ _ 78 9 rfl B 5 i0 Tryz.underlying78 Tryz.underlying9 hi hz0 hz1 hz2 _ _ _ rfl W0 (by assumption) _ rfl (by first | omega | (simp only [Lib.size_two]; omega)) ?_; intro _ _ hb))
  rw [rounds_succ]
  go_big_wp2_with (at_builtin; first
      | (refine Lib.wpList_append_byte rfl _ _ 78 rfl B 5 i0 Tryz.underlying78 hi hz0 hz1 hz2 _ _ _ rfl W0 _ _ (by assumption) rfl (by first | omega | (simp only [Lib.size_two]; omega)) ?_; intro _ _ hb)
      | (refine Lib.wpList_append_text rfl _ _ 78 9 rfl B 5 i0 Tryz.underlying78 Tryz.underlying9 hi hz0 hz1 hz2 _ _ _ rfl W0 (by assumption) _ rfl (by first | omega | (simp only [Lib.size_two]; omega)) ?_; intro _ _ hb))
  rw [rounds_succ]
  go_big_wp2_with (at_builtin; first
      | (refine Lib.wpList_append_byte rfl _ _ 78 rfl B 5 i0 Tryz.underlying78 hi hz0 hz1 hz2 _ _ _ rfl W0 _ _ (by assumption) rfl (by first | omega | (simp only [Lib.size_two]; omega)) ?_; intro _ _ hb)
      | (refine Lib.wpList_append_text rfl _ _ 78 9 rfl B 5 i0 Tryz.underlying78 Tryz.underlying9 hi hz0 hz1 hz2 _ _ _ rfl W0 (by assumption) _ rfl (by first | omega | (simp only [Lib.size_two]; omega)) ?_; intro _ _ hb))
  go_ret
  exact esc_post hb (by first | omega | (simp only [Lib.size_two]; omega)) (by repeat (first | exact hx | apply BytesOf.byte | apply BytesOf.text))

theorem esc_any (B : Nat) (v : Value) (n : Nat) (xs : List Value) (r : Int) (W0 w : World) (hb : Lib.OwnBuf B 5 v n xs W0 w) (hlen : n ≤ 100) (hx : BytesOf xs) (hv : Lib.validRune r = true) :
    Calls Tryz.prog 89 #[v, .int .i32 r, .int .u8 39, .bool true, .bool false] w fun e w' => EscPost B n W0 e w' := by
  have hr : 0 ≤ r ∧ r ≤ 1114111 := by
    have := hv; simp [Lib.validRune] at this; omega
  obtain ⟨hr0, hr1⟩ := hr
  by_cases hq : r = 39 ∨ r = 92
  · exact esc_quoted B v n xs r W0 w hb hlen hx hr0 hr1 hq
  by_cases hp : 32 ≤ r ∧ r ≤ 126
  · exact esc_plain B v n xs r W0 w hb hlen hx hr0 hr1 (by omega) (by omega) hp.1 hp.2
  by_cases hn : r = 7 ∨ r = 8 ∨ r = 12 ∨ r = 10 ∨ r = 13 ∨ r = 9 ∨ r = 11
  · exact esc_named B v n xs r W0 w hb hlen hx hr0 hr1 hn
  by_cases hh : r < 32 ∨ r = 127
  · exact esc_hex2 B v n xs r W0 w hb hlen hx hr0 hr1 hh hn
  by_cases hlt : r < 65536
  · exact esc_u4 B v n xs r W0 w hb hlen hx hr0 hr1 (by omega) hlt hv
  · exact esc_u8 B v n xs r W0 w hb hlen hx hr0 hr1 (by omega) hv
theorem valid_fffd : Lib.validRune 65533 = true := by decide
set_option maxHeartbeats 4000000 in
set_option maxRecDepth 1000000 in
theorem apq_any (r : Int) (w : World) :
    Calls Tryz.prog 83 #[.slice none 0 0, .int .i32 r, .int .u8 39, .bool true, .bool false] w fun e w' => EscPost w.heap.size 10 w e w' := by
  obtain ⟨i0, hi, hz0, hz1, hz2⟩ := info_parts info5
  obtain ⟨B, hB⟩ : ∃ B, w.heap.size = B := ⟨_, rfl⟩
  obtain ⟨W0, hW⟩ : ∃ W0, w = W0 := ⟨_, rfl⟩
  have hb0 : Lib.OwnBuf B 5 (.slice none 0 0) 0 [] W0 w := by
    subst hW
    rw [← hB]
    exact ⟨World.ownsRowF_nil _ _ _ _, Below.refl _ _, Nat.le_refl _⟩
  have hx0 : BytesOf [] := ⟨[], rfl⟩
  rw [hB]
  suffices H : Calls Tryz.prog 83 #[.slice none 0 0, .int .i32 r, .int .u8 39, .bool true, .bool false] w fun e w' => EscPost B 10 W0 e w' by
    rw [hW] at H ⊢; exact H
  clear hB hW
  cases hv : Lib.validRune r with
  | true =>
    have cV : ∀ w, Calls Tryz.prog 88 #[.int .i32 r] w fun e w' => e = .returned (.bool true) ∧ w' = w := fun w => by
      rw [← hv]; exact Tryz.utf8_ValidRune r w
    have HV := Lib.hid hv
    clear hv
    go_enter Tryz.func83, Tryz.ntmps83
    go_big_wp2_with (first | (go_at_call 88; refine (cV _).mono ?_; rintro e w1 ⟨rfl, rfl⟩) | (go_at_call 89; refine (esc_any B _ _ _ r W0 _ hb (by omega) (BytesOf.byte hx0) HV.out).mono ?_; rintro e w2 ⟨v2, n2, xs2, rfl, hn2, hx2, hb⟩) | (at_builtin; first
      | (refine Lib.wpList_append_byte rfl _ _ 78 rfl B 5 i0 Tryz.underlying78 hi hz0 hz1 hz2 _ _ _ rfl W0 _ _ (by assumption) rfl (by first | omega | (simp only [Lib.size_two]; omega)) ?_; intro _ _ hb)
      | (refine Lib.wpList_append_text rfl _ _ 78 9 rfl B 5 i0 Tryz.underlying78 Tryz.underlying9 hi hz0 hz1 hz2 _ _ _ rfl W0 (by assumption) _ rfl (by first | omega | (simp only [Lib.size_two]; omega)) ?_; intro _ _ hb)))
    go_ret
    exact esc_post hb (by omega) hx2.byte
  | false =>
    have cV : ∀ w, Calls Tryz.prog 88 #[.int .i32 r] w fun e w' => e = .returned (.bool false) ∧ w' = w := fun w => by
      rw [← hv]; exact Tryz.utf8_ValidRune r w
    clear hv
    go_enter Tryz.func83, Tryz.ntmps83
    go_big_wp2_with (first | (go_at_call 88; refine (cV _).mono ?_; rintro e w1 ⟨rfl, rfl⟩) | (go_at_call 89; refine (esc_any B _ _ _ 65533 W0 _ hb (by omega) (BytesOf.byte hx0) valid_fffd).mono ?_; rintro e w2 ⟨v2, n2, xs2, rfl, hn2, hx2, hb⟩) | (at_builtin; first
      | (refine Lib.wpList_append_byte rfl _ _ 78 rfl B 5 i0 Tryz.underlying78 hi hz0 hz1 hz2 _ _ _ rfl W0 _ _ (by assumption) rfl (by first | omega | (simp only [Lib.size_two]; omega)) ?_; intro _ _ hb)
      | (refine Lib.wpList_append_text rfl _ _ 78 9 rfl B 5 i0 Tryz.underlying78 Tryz.underlying9 hi hz0 hz1 hz2 _ _ _ rfl W0 (by assumption) _ rfl (by first | omega | (simp only [Lib.size_two]; omega)) ?_; intro _ _ hb)))
    go_ret
    exact esc_post hb (by omega) hx2.byte
theorem Tryz.u78 : Tryz.prog.underlying 78 = some (.slice 5) := by kernel_rfl
theorem conv_own {B n : Nat} {v : Value} {xs : List Value} {w : World} (h : w.ownsRowF B 5 1 v n xs) (hx : BytesOf xs) : ∃ t : ByteArray, (convert 78 9 v).run Tryz.prog w = .ok (.string t) w := by
  obtain ⟨l, rfl⟩ := hx
  have hl := h.1
  have hc := fun g hg => h.cells (g := g) hg
  rcases h.2 with ⟨rfl, _⟩ | ⟨g, cap, cur, fz, rfl, _⟩
  · exact ⟨_, run_convert_bytes_nil w 78 5 Tryz.u78 Tryz.u5 0 0 9 Tryz.u9⟩
  · have hln : l.length = n := by simpa using hl
    refine ⟨_, run_convert_bytes_arg w 78 5 Tryz.u78 Tryz.u5 g 0 n cap l hln (fun i hi => ?_) 9 Tryz.u9⟩
    have := hc g rfl i (.int .u8 (l.getD i 0)) (by simp [List.getD, show i < l.length by omega])
    rw [show (⟨g, 0, none⟩ : Addr).add i = ⟨g, i, none⟩ by unfold Addr.add; split <;> simp_all] at this
    rw [Nat.zero_add]
    exact this
set_option maxHeartbeats 4000000 in
set_option maxRecDepth 1000000 in
theorem qrw_any (r : Int) (w : World) : Calls Tryz.prog 67 #[.int .i32 r, .int .u8 39, .bool true, .bool false] w fun e w' => (∃ t, e = .returned (.string t)) ∧ Below w.heap.size w w' := by
  go_enter Tryz.func67, Tryz.ntmps67
  go_wp2_with (go_at_call 83; refine (apq_any r _).mono ?_; rintro e w1 ⟨v1, n1, xs1, rfl, hn1, hx1, hb1⟩; obtain ⟨t, ht⟩ := conv_own hb1.1 hx1)
  go_ret
  exact ⟨⟨_, rfl⟩, hb1.2.1⟩
theorem quote_any (r : Int) (w : World) : Calls Tryz.prog 40 #[.int .i32 r] w fun e w' => (∃ t, e = .returned (.string t)) ∧ Below w.heap.size w w' := by
  go_enter Tryz.func40, Tryz.ntmps40
  go_wp2_with (go_at_call 67; refine (qrw_any r _).mono ?_; rintro e w1 ⟨⟨t, rfl⟩, hb1⟩)
  go_ret
  exact ⟨⟨_, rfl⟩, hb1⟩
end Go.Proofs.YtiicdalodfjgaaaGreatFmt
