/- What StringUnescape calls: the decoder, the buffer, the figures of base 16, the halves of pairs, the error's making. -/
import Derived.Test.YtiicdalodfjgaaaFmtUnC
import Derived.Test.YtiicdalodfjgaaaFmtSh
import Derived.Test.YtiicdalodfjgaaaFmtSp
import Derived.Lib.DecodeN
import Derived.Lib.BufferOld
import Derived.Lib.HexFns2
import Derived.Laws.BitsLemmas
import Derived.Laws.BitsAllLaws
namespace Go.Proofs.YtiicdalodfjgaaaFmt
open Go.RowKit

theorem get_ext (s : ByteArray) (i k : Nat) : (s.extract i s.size).get! k = s.get! (i + k) := by
  obtain ⟨⟨l⟩⟩ := s
  simp only [ByteArray.get!, ByteArray.extract_mk]
  have hd : (default : UInt8) = 0 := rfl
  by_cases h : i + k < l.length
  · simp [ByteArray.size, h, show k < l.length - i by omega]
  · simp [ByteArray.size, h, show ¬ k < l.length - i by omega]
theorem decode_ext (s : ByteArray) (i : Nat) (h : i < s.size) : Lib.decodeGo (s.extract i s.size) = (dr s i, dw s i) := by
  have hz : (s.extract i s.size).size = s.size - i := by simp
  have e : Lib.decodeGo (s.extract i s.size) = Utf8.decode (s.extract i s.size) 0 := by
    show (if (s.extract i s.size).size = 0 then _ else _) = _
    rw [if_neg (by omega)]
  rw [e, Lib.decode_at, hz]
  simp only [Nat.sub_zero, Nat.zero_add, get_ext, Nat.add_zero]
  rw [← Lib.decode_at]
theorem dec_any (s : ByteArray) (i : Nat) (h : i < s.size) (w : World) (hT : Lib.Utf8Tabs 0 1 w) :
    Calls Tryf.prog 14 #[.string (s.extract i s.size)] w fun e w' => e = .returned (.tuple #[.int .i32 (dr s i), .int .i64 (dw s i)]) ∧ Below w.heap.size w w' := by
  have := Tryf.utf8_DecodeRuneInString (s.extract i s.size) w hT
  rw [decode_ext s i h] at this
  exact this

abbrev Buf (b : Nat) (acc : List UInt8) (w : World) : Prop := Lib.IsBuffer 48 5 b b (Lib.byteCells acc) w
theorem wr_any (b : Nat) (acc : List UInt8) (r : Int) (h0 : -2147483648 ≤ r) (h1 : r ≤ 2147483647) (w : World) (hB : Buf b acc w) (hl : acc.length ≤ 100000) :
    Calls Tryf.prog 16 #[.pointer (some ⟨b, 0, none⟩), .int .i32 r] w fun e w' => (∃ v, e = .returned v) ∧ Buf b (acc ++ Lib.encodeRune r) w' ∧ Below b w w' := by
  have hlt := hB.lt
  refine (Tryf.Buffer_WriteRune_k b b _ r h0 h1 w hB (by omega) (Lib.byteCells_one _) (by rw [Lib.byteCells_length]; omega)).mono ?_
  rintro e w' ⟨rfl, h1, h2, -⟩
  refine ⟨⟨_, rfl⟩, ?_, h2⟩
  unfold Buf
  rw [Lib.byteCells_append, Lib.byteCells_encodeRune]
  exact h1
theorem str_any (b : Nat) (acc : List UInt8) (w : World) (hB : Buf b acc w) :
    Calls Tryf.prog 21 #[.pointer (some ⟨b, 0, none⟩)] w fun e w' => e = .returned (.string ⟨acc.toArray⟩) ∧ ∃ n, w' = w.drewN n :=
  Tryf.Buffer_String b b acc w hB

theorem mse_any (m : ByteArray) (p : Option Addr) (n : ByteArray) (a b c d : Int) (w : World) :
    Calls Tryf.prog 15 #[.string m, .agg #[.pointer p, .string n, .int .i64 a, .int .i64 b, .int .i64 c, .int .i64 d]] w fun e w' =>
      (∃ T v, e = .returned (.iface T v)) ∧ Below w.heap.size w w' := by
  go_enter Tryf.func15, Tryf.ntmps15
  go_wp2_with fail
  go_ret
  exact ⟨⟨_, _, rfl⟩, (Below.refl _ _).alloc (Nat.le_refl _) _⟩

theorem or_pair (x y : Int) (hx0 : 0 ≤ x) (hx : x < 1024) (hy0 : 0 ≤ y) (hy : y < 1024) : bits BinOp.or IntKind.i32 (x * 1024) y = x * 1024 + y := by
  obtain ⟨A, rfl⟩ := Int.eq_ofNat_of_zero_le hx0
  obtain ⟨B, rfl⟩ := Int.eq_ofNat_of_zero_le hy0
  have e : ((A : Int) * 1024) = ((2 ^ 10 * A : Nat) : Int) := by omega
  have h1 : (BitVec.ofInt 32 ((A : Int) * 1024)).toNat = 2 ^ 10 * A := by
    rw [e, BitVec.ofInt_natCast, BitVec.toNat_ofNat]
    exact Nat.mod_eq_of_lt (by omega)
  have h2 : (BitVec.ofInt 32 (B : Int)).toNat = B := by
    rw [BitVec.ofInt_natCast, BitVec.toNat_ofNat]
    exact Nat.mod_eq_of_lt (by omega)
  show IntKind.i32.wrap ((BitVec.ofInt 32 ((A : Int) * 1024) ||| BitVec.ofInt 32 (B : Int)).toNat : Int) = _
  rw [BitVec.toNat_or, h1, h2, ← Nat.two_pow_add_eq_or_of_lt (by omega : B < 2 ^ 10) A, IntKind.wrap_i32]
  omega
def surB (n : Int) : Bool := decide (55296 ≤ n) && decide (n < 57344)
theorem sur_any (n : Int) (w : World) : Calls Tryf.prog 19 #[.int .i32 n] w fun e w' => e = .returned (.bool (surB n)) ∧ w = w' := by
  go_enter Tryf.func19, Tryf.ntmps19
  go_wp2
  all_goals
    go_ret
    refine ⟨ret_bool ?_, rfl⟩
    rw [Bool.eq_iff_iff]
    simp [surB]
    try omega
theorem pair_any (n m : Int) (hn0 : 0 ≤ n) (hn : n < 65536) (hm0 : 0 ≤ m) (hm : m < 65536) (w : World) : Calls Tryf.prog 20 #[.int .i32 n, .int .i32 m] w fun e w' => e = .returned (.int .i32 (decR n m)) ∧ w = w' := by
  by_cases a : 55296 ≤ n ∧ n < 56320 ∧ 56320 ≤ m ∧ m < 57344
  · have HV : Hid ((n - 55296) * 1024 + (m - 56320) + 65536 = decR n m) := Lib.hid (by unfold decR; rw [if_pos a])
    obtain ⟨a1, a2, a3, a4⟩ := a
    have hor := or_pair (n - 55296) (m - 56320) (by omega) (by omega) (by omega) (by omega)
    go_enter Tryf.func20, Tryf.ntmps20
    go_wp2
    go_ret
    exact ⟨ret_int HV.out, rfl⟩
  · have HV : Hid (65533 = decR n m) := Lib.hid (by unfold decR; rw [if_neg a])
    go_enter Tryf.func20, Tryf.ntmps20
    go_wp2
    all_goals
      go_ret
      exact ⟨ret_int HV.out, rfl⟩

/-! ### the figures of base 16, as encoding/hex reads them -/
theorem hex_same : ∀ c : Fin 256, hexv ((c.val : Nat) : Int) = if 15 < Lib.Hx.v (UInt8.ofNat c.val) then -1 else (Lib.Hx.v (UInt8.ofNat c.val) : Int) := by decide +kernel
theorem hex_v (c : Nat) (h : c < 256) : hexv (c : Int) = if 15 < Lib.Hx.v (UInt8.ofNat c) then -1 else (Lib.Hx.v (UInt8.ofNat c) : Int) := hex_same ⟨c, h⟩
theorem ext4 (s : ByteArray) (i : Nat) (h : i + 4 ≤ s.size) : (s.extract i (i + 4)).data.toList = [UInt8.ofNat (gb s i), UInt8.ofNat (gb s (i + 1)), UInt8.ofNat (gb s (i + 2)), UInt8.ofNat (gb s (i + 3))] := by
  rw [Lib.extract_data]
  have h0 := drop_bl s i (by omega)
  have h1 := drop_bl s (i + 1) (by omega)
  have h2 := drop_bl s (i + 2) (by omega)
  have h3 := drop_bl s (i + 3) (by omega)
  unfold bl at h0 h1 h2 h3
  rw [h0, h1, h2, h3, show i + 4 - i = 4 by omega]
  simp

theorem ext4_size (s : ByteArray) (i : Nat) (h : i + 4 ≤ s.size) : (s.extract i (i + 4)).size = 4 := by simp; omega
theorem fourV_eq (s : ByteArray) (i : Nat) (h : i + 4 ≤ s.size) : fourV s i =
    if hexv (gb s i) < 0 then -1 else if hexv (gb s (i + 1)) < 0 then -1 else if hexv (gb s (i + 2)) < 0 then -1 else if hexv (gb s (i + 3)) < 0 then -1
    else ((hexv (gb s i) * 16 + hexv (gb s (i + 1))) * 16 + hexv (gb s (i + 2))) * 16 + hexv (gb s (i + 3)) := by
  unfold fourV
  rw [if_pos h]
  simp only [fourR, Nat.sub_self, Nat.sub_zero, Nat.reduceSub, Nat.add_zero]
  simp only [Int.zero_mul, Int.zero_add]
theorem bad_digit (c : Nat) (h : c < 256) (hn : hexv (c : Int) < 0) : 15 < Lib.Hx.v (UInt8.ofNat c) := by
  rw [hex_v c h] at hn
  split at hn
  · assumption
  · omega
theorem good_digit (c : Nat) (h : c < 256) (hn : ¬ hexv (c : Int) < 0) : ¬ 15 < Lib.Hx.v (UInt8.ofNat c) ∧ hexv (c : Int) = (Lib.Hx.v (UInt8.ofNat c) : Int) := by
  rw [hex_v c h] at hn ⊢
  split at hn
  · omega
  · rename_i hv
    exact ⟨hv, by rw [if_neg hv]⟩
/-- the decoder at four figures that are such. -/
theorem dec_yes (s : ByteArray) (i : Nat) (h : i + 4 ≤ s.size) (h0 : 0 ≤ fourV s i) : ∃ hi lo : UInt8, Lib.Hx.decode (s.extract i (i + 4)).data.toList = ([hi, lo], .ok) ∧ (hi.toNat : Int) * 256 + lo.toNat = fourV s i := by
  have hg0 := gb_lt s i
  have hg1 := gb_lt s (i + 1)
  have hg2 := gb_lt s (i + 2)
  have hg3 := gb_lt s (i + 3)
  rw [fourV_eq s i h] at h0 ⊢
  by_cases c0 : hexv (gb s i) < 0
  · rw [if_pos c0] at h0; omega
  rw [if_neg c0] at h0 ⊢
  by_cases c1 : hexv (gb s (i + 1)) < 0
  · rw [if_pos c1] at h0; omega
  rw [if_neg c1] at h0 ⊢
  by_cases c2 : hexv (gb s (i + 2)) < 0
  · rw [if_pos c2] at h0; omega
  rw [if_neg c2] at h0 ⊢
  by_cases c3 : hexv (gb s (i + 3)) < 0
  · rw [if_pos c3] at h0; omega
  rw [if_neg c3]
  obtain ⟨a0, b0⟩ := good_digit _ hg0 c0
  obtain ⟨a1, b1⟩ := good_digit _ hg1 c1
  obtain ⟨a2, b2⟩ := good_digit _ hg2 c2
  obtain ⟨a3, b3⟩ := good_digit _ hg3 c3
  rw [ext4 s i h, Lib.Hx.decode_two, if_neg a0, if_neg a1, Lib.Hx.decode_two, if_neg a2, if_neg a3, Lib.Hx.decode_nil]
  refine ⟨_, _, rfl, ?_⟩
  rw [b0, b1, b2, b3]
  simp
  omega
theorem dec_no (s : ByteArray) (i : Nat) (h : i + 4 ≤ s.size) (h0 : fourV s i < 0) : ∃ l c, Lib.Hx.decode (s.extract i (i + 4)).data.toList = (l, .bad c) := by
  have hg0 := gb_lt s i
  have hg1 := gb_lt s (i + 1)
  have hg2 := gb_lt s (i + 2)
  have hg3 := gb_lt s (i + 3)
  rw [fourV_eq s i h] at h0
  rw [ext4 s i h]
  by_cases c0 : hexv (gb s i) < 0
  · rw [Lib.Hx.decode_two, if_pos (bad_digit _ hg0 c0)]; exact ⟨_, _, rfl⟩
  rw [if_neg c0] at h0
  obtain ⟨a0, b0⟩ := good_digit _ hg0 c0
  by_cases c1 : hexv (gb s (i + 1)) < 0
  · rw [Lib.Hx.decode_two, if_neg a0, if_pos (bad_digit _ hg1 c1)]; exact ⟨_, _, rfl⟩
  rw [if_neg c1] at h0
  obtain ⟨a1, b1⟩ := good_digit _ hg1 c1
  by_cases c2 : hexv (gb s (i + 2)) < 0
  · rw [Lib.Hx.decode_two, if_neg a0, if_neg a1, Lib.Hx.decode_two, if_pos (bad_digit _ hg2 c2)]; exact ⟨_, _, rfl⟩
  rw [if_neg c2] at h0
  obtain ⟨a2, b2⟩ := good_digit _ hg2 c2
  by_cases c3 : hexv (gb s (i + 3)) < 0
  · rw [Lib.Hx.decode_two, if_neg a0, if_neg a1, Lib.Hx.decode_two, if_neg a2, if_pos (bad_digit _ hg3 c3)]; exact ⟨_, _, rfl⟩
  rw [if_neg c3] at h0
  omega
theorem hexs_yes (s : ByteArray) (i : Nat) (h : i + 4 ≤ s.size) (h0 : 0 ≤ fourV s i) (w : World) (ev : Value) (hE : w.cell? ⟨3, 0, none⟩ = some ev) :
    Calls Tryf.prog 17 #[.string (s.extract i (i + 4))] w fun e w' => ∃ (hi lo : Int), e = .returned (.tuple #[.slice (some ⟨w.heap.size, 0, none⟩) 2 2, .nilIface]) ∧
      w'.cell? ⟨w.heap.size, 0, none⟩ = some (.int .u8 hi) ∧ w'.cell? ⟨w.heap.size, 1, none⟩ = some (.int .u8 lo) ∧ hi * 256 + lo = fourV s i ∧ 0 ≤ hi ∧ hi < 256 ∧ 0 ≤ lo ∧ lo < 256 ∧ Below w.heap.size w w' ∧ w.heap.size < w'.heap.size := by
  obtain ⟨hi, lo, hd, hv⟩ := dec_yes s i h h0
  have hz := ext4_size s i h
  refine (Tryf.hex_DecodeString (s.extract i (i + 4)) w ev hE (by omega)).mono ?_
  rw [hd, hz]
  rintro e w' ⟨rfl, hr, hb⟩
  have c0 := hr.cell (show 0 < 4 / 2 by decide)
  have c1 := hr.cell (show 1 < 4 / 2 by decide)
  have hlt : w.heap.size < w'.heap.size := by
    obtain ⟨c, hc, _⟩ := hr
    exact (Array.getElem?_eq_some_iff.1 hc).1
  exact ⟨hi.toNat, lo.toNat, rfl, c0, c1, hv, by omega, by have := hi.toNat_lt; omega, by omega, by have := lo.toNat_lt; omega, hb, hlt⟩
theorem hexs_no (s : ByteArray) (i : Nat) (h : i + 4 ≤ s.size) (h0 : fourV s i < 0) (w : World) (ev : Value) (hE : w.cell? ⟨3, 0, none⟩ = some ev) :
    Calls Tryf.prog 17 #[.string (s.extract i (i + 4))] w fun e w' => ∃ (v : Value) (c : Int), e = .returned (.tuple #[v, .iface 81 (.int .u8 c)]) ∧ Below w.heap.size w w' := by
  obtain ⟨l, c, hd⟩ := dec_no s i h h0
  refine (Tryf.hex_DecodeString (s.extract i (i + 4)) w ev hE (by have := ext4_size s i h; omega)).mono ?_
  rw [hd]
  rintro e w' ⟨rfl, hr, hb⟩
  exact ⟨_, c.toNat, rfl, hb⟩
end Go.Proofs.YtiicdalodfjgaaaFmt
