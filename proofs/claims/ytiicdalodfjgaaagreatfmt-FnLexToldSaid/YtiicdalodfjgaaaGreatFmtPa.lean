/- Plain functions on texts: bytes, figures of base 16, UTF-8 at a place, the runes of a text. No program. -/
import Derived.Laws.RangeAny
import Derived.Laws.Cover4
import Derived.Laws.IdiomStrings
import Derived.Lib.RuneLoops
import Derived.Lib.RuneBytes
import Derived.Laws.Strings
namespace Go.Proofs.YtiicdalodfjgaaaGreatFmt

/-- the byte at a place, 0 behind the end. -/
def gb (s : ByteArray) (i : Nat) : Nat := if h : i < s.size then (s[i]'h).toNat else 0
theorem gb_in (s : ByteArray) (i : Nat) (h : i < s.size) : gb s i = (s[i]'h).toNat := by unfold gb; rw [dif_pos h]
theorem gb_lt (s : ByteArray) (i : Nat) : gb s i < 256 := by
  unfold gb
  split
  · exact (s[i]'(by assumption)).toNat_lt
  · omega
/-- a text's bytes. -/
abbrev bl (s : ByteArray) : List UInt8 := s.data.toList
theorem bl_len (s : ByteArray) : (bl s).length = s.size := rfl
theorem bl_get (s : ByteArray) (i : Nat) (h : i < s.size) : (bl s)[i]? = some (s[i]'h) := by
  rw [List.getElem?_eq_getElem (by simpa using h)]
  rfl
theorem gb_bl (s : ByteArray) (i : Nat) (h : i < s.size) : (bl s)[i]? = some (UInt8.ofNat (gb s i)) := by
  rw [bl_get s i h, gb_in s i h]
  simp
theorem drop_bl (s : ByteArray) (i : Nat) (h : i < s.size) : (bl s).drop i = UInt8.ofNat (gb s i) :: (bl s).drop (i + 1) := by
  have hd : (bl s).drop i = (bl s)[i]'(by simpa using h) :: (bl s).drop (i + 1) := List.drop_eq_getElem_cons (by simpa using h)
  have := gb_bl s i h
  rw [List.getElem?_eq_getElem (by simpa using h)] at this
  rw [hd, Option.some.inj this]

/-! ### decode -/
abbrev dr (s : ByteArray) (i : Nat) : Nat := (Utf8.decode s i).1
abbrev dw (s : ByteArray) (i : Nat) : Nat := (Utf8.decode s i).2
theorem dec_low (s : ByteArray) (i : Nat) (h : i < s.size) (hl : gb s i < 128) : dr s i = gb s i ∧ dw s i = 1 := by
  rw [gb_in s i h] at hl ⊢
  unfold dr dw
  rw [decode_ascii s i h hl]
  exact ⟨rfl, rfl⟩
theorem dec_high (s : ByteArray) (i : Nat) (h : i < s.size) (hl : 128 ≤ gb s i) : 128 ≤ dr s i ∧ 1 ≤ dw s i := by
  rw [gb_in s i h] at hl
  exact decode_high s i h hl
theorem dec_pos (s : ByteArray) (i : Nat) (h : i < s.size) : 1 ≤ dw s i := by
  by_cases hl : gb s i < 128
  · rw [(dec_low s i h hl).2]; exact Nat.le_refl _
  · exact (dec_high s i h (by omega)).2

theorem enc_len (r : Int) : (Lib.encodeRune r).length = (Lib.encodeRuneZ r).length := by simp [Lib.encodeRune]

/-- the width is no more than the bytes of the rune, and it lies within the text. -/
theorem dec_width (s : ByteArray) (i : Nat) (h : i < s.size) : dw s i ≤ (Lib.encodeRune (dr s i)).length ∧ i + dw s i ≤ s.size := by
  have he := Lib.encodeRuneZ_length (dr s i)
  rw [enc_len]
  unfold dw dr at *
  have hb : ∀ k, (s.get! (i + k)).toNat < 256 := fun k => (s.get! (i + k)).toNat_lt
  have h0 := hb 0; have h1 := hb 1; have h2 := hb 2; have h3 := hb 3
  revert he
  simp only [Utf8.decode]
  split
  · intro he; simp only at he ⊢; constructor <;> omega
  split
  · rename_i hc
    simp only [Bool.and_eq_true, decide_eq_true_eq, beq_iff_eq] at hc
    split
    · intro he
      simp only
      refine ⟨?_, by omega⟩
      rw [Lib.encodeRuneZ_two (by omega) (by omega)]
      simp
    · intro he; simp only at he ⊢; constructor <;> omega
  split
  · rename_i hc
    simp only [Bool.and_eq_true, decide_eq_true_eq, beq_iff_eq] at hc
    split
    · rename_i hv
      intro he
      simp only [Utf8.valid, Bool.and_eq_true, Bool.or_eq_true, decide_eq_true_eq] at hv
      simp only
      refine ⟨?_, by omega⟩
      rw [Lib.encodeRuneZ_three (by omega)]
      simp
    · intro he; simp only at he ⊢; constructor <;> omega
  split
  · rename_i hc
    simp only [Bool.and_eq_true, decide_eq_true_eq, beq_iff_eq] at hc
    split
    · rename_i hv
      intro he
      simp only [Utf8.valid, Bool.and_eq_true, Bool.or_eq_true, decide_eq_true_eq] at hv
      simp only
      refine ⟨?_, by omega⟩
      rw [Lib.encodeRuneZ_four (by omega) (by omega)]
      simp
    · intro he; simp only at he ⊢; constructor <;> omega
  · intro he; simp only at he ⊢; constructor <;> omega

/-! ### the runes of a text, written out again -/
theorem runes_fuel (s : ByteArray) : ∀ (f g i : Nat), s.size ≤ i + f → s.size ≤ i + g → Lib.runesFrom s f i = Lib.runesFrom s g i := by
  intro f
  induction f with
  | zero => intro g i h1 h2; rw [Lib.runesFrom_end s 0 i (by omega), Lib.runesFrom_end s g i (by omega)]
  | succ f ih =>
    intro g i h1 h2
    by_cases h : i < s.size
    · cases g with
      | zero => omega
      | succ g =>
        have hp := dec_pos s i h
        unfold dw at hp
        simp only [Lib.runesFrom, if_pos h]
        rw [ih g _ (by omega) (by omega)]
    · rw [Lib.runesFrom_end s _ i h, Lib.runesFrom_end s _ i h]
theorem runes_step (s : ByteArray) (i : Nat) (h : i < s.size) : Lib.runesFrom s (s.size - i) i = Lib.encodeRune (dr s i) ++ Lib.runesFrom s (s.size - (i + dw s i)) (i + dw s i) := by
  have hp := dec_pos s i h
  rw [runes_fuel s (s.size - i) ((s.size - i - 1) + 1) i (by omega) (by omega)]
  simp only [Lib.runesFrom, if_pos h]
  rw [runes_fuel s (s.size - i - 1) (s.size - (i + dw s i)) _ (by unfold dw at hp; omega) (by unfold dw at hp ⊢; omega)]
theorem runes_len (s : ByteArray) (d : Nat) : ∀ i, i ≤ s.size → s.size - i ≤ d → s.size - i ≤ (Lib.runesFrom s (s.size - i) i).length := by
  induction d with
  | zero => intro i h1 h2; omega
  | succ d ih =>
    intro i h1 h2
    by_cases h : i < s.size
    · have hp := dec_pos s i h
      have hw := dec_width s i h
      rw [runes_step s i h, List.length_append]
      have := ih (i + dw s i) (by omega) (by omega)
      omega
    · omega

/-- a place where a rune begins, in a text that is UTF-8 from there on. -/
def Bd (s : ByteArray) (i : Nat) : Prop := i ≤ s.size ∧ Lib.runesFrom s (s.size - i) i = (bl s).drop i
theorem Bd.le {s : ByteArray} {i : Nat} (h : Bd s i) : i ≤ s.size := h.1
theorem Bd.step {s : ByteArray} {i : Nat} (hb : Bd s i) (h : i < s.size) :
    Lib.encodeRune (dr s i) = ((bl s).drop i).take (dw s i) ∧ (Lib.encodeRune (dr s i)).length = dw s i ∧ i + dw s i ≤ s.size ∧ Bd s (i + dw s i) := by
  obtain ⟨h1, h2⟩ := hb
  have hw := dec_width s i h
  have hl := runes_len s s.size (i + dw s i) hw.2 (by omega)
  rw [runes_step s i h] at h2
  have hlen := congrArg List.length h2
  rw [List.length_append, List.length_drop, bl_len] at hlen
  have he : (Lib.encodeRune (dr s i)).length = dw s i := by omega
  have ht := congrArg (List.take (dw s i)) h2
  have hd := congrArg (List.drop (dw s i)) h2
  rw [List.take_append_of_le_length (by omega), List.take_of_length_le (by omega)] at ht
  rw [List.drop_append_of_le_length (by omega), List.drop_of_length_le (by omega), List.nil_append, List.drop_drop] at hd
  exact ⟨ht, he, hw.2, hw.2, hd⟩
theorem Bd.low {s : ByteArray} {i : Nat} (hb : Bd s i) (h : i < s.size) (hl : gb s i < 128) : Bd s (i + 1) := by
  have := (hb.step h).2.2.2
  rwa [(dec_low s i h hl).2] at this
theorem enc_high (r : Nat) (h : 128 ≤ r) : ∀ b ∈ Lib.encodeRune (r : Int), 128 ≤ b.toNat := by
  intro b hb
  unfold Lib.encodeRune at hb
  rw [List.mem_map] at hb
  obtain ⟨x, hx, rfl⟩ := hb
  have hr := Lib.encodeRuneZ_byte (r : Int) x hx
  have : 128 ≤ x := by
    unfold Lib.encodeRuneZ at hx
    split at hx
    · omega
    · split at hx
      · simp at hx; omega
      · split at hx
        · simp at hx; omega
        · split at hx
          · simp at hx; omega
          · simp at hx; omega
  simp [Nat.toUInt8]
  omega
/-- within a rune that is no ASCII each byte is 128 at least. -/
theorem Bd.high {s : ByteArray} {i : Nat} (hb : Bd s i) (h : i < s.size) (hl : 128 ≤ gb s i) (k : Nat) (hk : k < dw s i) : 128 ≤ gb s (i + k) := by
  obtain ⟨h1, h2, h3, _⟩ := hb.step h
  have hh := enc_high (dr s i) (dec_high s i h hl).1
  have hin : UInt8.ofNat (gb s (i + k)) ∈ Lib.encodeRune (dr s i) := by
    rw [h1]
    rw [List.mem_iff_getElem?]
    refine ⟨k, ?_⟩
    rw [List.getElem?_take, if_pos hk, List.getElem?_drop, gb_bl s (i + k) (by omega)]
  have := hh _ hin
  have hg := gb_lt s (i + k)
  simp at this
  omega

/-! ### the model's conversion of a text to runes and back -/
def runesN (s : ByteArray) : Nat → Nat → List Int
  | 0, _ => []
  | b + 1, i => if i < s.size then ((Utf8.decode s i).1 : Int) :: runesN s b (i + (Utf8.decode s i).2) else []
theorem runesN_eq (s : ByteArray) : ∀ (b i : Nat) (acc : Array Value), Conv.runesFrom s b i acc = acc ++ ((runesN s b i).map (Value.int .i32)).toArray
  | 0, i, acc => by simp [Conv.runesFrom, runesN]
  | b + 1, i, acc => by
    unfold Conv.runesFrom runesN
    split
    · simp only
      rw [runesN_eq s b]
      simp
    · simp
theorem runesN_len (s : ByteArray) : ∀ (b i : Nat), (runesN s b i).length ≤ b
  | 0, i => by simp [runesN]
  | b + 1, i => by
    unfold runesN
    split
    · have := runesN_len s b (i + (Utf8.decode s i).2)
      simp only [List.length_cons]
      omega
    · simp
theorem encode_eq (r : Int) : (Utf8.encode r).data.toList = Lib.encodeRune r := by
  unfold Utf8.encode Lib.encodeRune Lib.encodeRuneZ Utf8.valid Utf8.runeError
  by_cases h1 : 0 ≤ r ∧ r ≤ 127
  · rw [if_pos h1]
    have hv : ((0 ≤ r && r < 55296) || (57344 ≤ r && r ≤ 1114111)) = true := by simp; omega
    simp only [hv, if_true]
    rw [if_pos (by omega)]
    simp [Nat.toUInt8]
  rw [if_neg h1]
  by_cases h2 : 128 ≤ r ∧ r ≤ 2047
  · rw [if_pos h2]
    have hv : ((0 ≤ r && r < 55296) || (57344 ≤ r && r ≤ 1114111)) = true := by simp; omega
    simp only [hv, if_true]
    rw [if_neg (by omega), if_pos (by omega)]
    have e1 : (192 + r / 64).toNat = 192 + r.toNat / 64 := by omega
    have e2 : (128 + r % 64).toNat = 128 + r.toNat % 64 := by omega
    simp [Nat.toUInt8, e1, e2]
  rw [if_neg h2]
  by_cases h3 : (2048 ≤ r ∧ r < 55296) ∨ (57343 < r ∧ r ≤ 65535)
  · rw [if_pos h3]
    have hv : ((0 ≤ r && r < 55296) || (57344 ≤ r && r ≤ 1114111)) = true := by simp; omega
    simp only [hv, if_true]
    rw [if_neg (by omega), if_neg (by omega), if_pos (by omega)]
    have e1 : (224 + r / 4096).toNat = 224 + r.toNat / 4096 := by omega
    have e2 : (128 + r / 64 % 64).toNat = 128 + r.toNat / 64 % 64 := by omega
    have e3 : (128 + r % 64).toNat = 128 + r.toNat % 64 := by omega
    simp [Nat.toUInt8, e1, e2, e3]
  rw [if_neg h3]
  by_cases h4 : 65536 ≤ r ∧ r ≤ 1114111
  · rw [if_pos h4]
    have hv : ((0 ≤ r && r < 55296) || (57344 ≤ r && r ≤ 1114111)) = true := by simp; omega
    simp only [hv, if_true]
    rw [if_neg (by omega), if_neg (by omega), if_neg (by omega)]
    have e1 : (240 + r / 262144).toNat = 240 + r.toNat / 262144 := by omega
    have e2 : (128 + r / 4096 % 64).toNat = 128 + r.toNat / 4096 % 64 := by omega
    have e3 : (128 + r / 64 % 64).toNat = 128 + r.toNat / 64 % 64 := by omega
    have e4 : (128 + r % 64).toNat = 128 + r.toNat % 64 := by omega
    simp [Nat.toUInt8, e1, e2, e3, e4]
  · rw [if_neg h4]
    have hv : ((0 ≤ r && r < 55296) || (57344 ≤ r && r ≤ 1114111)) = false := by rw [Bool.eq_false_iff]; simp; omega
    simp only [hv, Bool.false_eq_true, if_false]
    rfl
theorem foldl_data (ns : List Int) : ∀ s : ByteArray, (ns.foldl (fun r n => r ++ Utf8.encode n) s).data.toList = s.data.toList ++ ns.flatMap Lib.encodeRune := by
  induction ns with
  | nil => intro s; simp
  | cons n ns ih =>
    intro s
    rw [List.foldl_cons, ih, ByteArray.data_append, Array.toList_append, encode_eq, List.flatMap_cons, List.append_assoc]
theorem runesN_flat (s : ByteArray) : ∀ (b i : Nat), (runesN s b i).flatMap Lib.encodeRune = Lib.runesFrom s b i
  | 0, i => by simp [runesN, Lib.runesFrom]
  | b + 1, i => by
    unfold runesN Lib.runesFrom
    split
    · rw [List.flatMap_cons, runesN_flat s b]
    · rfl
theorem runesBytes_data (s : ByteArray) : (runesBytes (runesN s s.size 0)).data.toList = Lib.runesFrom s s.size 0 := by
  unfold runesBytes
  rw [foldl_data, runesN_flat]
  simp
/-- whether a text is UTF-8, as the reference asks it. -/
def utfB (s : ByteArray) : Bool := (runesBytes (runesN s s.size 0)).toList == s.toList
theorem utfB_bd (s : ByteArray) : utfB s = true ↔ Bd s 0 := by
  unfold utfB Bd
  rw [beq_iff_eq, ByteArray.toList_eq, ByteArray.toList_eq, runesBytes_data]
  simp
end Go.Proofs.YtiicdalodfjgaaaGreatFmt
