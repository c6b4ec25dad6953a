/- The plain law of escaping: what is escaped is read back, by the reference and by the code. -/
import Derived.Test.YtiicdalodfjgaaaFmtUnC
import Derived.Lib.DecodeN
namespace Go.Proofs.YtiicdalodfjgaaaFmt

def hexd (n : Nat) : UInt8 := UInt8.ofNat (if n < 10 then 48 + n else 87 + n)
def hex4 (r : Nat) : List UInt8 := [48, 48, hexd (r / 16), hexd (r % 16)]
/-- what a rune is escaped to. -/
def escR (single : Bool) (r : Nat) : List UInt8 :=
  if r = 34 then (if single then [34] else [92, 34])
  else if r = 39 then (if single then [92, 39] else [39])
  else if r = 92 then [92, 92] else if r = 8 then [92, 98] else if r = 12 then [92, 102] else if r = 10 then [92, 110] else if r = 13 then [92, 114] else if r = 9 then [92, 116]
  else if r = 0 then [92, 117, 48, 48, 48, 48]
  else if r < 32 ∨ (127 ≤ r ∧ r ≤ 159) then 92 :: 117 :: hex4 r
  else Lib.encodeRune r
def escF (single : Bool) (s : ByteArray) : Nat → Nat → List UInt8
  | 0, _ => []
  | f + 1, i => if i < s.size then escR single (dr s i) ++ escF single s f (i + dw s i) else []
theorem escF_end (single : Bool) (s : ByteArray) (f i : Nat) (h : ¬ i < s.size) : escF single s f i = [] := by
  cases f with
  | zero => rfl
  | succ f => rw [escF, if_neg h]
theorem escF_step (single : Bool) (s : ByteArray) (f i : Nat) (h : i < s.size) : escF single s (f + 1) i = escR single (dr s i) ++ escF single s f (i + dw s i) := by
  rw [escF, if_pos h]
theorem escR_len (single : Bool) (r : Nat) : 1 ≤ (escR single r).length ∧ (escR single r).length ≤ 6 := by
  have := Lib.encodeRuneZ_length (r : Int)
  have e : (Lib.encodeRune (r : Int)).length = (Lib.encodeRuneZ (r : Int)).length := enc_len r
  unfold escR hex4
  repeat' split
  all_goals first | (constructor <;> simp <;> done) | (constructor <;> omega)
theorem escF_len (single : Bool) (s : ByteArray) (d : Nat) : ∀ f i, s.size - i ≤ d → (escF single s f i).length ≤ 6 * (s.size - i) := by
  induction d with
  | zero => intro f i h; rw [escF_end single s f i (by omega)]; simp
  | succ d ih =>
    intro f i h
    by_cases hl : i < s.size
    · cases f with
      | zero => simp [escF]
      | succ f =>
        have h1 := escR_len single (dr s i)
        have h2 := dec_pos s i hl
        have h3 := ih f (i + dw s i) (by omega)
        rw [escF_step single s f i hl, List.length_append]
        omega
    · rw [escF_end single s f i hl]; simp

/-! ### bytes at places -/
theorem gb_get! (s : ByteArray) (i : Nat) : (s.get! i).toNat = gb s i := by
  obtain ⟨⟨l⟩⟩ := s
  unfold gb
  simp only [ByteArray.get!]
  split
  · rename_i h
    have h' : i < l.length := h
    simp [h']
    rfl
  · rename_i h
    have h' : ¬ i < l.length := h
    simp [h']
    rfl
theorem drop_cons (e : ByteArray) (j : Nat) (b : UInt8) (rest : List UInt8) (h : (bl e).drop j = b :: rest) : j < e.size ∧ gb e j = b.toNat ∧ (bl e).drop (j + 1) = rest := by
  have hj : j < e.size := by
    rcases Nat.lt_or_ge j e.size with h' | h'
    · exact h'
    · rw [List.drop_eq_nil_of_le (by simpa using h')] at h
      cases h
  have hd := drop_bl e j hj
  rw [hd] at h
  simp only [List.cons.injEq] at h
  refine ⟨hj, ?_, h.2⟩
  rw [← h.1]
  have := gb_lt e j
  simp
  omega
theorem drop_app (e : ByteArray) : ∀ (l : List UInt8) (j : Nat) (rest : List UInt8), (bl e).drop j = l ++ rest → j + l.length ≤ e.size ∧ (∀ k (hk : k < l.length), gb e (j + k) = (l[k]'hk).toNat) ∧ (bl e).drop (j + l.length) = rest ∨ l = []
  | [], j, rest, h => .inr rfl
  | b :: l, j, rest, h => by
    obtain ⟨h1, h2, h3⟩ := drop_cons e j b (l ++ rest) h
    rcases drop_app e l (j + 1) rest h3 with ⟨g1, g2, g3⟩ | rfl
    · refine .inl ⟨by simp; omega, ?_, by rw [← g3]; simp; congr 1; omega⟩
      intro k hk
      cases k with
      | zero => simpa using h2
      | succ k =>
        have := g2 k (by simpa using hk)
        rw [show j + (k + 1) = j + 1 + k by omega, this]
        simp
    · refine .inl ⟨by simp; omega, ?_, by simpa using h3⟩
      intro k hk
      have : k = 0 := by simpa using hk
      subst this
      simpa using h2

/-- decoding looks at the bytes of the rune alone. -/
theorem decN_cases (n b0 b1 b2 b3 : Nat) :
    (b0 < 128 ∧ Lib.decodeN n b0 b1 b2 b3 = (b0, 1)) ∨
    (b0 / 32 = 6 ∧ 1 < n ∧ b1 / 64 = 2 ∧ 128 ≤ b0 % 32 * 64 + b1 % 64 ∧ Lib.decodeN n b0 b1 b2 b3 = (b0 % 32 * 64 + b1 % 64, 2)) ∨
    (b0 / 16 = 14 ∧ 2 < n ∧ b1 / 64 = 2 ∧ b2 / 64 = 2 ∧ (b0 % 16 * 4096 + b1 % 64 * 64 + b2 % 64 ≥ 2048 ∧ (b0 % 16 * 4096 + b1 % 64 * 64 + b2 % 64 < 55296 ∨ (57344 ≤ b0 % 16 * 4096 + b1 % 64 * 64 + b2 % 64 ∧ b0 % 16 * 4096 + b1 % 64 * 64 + b2 % 64 ≤ 1114111))) ∧ Lib.decodeN n b0 b1 b2 b3 = (b0 % 16 * 4096 + b1 % 64 * 64 + b2 % 64, 3)) ∨
    (b0 / 8 = 30 ∧ 3 < n ∧ b1 / 64 = 2 ∧ b2 / 64 = 2 ∧ b3 / 64 = 2 ∧ (b0 % 8 * 262144 + b1 % 64 * 4096 + b2 % 64 * 64 + b3 % 64 ≥ 65536 ∧ (b0 % 8 * 262144 + b1 % 64 * 4096 + b2 % 64 * 64 + b3 % 64 < 55296 ∨ (57344 ≤ b0 % 8 * 262144 + b1 % 64 * 4096 + b2 % 64 * 64 + b3 % 64 ∧ b0 % 8 * 262144 + b1 % 64 * 4096 + b2 % 64 * 64 + b3 % 64 ≤ 1114111))) ∧ Lib.decodeN n b0 b1 b2 b3 = (b0 % 8 * 262144 + b1 % 64 * 4096 + b2 % 64 * 64 + b3 % 64, 4)) ∨
    Lib.decodeN n b0 b1 b2 b3 = (65533, 1) := by
  unfold Lib.decodeN
  by_cases k0 : b0 < 128
  · exact .inl ⟨k0, if_pos k0⟩
  rw [if_neg k0]
  by_cases k1 : b0 / 32 = 6 ∧ (1 < n ∧ b1 / 64 = 2)
  · rw [if_pos k1]
    by_cases v : b0 % 32 * 64 + b1 % 64 ≥ 128
    · exact .inr (.inl ⟨k1.1, k1.2.1, k1.2.2, v, if_pos v⟩)
    · exact .inr (.inr (.inr (.inr (if_neg v))))
  rw [if_neg k1]
  by_cases k2 : b0 / 16 = 14 ∧ (1 < n ∧ b1 / 64 = 2) ∧ (2 < n ∧ b2 / 64 = 2)
  · rw [if_pos k2]
    by_cases v : b0 % 16 * 4096 + b1 % 64 * 64 + b2 % 64 ≥ 2048 ∧ (b0 % 16 * 4096 + b1 % 64 * 64 + b2 % 64 < 55296 ∨ (57344 ≤ b0 % 16 * 4096 + b1 % 64 * 64 + b2 % 64 ∧ b0 % 16 * 4096 + b1 % 64 * 64 + b2 % 64 ≤ 1114111))
    · exact .inr (.inr (.inl ⟨k2.1, k2.2.2.1, k2.2.1.2, k2.2.2.2, v, if_pos v⟩))
    · exact .inr (.inr (.inr (.inr (if_neg v))))
  rw [if_neg k2]
  by_cases k3 : b0 / 8 = 30 ∧ (1 < n ∧ b1 / 64 = 2) ∧ (2 < n ∧ b2 / 64 = 2) ∧ (3 < n ∧ b3 / 64 = 2)
  · rw [if_pos k3]
    by_cases v : b0 % 8 * 262144 + b1 % 64 * 4096 + b2 % 64 * 64 + b3 % 64 ≥ 65536 ∧ (b0 % 8 * 262144 + b1 % 64 * 4096 + b2 % 64 * 64 + b3 % 64 < 55296 ∨ (57344 ≤ b0 % 8 * 262144 + b1 % 64 * 4096 + b2 % 64 * 64 + b3 % 64 ∧ b0 % 8 * 262144 + b1 % 64 * 4096 + b2 % 64 * 64 + b3 % 64 ≤ 1114111))
    · exact .inr (.inr (.inr (.inl ⟨k3.1, k3.2.2.2.1, k3.2.1.2, k3.2.2.1.2, k3.2.2.2.2, v, if_pos v⟩)))
    · exact .inr (.inr (.inr (.inr (if_neg v))))
  rw [if_neg k3]
  exact .inr (.inr (.inr (.inr rfl)))
theorem decN_same (n m b0 b1 b2 b3 c1 c2 c3 r k : Nat) (he : Lib.decodeN n b0 b1 b2 b3 = (r, k))
    (hl : (Lib.encodeRuneZ (r : Int)).length = k) (hm : k ≤ m)
    (e1 : 1 < k → c1 = b1) (e2 : 2 < k → c2 = b2) (e3 : 3 < k → c3 = b3) :
    Lib.decodeN m b0 c1 c2 c3 = (r, k) := by
  have hbad : (Lib.encodeRuneZ ((65533 : Nat) : Int)).length = 3 := by decide
  rcases decN_cases n b0 b1 b2 b3 with ⟨k0, e⟩ | ⟨k0, k1, k2, v, e⟩ | ⟨k0, k1, k2, k3, v, e⟩ | ⟨k0, k1, k2, k3, k4, v, e⟩ | e
  · rw [e] at he
    cases he
    unfold Lib.decodeN
    rw [if_pos k0]
  · rw [e] at he
    cases he
    have E1 := e1 (by omega)
    subst E1
    unfold Lib.decodeN
    rw [if_neg (by omega), if_pos ⟨k0, by omega, k2⟩, if_pos v]
  · rw [e] at he
    cases he
    have E1 := e1 (by omega)
    have E2 := e2 (by omega)
    subst E1 E2
    unfold Lib.decodeN
    rw [if_neg (by omega), if_neg (by omega), if_pos ⟨k0, ⟨by omega, k2⟩, ⟨by omega, k3⟩⟩, if_pos v]
  · rw [e] at he
    cases he
    have E1 := e1 (by omega)
    have E2 := e2 (by omega)
    have E3 := e3 (by omega)
    subst E1 E2 E3
    unfold Lib.decodeN
    rw [if_neg (by omega), if_neg (by omega), if_neg (by omega), if_pos ⟨k0, ⟨by omega, k2⟩, ⟨by omega, k3⟩, ⟨by omega, k4⟩⟩, if_pos v]
  · rw [e] at he
    cases he
    omega

/-- a rune's bytes, wherever they stand, decode to it. -/
theorem decode_same (s e : ByteArray) (i j : Nat) (rest : List UInt8) (hb : Bd s i) (h : i < s.size) (hd : (bl e).drop j = Lib.encodeRune (dr s i) ++ rest) :
    dr e j = dr s i ∧ dw e j = dw s i ∧ j < e.size := by
  obtain ⟨st1, st2, st3, st4⟩ := hb.step h
  have hp := dec_pos s i h
  rcases drop_app e _ j rest hd with ⟨g1, g2, g3⟩ | g
  · have hb' : ∀ k, k < dw s i → gb e (j + k) = gb s (i + k) := by
      intro k hk
      rw [g2 k (by omega)]
      have hx : (Lib.encodeRune (dr s i))[k]? = (bl s)[i + k]? := by
        rw [st1, List.getElem?_take, if_pos hk, List.getElem?_drop]
      rw [List.getElem?_eq_getElem (by omega), gb_bl s (i + k) (by omega)] at hx
      rw [Option.some.inj hx]
      have := gb_lt s (i + k)
      simp
      omega
    have hds := Lib.decode_at s i
    have hde := Lib.decode_at e j
    simp only [gb_get!] at hds hde
    have h0 := hb' 0 (by omega)
    simp only [Nat.add_zero] at h0
    have := decN_same (s.size - i) (e.size - j) (gb s i) (gb s (i + 1)) (gb s (i + 2)) (gb s (i + 3)) (gb e (j + 1)) (gb e (j + 2)) (gb e (j + 3)) (dr s i) (dw s i) hds.symm (by rw [← enc_len]; exact st2) (by omega)
      (fun hk => hb' 1 hk) (fun hk => hb' 2 hk) (fun hk => hb' 3 hk)
    rw [h0] at hde
    rw [this] at hde
    unfold dr dw at *
    rw [hde]
    exact ⟨rfl, rfl, by omega⟩
  · rw [g] at st2
    simp at st2
    omega

theorem Bd.back {e : ByteArray} {j : Nat} (h : j < e.size) (he : Lib.encodeRune (dr e j) = ((bl e).drop j).take (dw e j)) (hn : Bd e (j + dw e j)) : Bd e j := by
  obtain ⟨h1, h2⟩ := hn
  refine ⟨by omega, ?_⟩
  rw [runes_step e j h, h2, he, ← List.drop_drop, List.take_append_drop]
theorem enc_low (r : Nat) (h : r < 128) : Lib.encodeRune (r : Int) = [UInt8.ofNat r] := by
  unfold Lib.encodeRune Lib.encodeRuneZ
  rw [if_pos (by omega)]
  simp [Nat.toUInt8]
theorem Bd.backLow {e : ByteArray} {j : Nat} (h : j < e.size) (hl : gb e j < 128) (hn : Bd e (j + 1)) : Bd e j := by
  obtain ⟨e1, e2⟩ := dec_low e j h hl
  refine Bd.back h ?_ (by rw [e2]; exact hn)
  rw [e1, e2, enc_low _ hl, drop_bl e j h]
  rfl
theorem Bd.backLows {e : ByteArray} {j : Nat} : ∀ (k : Nat), j + k ≤ e.size → (∀ x, x < k → gb e (j + x) < 128) → Bd e (j + k) → Bd e j
  | 0, _, _, hn => hn
  | k + 1, h, hl, hn => Bd.backLows k (by omega) (fun x hx => hl x (by omega)) (Bd.backLow (e := e) (j := j + k) (by omega) (hl k (by omega)) hn)

/-- what the reference reads over, from a place of e on: the rune r, out of L bytes. -/
def Reads (e : ByteArray) (j L r : Nat) : Prop :=
  (∀ f out, e.size - j < f → ∃ f', e.size - (j + L) < f' ∧ uS e f j out = uS e f' (j + L) (out ++ Lib.encodeRune (r : Int))) ∧ (Bd e (j + L) → Bd e j) ∧ j + L ≤ e.size

theorem reads_one (e : ByteArray) (j b : Nat) (rest : List UInt8) (hb : b < 128) (hn : b ≠ 92) (hd : (bl e).drop j = UInt8.ofNat b :: rest) : Reads e j 1 b := by
  obtain ⟨h1, h2, h3⟩ := drop_cons e j _ _ hd
  have h2' : gb e j = b := by rw [h2]; simp; omega
  refine ⟨?_, Bd.backLow h1 (by omega), by omega⟩
  intro f out hf
  obtain ⟨f, rfl⟩ : ∃ m, f = m + 1 := ⟨f - 1, by omega⟩
  refine ⟨f, by omega, ?_⟩
  rw [uS_step e f j out h1, if_pos (by omega), h2', enc_low b hb]
theorem reads_plain (e : ByteArray) (j c r : Nat) (rest : List UInt8) (hc : c < 128) (hr : r < 128) (hp : plainE c = some (UInt8.ofNat r)) (hd : (bl e).drop j = 92 :: UInt8.ofNat c :: rest) : Reads e j 2 r := by
  obtain ⟨h1, h2, h3⟩ := drop_cons e j _ _ hd
  obtain ⟨g1, g2, g3⟩ := drop_cons e (j + 1) _ _ h3
  have h2' : gb e j = 92 := h2
  have g2' : gb e (j + 1) = c := by rw [g2]; simp; omega
  refine ⟨?_, Bd.backLows 2 (by omega) (fun x hx => by
    match x, hx with
    | 0, _ => rw [Nat.add_zero]; omega
    | 1, _ => omega), by omega⟩
  intro f out hf
  obtain ⟨f, rfl⟩ : ∃ m, f = m + 1 := ⟨f - 1, by omega⟩
  refine ⟨f, by omega, ?_⟩
  rw [uS_step e f j out h1, if_neg (by omega), if_neg (by omega), g2', hp, if_pos (show (some (UInt8.ofNat r)).isSome = true from rfl), enc_low r hr]
  unfold lookS
  rw [hp]
theorem hexd_hexv (n : Nat) (h : n < 16) : hexv ((hexd n).toNat : Int) = n ∧ (hexd n).toNat < 128 := by
  have : ∀ n : Fin 16, hexv ((hexd n.1).toNat : Int) = n.1 ∧ (hexd n.1).toNat < 128 := by decide +kernel
  exact this ⟨n, h⟩
theorem reads_hex (e : ByteArray) (j r : Nat) (rest : List UInt8) (hr : r < 256) (hd : (bl e).drop j = 92 :: 117 :: hex4 r ++ rest) : Reads e j 6 r := by
  obtain ⟨h1, h2, h3⟩ := drop_cons e j _ _ hd
  obtain ⟨g1, g2, g3⟩ := drop_cons e (j + 1) _ _ h3
  obtain ⟨a1, a2, a3⟩ := drop_cons e (j + 1 + 1) _ _ g3
  obtain ⟨b1, b2, b3⟩ := drop_cons e (j + 1 + 1 + 1) _ _ a3
  obtain ⟨c1, c2, c3⟩ := drop_cons e (j + 1 + 1 + 1 + 1) _ _ b3
  obtain ⟨d1, d2, d3⟩ := drop_cons e (j + 1 + 1 + 1 + 1 + 1) _ _ c3
  obtain ⟨hx1, hx2⟩ := hexd_hexv (r / 16) (by omega)
  obtain ⟨hy1, hy2⟩ := hexd_hexv (r % 16) (by omega)
  have h2' : gb e j = 92 := h2
  have g2' : gb e (j + 1) = 117 := g2
  have a2' : gb e (j + 2 + 0) = 48 := a2
  have b2' : gb e (j + 2 + 1) = 48 := b2
  have c2' : gb e (j + 2 + 2) = (hexd (r / 16)).toNat := c2
  have d2' : gb e (j + 2 + 3) = (hexd (r % 16)).toNat := d2
  have hv48 : hexv ((48 : Nat) : Int) = 0 := by decide
  have hfour : fourV e (j + 2) = r := by
    unfold fourV
    rw [if_pos (by omega)]
    simp only [fourR, show 3 - 3 = 0 from rfl, show 3 - 2 = 1 from rfl, show 3 - 1 = 2 from rfl, show 3 - 0 = 3 from rfl, a2', b2', c2', d2', hx1, hy1, hv48]
    repeat (rw [if_neg (by omega)])
    omega
  refine ⟨?_, Bd.backLows 6 (by omega) (fun x hx => by
    match x, hx with
    | 0, _ => rw [Nat.add_zero]; omega
    | 1, _ => omega
    | 2, _ => rw [show j + 2 = j + 2 + 0 from rfl, a2']; omega
    | 3, _ => rw [show j + 3 = j + 2 + 1 from rfl, b2']; omega
    | 4, _ => rw [show j + 4 = j + 2 + 2 from rfl, c2']; omega
    | 5, _ => rw [show j + 5 = j + 2 + 3 from rfl, d2']; omega), by omega⟩
  intro f out hf
  obtain ⟨f, rfl⟩ : ∃ m, f = m + 1 := ⟨f - 1, by omega⟩
  refine ⟨f, by omega, ?_⟩
  have hp : plainE 117 = none := by decide
  rw [uS_step e f j out h1, if_neg (by omega), if_neg (by omega), g2', hp, if_neg (by decide), if_neg (by omega), hfour, if_neg (by omega), if_neg (by omega)]
theorem reads_high (s e : ByteArray) (i j : Nat) (rest : List UInt8) (hb : Bd s i) (h : i < s.size) (hl : 128 ≤ gb s i) (hd : (bl e).drop j = Lib.encodeRune (dr s i) ++ rest) : Reads e j (dw s i) (dr s i) := by
  obtain ⟨st1, st2, st3, st4⟩ := hb.step h
  obtain ⟨q1, q2, q3⟩ := decode_same s e i j rest hb h hd
  have hp := dec_pos s i h
  have hh := dec_high s i h hl
  have he := enc_high (dr s i) hh.1
  rcases drop_app e _ j rest hd with ⟨g1, g2, g3⟩ | g
  · have ht : ((bl e).drop j).take (dw s i) = Lib.encodeRune (dr s i) := by
      rw [hd, List.take_append_of_le_length (by omega), List.take_of_length_le (by omega)]
    refine ⟨?_, fun hn => Bd.back q3 (by rw [q1, q2]; exact ht.symm) (by rw [q2]; exact hn), by omega⟩
    intro f out hf
    have hrun := uS_run e (dw s i) (f - dw s i) j out (by omega) (fun x hx => by
      rw [g2 x (by omega)]
      have := he _ (List.getElem_mem (show x < (Lib.encodeRune (dr s i)).length by omega))
      omega)
    rw [show f - dw s i + dw s i = f by omega, ht] at hrun
    exact ⟨f - dw s i, by omega, hrun⟩
  · rw [g] at st2
    simp at st2
    omega

theorem escR_reads (single : Bool) (s e : ByteArray) (i j : Nat) (rest : List UInt8) (hb : Bd s i) (h : i < s.size) (hd : (bl e).drop j = escR single (dr s i) ++ rest) : Reads e j (escR single (dr s i)).length (dr s i) := by
  have hlow : gb s i < 128 → dr s i = gb s i ∧ dw s i = 1 := dec_low s i h
  have hhigh : 128 ≤ gb s i → 128 ≤ dr s i := fun hl => (dec_high s i h hl).1
  revert hd
  unfold escR
  by_cases c34 : dr s i = 34
  · rw [if_pos c34]
    cases single
    · intro hd; rw [c34]; exact reads_plain e j 34 34 rest (by omega) (by omega) (by decide) hd
    · intro hd; rw [c34]; exact reads_one e j 34 rest (by omega) (by omega) hd
  rw [if_neg c34]
  by_cases c39 : dr s i = 39
  · rw [if_pos c39]
    cases single
    · intro hd; rw [c39]; exact reads_one e j 39 rest (by omega) (by omega) hd
    · intro hd; rw [c39]; exact reads_plain e j 39 39 rest (by omega) (by omega) (by decide) hd
  rw [if_neg c39]
  by_cases c : dr s i = 92
  · rw [if_pos c]; intro hd; rw [c]; exact reads_plain e j 92 92 rest (by omega) (by omega) (by decide) hd
  rw [if_neg c]
  by_cases c : dr s i = 8
  · rw [if_pos c]; intro hd; rw [c]; exact reads_plain e j 98 8 rest (by omega) (by omega) (by decide) hd
  rw [if_neg c]
  by_cases c : dr s i = 12
  · rw [if_pos c]; intro hd; rw [c]; exact reads_plain e j 102 12 rest (by omega) (by omega) (by decide) hd
  rw [if_neg c]
  by_cases c : dr s i = 10
  · rw [if_pos c]; intro hd; rw [c]; exact reads_plain e j 110 10 rest (by omega) (by omega) (by decide) hd
  rw [if_neg c]
  by_cases c : dr s i = 13
  · rw [if_pos c]; intro hd; rw [c]; exact reads_plain e j 114 13 rest (by omega) (by omega) (by decide) hd
  rw [if_neg c]
  by_cases c : dr s i = 9
  · rw [if_pos c]; intro hd; rw [c]; exact reads_plain e j 116 9 rest (by omega) (by omega) (by decide) hd
  rw [if_neg c]
  by_cases c : dr s i = 0
  · rw [if_pos c]; intro hd; rw [c]; exact reads_hex e j 0 rest (by omega) hd
  rw [if_neg c]
  by_cases c : dr s i < 32 ∨ (127 ≤ dr s i ∧ dr s i ≤ 159)
  · rw [if_pos c]; intro hd; exact reads_hex e j (dr s i) rest (by omega) hd
  rw [if_neg c]
  intro hd
  by_cases hl : gb s i < 128
  · obtain ⟨e1, e2⟩ := hlow hl
    rw [enc_low (dr s i) (by omega)] at hd ⊢
    exact reads_one e j (dr s i) rest (by omega) (by omega) hd
  · rw [(hb.step h).2.1]
    exact reads_high s e i j rest hb h (by omega) hd

theorem esc_main (single : Bool) (s e : ByteArray) (d : Nat) : ∀ f i j, s.size - i ≤ d → s.size - i < f → Bd s i → (bl e).drop j = escF single s f i → j ≤ e.size →
    Bd e j ∧ ∀ g out, e.size - j < g → uS e g j out = (out ++ (bl s).drop i, 1) := by
  induction d with
  | zero =>
    intro f i j hd hf hb he hj
    rw [escF_end single s f i (by omega)] at he
    have hje : j = e.size := by
      have := congrArg List.length he
      rw [List.length_drop, bl_len] at this
      simp at this
      omega
    subst hje
    refine ⟨⟨Nat.le_refl _, ?_⟩, ?_⟩
    · rw [Lib.runesFrom_end e _ _ (by omega), he]
    · intro g out hg
      obtain ⟨g, rfl⟩ : ∃ m, g = m + 1 := ⟨g - 1, by omega⟩
      unfold uS
      rw [if_neg (by omega), List.drop_eq_nil_of_le (by rw [bl_len]; omega), List.append_nil]
  | succ d ih =>
    intro f i j hd hf hb he hj
    by_cases h : i < s.size
    · obtain ⟨f, rfl⟩ : ∃ m, f = m + 1 := ⟨f - 1, by omega⟩
      have hp := dec_pos s i h
      obtain ⟨st1, st2, st3, st4⟩ := hb.step h
      rw [escF_step single s f i h] at he
      obtain ⟨r1, r2, r3⟩ := escR_reads single s e i j _ hb h he
      have he' : (bl e).drop (j + (escR single (dr s i)).length) = escF single s f (i + dw s i) := by
        rw [← List.drop_drop, he, List.drop_append_of_le_length (Nat.le_refl _), List.drop_length, List.nil_append]
      obtain ⟨i1, i2⟩ := ih f (i + dw s i) _ (by omega) (by omega) st4 he' r3
      refine ⟨r2 i1, ?_⟩
      intro g out hg
      obtain ⟨f', hf', hq⟩ := r1 g out hg
      rw [hq, i2 f' _ hf', List.append_assoc]
      congr 2
      rw [st1, ← List.drop_drop, List.take_append_drop]
    · exact (by
        rw [escF_end single s f i (by omega)] at he
        have hje : j = e.size := by
          have := congrArg List.length he
          rw [List.length_drop, bl_len] at this
          simp at this
          omega
        subst hje
        refine ⟨⟨Nat.le_refl _, ?_⟩, ?_⟩
        · rw [Lib.runesFrom_end e _ _ (by omega), he]
        · intro g out hg
          obtain ⟨g, rfl⟩ : ∃ m, g = m + 1 := ⟨g - 1, by omega⟩
          unfold uS
          rw [if_neg (by omega), List.drop_eq_nil_of_le (by rw [bl_len]; omega), List.append_nil])

/-- the text escaped. -/
def esc (single : Bool) (s : ByteArray) : ByteArray := ⟨(escF single s (s.size + 1) 0).toArray⟩
theorem esc_size (single : Bool) (s : ByteArray) : (esc single s).size ≤ 6 * s.size := escF_len single s s.size (s.size + 1) 0 (by omega)
theorem esc_back (single : Bool) (s : ByteArray) (hu : utfB s = true) : unesc (esc single s) = (bl s, 1) ∧ unescC (esc single s) = some (bl s) := by
  have hm := esc_main single s (esc single s) s.size (s.size + 1) 0 0 (by omega) (by omega) ((utfB_bd s).1 hu) rfl (Nat.zero_le _)
  have h1 : unesc (esc single s) = (bl s, 1) := by
    unfold unesc
    rw [if_pos ((utfB_bd _).2 hm.1), hm.2 _ _ (by omega)]
    rfl
  refine ⟨h1, ?_⟩
  have := (unesc_agree (esc single s)).1
  rw [h1] at this
  exact this rfl
end Go.Proofs.YtiicdalodfjgaaaFmt
