/- The plain law: what IsValidIdentifier comes to is what the reference says, for every text of at most 2000 bytes. -/
import Derived.Test.YtiicdalodfjgaaaIsA
namespace Go.Proofs.Ytiicdalodfjgaaa
open Go.RowKit Go.Proofs.Ytiicdalodfjgaaa.PFnIsName Go.Proofs.YtiicdalodfjgaaaW.PrintWords

theorem letter_f (r : Int) : spec_letter.f r = some (idFirst r) := by
  unfold spec_letter.f idFirst upB loB
  repeat' split
  all_goals
    rw [Option.some.injEq, Bool.eq_iff_iff]
    simp
    try omega
theorem digit_f (r : Int) : spec_digit.f r = some (nuB r) := by
  unfold spec_digit.f nuB
  repeat' split
  all_goals
    rw [Option.some.injEq, Bool.eq_iff_iff]
    simp
    try omega

theorem has_f (s : ByteArray) (l : List ByteArray) (hl : l.length ≤ 1000) (d : Nat) : ∀ (k : Nat) (i : Nat), i + d = l.length → d < k →
    spec_has.l0 k s l (l.length : Int) (i : Int) = some ((l.drop i).any fun x => x.toList == s.toList) := by
  induction d with
  | zero =>
    intro k i hi hk
    obtain ⟨k, rfl⟩ : ∃ m, k = m + 1 := ⟨k - 1, by omega⟩
    simp only [spec_has.l0]
    rw [if_neg (by omega), List.drop_eq_nil_of_le (by omega)]
    rfl
  | succ d ih =>
    intro k i hi hk
    obtain ⟨k, rfl⟩ : ∃ m, k = m + 1 := ⟨k - 1, by omega⟩
    simp only [spec_has.l0]
    rw [if_pos (by omega), if_pos (by omega), if_pos (by omega)]
    have hd : l.drop i = l[i]'(by omega) :: l.drop (i + 1) := List.drop_eq_getElem_cons (by omega)
    have hr : rdOf ByteArray.empty l (i : Int) = l[i]'(by omega) := by simp [rdOf, List.getD_eq_getElem?_getD, List.getElem?_eq_getElem (show i < l.length by omega)]
    have hw : wrap64 ((i : Int) + 1) = ((i + 1 : Nat) : Int) := by unfold wrap64; omega
    rw [hd, hr, hw, ih k (i + 1) (by omega) (by omega), List.any_cons]
    by_cases e : (l[i]'(by omega)).toList = s.toList
    · rw [if_pos e]; simp [e]
    · rw [if_neg e]; simp [e]

def keysL : List ByteArray := (spec_Keys.f).getD []
theorem keys_f : spec_Keys.f = some keysL := rfl
theorem keys_len : keysL.length = 18 := rfl

def keysT : List (List UInt8) := [[97, 115, 115, 101, 114, 116], [101, 108, 115, 101], [101, 114, 114, 111, 114], [102, 97, 108, 115, 101], [102, 111, 114], [102, 117, 110, 99, 116, 105, 111, 110], [105, 102], [105, 109, 112, 111, 114, 116], [105, 109, 112, 111, 114, 116, 115, 116, 114], [105, 109, 112, 111, 114, 116, 98, 105, 110], [105, 110], [108, 111, 99, 97, 108], [110, 117, 108, 108], [116, 97, 105, 108, 115, 116, 114, 105, 99, 116], [116, 104, 101, 110], [115, 101, 108, 102], [115, 117, 112, 101, 114], [116, 114, 117, 101]]
theorem keys_T : keysL.map (·.toList) = keysT := by simp [keysL, spec_Keys.f, keysT, ByteArray.toList_eq]
theorem any_T (s : ByteArray) : (keysL.any fun x => x.toList == s.toList) = keysT.any (s.toList == ·) := by
  rw [← keys_T, List.any_map]
  congr 1
  funext x
  exact BEq.comm
def kindT (l : List UInt8) : Int :=
  if l = [97, 115, 115, 101, 114, 116] then 18 else if l = [101, 108, 115, 101] then 19 else if l = [101, 114, 114, 111, 114] then 20 else if l = [102, 97, 108, 115, 101] then 21 else if l = [102, 111, 114] then 22 else if l = [102, 117, 110, 99, 116, 105, 111, 110] then 23 else if l = [105, 102] then 24 else if l = [105, 109, 112, 111, 114, 116] then 25 else if l = [105, 109, 112, 111, 114, 116, 115, 116, 114] then 26 else if l = [105, 109, 112, 111, 114, 116, 98, 105, 110] then 27 else if l = [105, 110] then 28 else if l = [108, 111, 99, 97, 108] then 29 else if l = [110, 117, 108, 108] then 30 else if l = [115, 101, 108, 102] then 31 else if l = [115, 117, 112, 101, 114] then 32 else if l = [116, 97, 105, 108, 115, 116, 114, 105, 99, 116] then 33 else if l = [116, 104, 101, 110] then 34 else if l = [116, 114, 117, 101] then 35 else 10
theorem ite_getD {p : Prop} [Decidable p] (a d : Int) (b : Option Int) : (if p then some a else b).getD d = if p then a else b.getD d := by split <;> rfl
theorem kindOf_T (s : ByteArray) : kindOf s = kindT s.toList := by
  unfold kindOf parser_getTokenKindFromID.f kindT
  generalize s.toList = l
  simp only [ite_getD, Option.getD_some]
theorem kind_ite {p : Prop} [Decidable p] (a b : Int) : ((if p then a else b) == 10) = if p then (a == 10) else (b == 10) := by split <;> rfl
theorem beq_dec (l x : List UInt8) : (l == x) = decide (l = x) := by rw [Bool.eq_iff_iff]; simp
theorem keys_T_kind (l : List UInt8) : keysT.any (l == ·) = !(kindT l == 10) := by
  unfold kindT
  simp only [kind_ite, keysT, List.any_cons, List.any_nil, Bool.or_false]
  simp
  simp only [beq_dec]
  ac_rfl
theorem keys_kind (s : ByteArray) : (keysL.any fun x => x.toList == s.toList) = !(kindOf s == 10) := by
  rw [any_T, kindOf_T, keys_T_kind]

def okAt (s : ByteArray) (i : Nat) : Bool := if i = 0 then idFirst (bt s i) else idRest (bt s i)
def srun (s : ByteArray) : Nat → Nat → Bool
  | 0, _ => true
  | b + 1, pos => if pos < s.size then okAt s pos && srun s b (pos + 1) else true

theorem bt_nat (s : ByteArray) (i : Nat) (h : i < s.size) : bt s (i : Int) = ((s[i]'h).toNat : Int) := by
  unfold bt
  simp [h]
theorem idFirst_high (r : Int) (h : 128 ≤ r) : idFirst r = false := by
  unfold idFirst upB loB
  rw [Bool.eq_false_iff]
  simp
  omega
theorem idRest_high (r : Int) (h : 128 ≤ r) : idRest r = false := by
  unfold idRest nuB
  rw [idFirst_high r h, Bool.eq_false_iff]
  simp
  omega
theorem runs (s : ByteArray) (b : Nat) : ∀ pos, vrun s b pos = srun s b pos := by
  induction b with
  | zero => intro pos; rfl
  | succ b ih =>
    intro pos
    unfold vrun srun
    by_cases h : pos < s.size
    · rw [if_pos h, if_pos h]
      by_cases ha : (s[pos]'h).toNat < 128
      · rw [decode_ascii s pos h ha, ih]
        unfold okAt
        rw [bt_nat s pos h]
      · have hh := decode_high s pos h (by omega)
        unfold okAt
        rw [bt_nat s pos h]
        by_cases hz : pos = 0
        · rw [if_pos hz, if_pos hz, idFirst_high _ (by omega), idFirst_high _ (by omega)]; rfl
        · rw [if_neg hz, if_neg hz, idRest_high _ (by omega), idRest_high _ (by omega)]; rfl
    · rw [if_neg h, if_neg h]

theorem spec_run (s : ByteArray) (hs : s.size ≤ 2000) (d : Nat) : ∀ (k i : Nat), i + d = s.size → d + 20 < k →
    spec_IsName.l0 k s (s.size : Int) (i : Int) = some (srun s d i && (decide (0 < s.size) && (kindOf s == 10))) := by
  induction d with
  | zero =>
    intro k i hi hk
    obtain ⟨k, rfl⟩ : ∃ m, k = m + 1 := ⟨k - 1, by omega⟩
    simp only [spec_IsName.l0]
    rw [if_neg (by omega)]
    by_cases h0 : 0 < s.size
    · have hh := has_f s keysL (by decide) 18 k 0 rfl (by omega)
      rw [if_pos (by omega), keys_f]
      simp only [Option.bind_some, spec_has.f]
      rw [show (0 : Int) = ((0 : Nat) : Int) from rfl, hh]
      simp only [Option.bind_some, List.drop_zero, keys_kind, srun]
      simp [h0]
    · rw [if_neg (by omega)]
      simp [h0]
  | succ d ih =>
    intro k i hi hk
    obtain ⟨k, rfl⟩ : ∃ m, k = m + 1 := ⟨k - 1, by omega⟩
    simp only [spec_IsName.l0]
    rw [if_pos (by omega), if_pos (by omega), if_pos (by omega), letter_f, digit_f]
    simp only [Option.bind_some]
    have hw : wrap64 ((i : Int) + 1) = ((i + 1 : Nat) : Int) := by unfold wrap64; omega
    rw [hw, ih k (i + 1) (by omega) (by omega)]
    have hst : srun s (d + 1) i = (okAt s i && srun s d (i + 1)) := by rw [srun, if_pos (by omega)]
    rw [hst]
    unfold okAt idRest
    by_cases hz : i = 0
    · subst hz
      cases idFirst (bt s ((0 : Nat) : Int)) <;> simp
    · have hz' : ¬ (i : Int) = 0 := by omega
      cases idFirst (bt s (i : Int)) <;> cases nuB (bt s (i : Int)) <;> simp [hz]

theorem spec_isB (s : ByteArray) (hs : s.size ≤ 2000) : spec_IsName.f (s.size + 21) s = some (isB s) := by
  unfold spec_IsName.f isB
  rw [show (0 : Int) = ((0 : Nat) : Int) from rfl, spec_run s hs s.size _ 0 (by omega) (by omega), runs]
  cases srun s s.size 0 <;> cases decide (0 < s.size) <;> simp
end Go.Proofs.Ytiicdalodfjgaaa
