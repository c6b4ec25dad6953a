/- Two questions on a text: whether a byte is in it, whether it has a line of blanks alone. -/
import Derived.Test.YtiicdalodfjgaaaGreatFmtSpB
namespace Go.Proofs.YtiicdalodfjgaaaGreatFmt
open Go.RowKit

def withN (s : ByteArray) (c : Nat) : Nat → Nat → Bool
  | 0, _ => false
  | f + 1, j => if j < s.size then (if ((gb s j : Int) == (c : Int)) = true then true else withN s c f (j + 1)) else false
theorem withN_end (s : ByteArray) (c f j : Nat) (h : ¬ j < s.size) : withN s c f j = false := by
  cases f with
  | zero => rfl
  | succ f => rw [withN, if_neg h]
def withE (s : ByteArray) (c : Nat) : Bool := withN s c (s.size + 1) 0
set_option maxHeartbeats 1600000 in
theorem within_any (s : ByteArray) (c : Nat) (w : World) (hs : s.size ≤ 20000) : Calls Tryz.prog 43 #[.string s, .int .u8 c] w fun e w' => e = .returned (.bool (withE s c)) ∧ w = w' := by
  obtain ⟨r, hr⟩ : ∃ r, withE s c = r := ⟨_, rfl⟩
  rw [hr]
  go_enter Tryz.func43, Tryz.ntmps43
  go_wp2_with fail
  go_loopw [8] (fun i wr => ∃ (f j : Nat), i = .int .i64 j ∧ j ≤ s.size ∧ s.size - j < f ∧ Hid (withN s c f j = r) ∧ wr = w) (fun i _ => s.size - (intOf i).toNat)
  case atStart => exact ⟨s.size + 1, 0, rfl, by omega, by omega, Lib.hid hr, rfl⟩
  case round =>
    clear hr
    obtain ⟨f, j, rfl, hj, hf, HS, rfl⟩ := hrel
    obtain ⟨f, rfl⟩ : ∃ m, f = m + 1 := ⟨f - 1, by omega⟩
    by_cases hlt : j < s.size
    · have hgb : ∀ h : j < s.size, (s[j]'h).toNat = gb s j := fun h => (gb_in s j h).symm
      cases e : ((gb s j : Int) == (c : Int)) with
      | true =>
        have HF : Hid (true = r) := Lib.hid (by rw [← HS.out, withN, if_pos hlt, if_pos e])
        go_wp2_with fail
        go_ret
        exact ⟨ret_bool HF.out, rfl⟩
      | false =>
        have HF : Hid (withN s c f (j + 1) = r) := Lib.hid (by rw [← HS.out, withN, if_pos hlt, if_neg (by rw [e]; decide)])
        go_wp2_with fail
        go_roundw
        case rel => exact ⟨f, j + 1, rfl, by omega, by omega, HF, trivial⟩
        case measure => simp [intOf]; omega
    · have HF : Hid (false = r) := Lib.hid (by rw [← HS.out, withN_end s c _ j hlt])
      go_wp2_with fail
      go_ret
      exact ⟨ret_bool HF.out, rfl⟩

def faintN (s : ByteArray) : Nat → Bool → Bool → Bool → Nat → Bool
  | 0, _, _, _, _ => false
  | f + 1, bl, an, fi, j => if j < s.size then (if gb s j = 10 then (if (!fi && (bl && an)) = true then true else faintN s f true false false (j + 1)) else if gb s j = 32 ∨ gb s j = 9 then faintN s f bl true fi (j + 1) else faintN s f false an fi (j + 1)) else false
theorem faintN_end (s : ByteArray) (f : Nat) (bl an fi : Bool) (j : Nat) (h : ¬ j < s.size) : faintN s f bl an fi j = false := by
  cases f with
  | zero => rfl
  | succ f => rw [faintN, if_neg h]
def faintE (s : ByteArray) : Bool := faintN s (s.size + 1) true false true 0
set_option maxHeartbeats 3200000 in
theorem faint_any (s : ByteArray) (w : World) (hs : s.size ≤ 20000) : Calls Tryz.prog 42 #[.string s] w fun e w' => e = .returned (.bool (faintE s)) ∧ w = w' := by
  obtain ⟨r, hr⟩ : ∃ r, faintE s = r := ⟨_, rfl⟩
  rw [hr]
  go_enter Tryz.func42, Tryz.ntmps42
  go_wp2_with fail
  go_loopw [3, 4, 5, 9] (fun x y z i wr => ∃ (bl an fi : Bool) (f j : Nat), x = .bool bl ∧ y = .bool an ∧ z = .bool fi ∧ i = .int .i64 j ∧ j ≤ s.size ∧ s.size - j < f ∧ Hid (faintN s f bl an fi j = r) ∧ wr = w) (fun _ _ _ i _ => s.size - (intOf i).toNat)
  case atStart => exact ⟨true, false, true, s.size + 1, 0, rfl, rfl, rfl, rfl, by omega, by omega, Lib.hid hr, rfl⟩
  case round =>
    clear hr
    obtain ⟨bl, an, fi, f, j, rfl, rfl, rfl, rfl, hj, hf, HS, rfl⟩ := hrel
    obtain ⟨f, rfl⟩ : ∃ m, f = m + 1 := ⟨f - 1, by omega⟩
    by_cases hlt : j < s.size
    · have hgb : ∀ h : j < s.size, (s[j]'h).toNat = gb s j := fun h => (gb_in s j h).symm
      by_cases e10 : gb s j = 10
      · have t : ((gb s j : Int) == 10) = true := by simp; omega
        have HF : Hid ((if (!fi && (bl && an)) = true then true else faintN s f true false false (j + 1)) = r) := Lib.hid (by rw [← HS.out, faintN, if_pos hlt, if_pos e10])
        clear HS e10
        cases fi <;> cases bl <;> cases an
        all_goals
          go_wp2_with fail
          first
            | (go_ret
               exact ⟨ret_bool (by have := HF.out; simpa using this), rfl⟩)
            | (go_roundw
               case rel => exact ⟨_, _, _, f, j + 1, rfl, rfl, rfl, rfl, by omega, by omega, Lib.hid (by have := HF.out; simpa using this), trivial⟩
               case measure => simp [intOf]; omega)
      · have t : ((gb s j : Int) == 10) = false := by simp; omega
        by_cases e32 : gb s j = 32
        · have t2 : ((gb s j : Int) == 32) = true := by simp; omega
          have HF : Hid (faintN s f bl true fi (j + 1) = r) := Lib.hid (by rw [← HS.out, faintN, if_pos hlt, if_neg e10, if_pos (.inl e32)])
          clear HS e10 e32
          go_wp2_with fail
          go_roundw
          case rel => exact ⟨_, _, _, f, j + 1, rfl, rfl, rfl, rfl, by omega, by omega, HF, trivial⟩
          case measure => simp [intOf]; omega
        · have t2 : ((gb s j : Int) == 32) = false := by simp; omega
          by_cases e9 : gb s j = 9
          · have t3 : ((gb s j : Int) == 9) = true := by simp; omega
            have HF : Hid (faintN s f bl true fi (j + 1) = r) := Lib.hid (by rw [← HS.out, faintN, if_pos hlt, if_neg e10, if_pos (.inr e9)])
            clear HS e10 e32 e9
            go_wp2_with fail
            go_roundw
            case rel => exact ⟨_, _, _, f, j + 1, rfl, rfl, rfl, rfl, by omega, by omega, HF, trivial⟩
            case measure => simp [intOf]; omega
          · have t3 : ((gb s j : Int) == 9) = false := by simp; omega
            have HF : Hid (faintN s f false an fi (j + 1) = r) := Lib.hid (by rw [← HS.out, faintN, if_pos hlt, if_neg e10, if_neg (by omega)])
            clear HS e10 e32 e9
            go_wp2_with fail
            go_roundw
            case rel => exact ⟨_, _, _, f, j + 1, rfl, rfl, rfl, rfl, by omega, by omega, HF, trivial⟩
            case measure => simp [intOf]; omega
    · have HF : Hid (false = r) := Lib.hid (by rw [← HS.out, faintN_end s _ _ _ _ j hlt])
      go_wp2_with fail
      go_ret
      exact ⟨ret_bool HF.out, rfl⟩
end Go.Proofs.YtiicdalodfjgaaaGreatFmt
