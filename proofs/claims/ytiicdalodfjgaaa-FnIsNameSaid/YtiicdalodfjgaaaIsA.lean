/- The walk of IsValidIdentifier, of the thin package's IsName and of the law FnIsName. -/
import Derived.Test.YtiicdalodfjgaaaRows
import Derived.Test.YtiicdalodfjgaaaPFnIsNamex1
import Derived.WalkKit
import Derived.WalkSpells
import Derived.WalkLawsBesides
import Derived.Lib.Hide
namespace Go.Proofs.Ytiicdalodfjgaaa
open Go.RowKit Go.Proofs.Ytiicdalodfjgaaa.PFnIsName

def upB (r : Int) : Bool := decide (65 ≤ r) && decide (r ≤ 90)
def loB (r : Int) : Bool := decide (97 ≤ r) && decide (r ≤ 122)
def nuB (r : Int) : Bool := decide (48 ≤ r) && decide (r ≤ 57)
def idFirst (r : Int) : Bool := upB r || loB r || r == 95
def idRest (r : Int) : Bool := idFirst r || nuB r
theorem ret_bool {a b : Bool} (h : a = b) : Ending.returned (.bool a) = Ending.returned (.bool b) := by rw [h]

theorem up_any (r : Int) (w : World) : Calls Try.prog 14 #[.int .i32 r] w fun e w' => e = .returned (.bool (upB r)) ∧ w = w' := by
  go_enter Try.func14, Try.ntmps14
  go_wp2
  all_goals
    go_ret
    refine ⟨ret_bool ?_, rfl⟩
    rw [Bool.eq_iff_iff]
    simp [upB]
    try omega
theorem lo_any (r : Int) (w : World) : Calls Try.prog 15 #[.int .i32 r] w fun e w' => e = .returned (.bool (loB r)) ∧ w = w' := by
  go_enter Try.func15, Try.ntmps15
  go_wp2
  all_goals
    go_ret
    refine ⟨ret_bool ?_, rfl⟩
    rw [Bool.eq_iff_iff]
    simp [loB]
    try omega
theorem nu_any (r : Int) (w : World) : Calls Try.prog 16 #[.int .i32 r] w fun e w' => e = .returned (.bool (nuB r)) ∧ w = w' := by
  go_enter Try.func16, Try.ntmps16
  go_wp2
  all_goals
    go_ret
    refine ⟨ret_bool ?_, rfl⟩
    rw [Bool.eq_iff_iff]
    simp [nuB]
    try omega

theorem first_any (r : Int) (w : World) : Calls Try.prog 11 #[.int .i32 r] w fun e w' => e = .returned (.bool (idFirst r)) ∧ w = w' := by
  go_enter Try.func11, Try.ntmps11
  go_wp2_with (first | (go_at_call 14; refine (up_any _ _).mono ?_; rintro e w' ⟨rfl, rfl⟩) | (go_at_call 15; refine (lo_any _ _).mono ?_; rintro e w' ⟨rfl, rfl⟩))
  all_goals
    go_ret
    refine ⟨ret_bool ?_, rfl⟩
    simp_all [idFirst]
theorem rest_any (r : Int) (w : World) : Calls Try.prog 12 #[.int .i32 r] w fun e w' => e = .returned (.bool (idRest r)) ∧ w = w' := by
  go_enter Try.func12, Try.ntmps12
  go_wp2_with (first | (go_at_call 11; refine (first_any _ _).mono ?_; rintro e w' ⟨rfl, rfl⟩) | (go_at_call 16; refine (nu_any _ _).mono ?_; rintro e w' ⟨rfl, rfl⟩))
  all_goals
    go_ret
    refine ⟨ret_bool ?_, rfl⟩
    simp_all [idRest]
def kindOf (s : ByteArray) : Int := (parser_getTokenKindFromID.f s).getD 10
theorem kind_any (s : ByteArray) (w : World) : Calls Try.prog 13 #[.string s] w fun e w' => e = .returned (.int .i64 (kindOf s)) ∧ w = w' := by
  go_enter Try.func13, Try.ntmps13
  go_wp2
  all_goals
    go_ret
    refine ⟨?_, rfl⟩
    simp_all [kindOf, parser_getTokenKindFromID.f]

/-- what the loop of IsValidIdentifier comes to from a place on. -/
def vrun (s : ByteArray) : Nat → Nat → Bool
  | 0, _ => true
  | b + 1, pos => if pos < s.size then (if pos = 0 then idFirst (Utf8.decode s pos).1 else idRest (Utf8.decode s pos).1) && vrun s b (pos + (Utf8.decode s pos).2) else true
theorem vrun_step (s : ByteArray) (b pos : Nat) (h : pos < s.size) : vrun s (b + 1) pos = ((if pos = 0 then idFirst (Utf8.decode s pos).1 else idRest (Utf8.decode s pos).1) && vrun s b (pos + (Utf8.decode s pos).2)) := by
  rw [vrun, if_pos h]
theorem vrun_end (s : ByteArray) (b pos : Nat) (h : ¬ pos < s.size) : vrun s b pos = true := by
  cases b with
  | zero => rfl
  | succ b => rw [vrun, if_neg h]
theorem width_pos (s : ByteArray) (pos : Nat) (h : pos < s.size) : 1 ≤ (Utf8.decode s pos).2 := by
  by_cases ha : (s[pos]'h).toNat < 128
  · rw [decode_ascii s pos h ha]
    exact Nat.le_refl _
  · exact (decode_high s pos h (by omega)).2
def isB (s : ByteArray) : Bool := decide (0 < s.size) && vrun s s.size 0 && (kindOf s == 10)
def IsPost (s : ByteArray) (w : World) (e : Ending) (w' : World) : Prop := e = .returned (.bool (isB s)) ∧ Below w.heap.size w w'

theorem isB_no {s : ByteArray} (h : vrun s s.size 0 = false) : false = isB s := by simp [isB, h]
theorem of_nt {b : Bool} (h : (!b) = true) : b = false := by simpa using h
theorem of_nf {b : Bool} (h : (!b) = false) : b = true := by simpa using h
theorem below_iter (w : World) (s : ByteArray) (p : Nat) : Below w.heap.size w (w.iter s p) := (Below.refl _ _).alloc (Nat.le_refl _) _

set_option maxHeartbeats 1000000 in
set_option maxRecDepth 1000000 in
theorem valid_any (s : ByteArray) (w : World) (hs : s.size ≤ maxLen) :
    Calls Try.prog 6 #[.string s] w fun e w' => IsPost s w e w' := by
  unfold maxLen at hs
  by_cases h0 : s.size = 0
  · have h00 : ((s.size : Int) == 0) = true := by simp [h0]
    have hp : false = isB s := by simp [isB, h0]
    have HP := Lib.hid hp
    clear h0 hp
    go_enter Try.func6, Try.ntmps6
    go_wp2
    go_ret
    exact ⟨ret_bool HP.out, Below.refl _ _⟩
  · have h00 : ((s.size : Int) == 0) = false := by simp; intro h; apply h0; rw [h]; rfl
    have h1 : 0 < s.size := by omega
    clear h0
    go_enter Try.func6, Try.ntmps6
    go_wp2
    go_loopw [3] (fun _ w' => ∃ (pos b : Nat), w' = w.iter s pos ∧ vrun s b pos = vrun s s.size 0 ∧ s.size ≤ pos + b) (fun _ w' => s.size - w'.iterPos w.heap.size)
    case atStart => exact ⟨0, s.size, rfl, rfl, by omega⟩
    case round =>
      obtain ⟨pos, b, rfl, hc, hb⟩ := hrel
      have HC := Lib.hid hc
      clear hc
      by_cases hp : pos < s.size
      · have hnx : ∀ ty, (Instr.next (.pointer (some ⟨w.heap.size, 0, none⟩)) true ty).run Try.prog (w.iter s pos) = _ := fun ty => run_next_any w s pos ty hp
        obtain ⟨b, rfl⟩ : ∃ m, b = m + 1 := ⟨b - 1, by omega⟩
        have hst := vrun_step s b pos hp
        obtain ⟨c, hcd⟩ : ∃ c : Int, ((Utf8.decode s pos).1 : Int) = c := ⟨_, rfl⟩
        have hwd := width_pos s pos hp
        rw [hcd] at hnx hst
        by_cases hz : pos = 0
        · have hz0 : ((pos : Int) == 0) = true := by simp [hz]
          rw [if_pos hz] at hst
          have HS := Lib.hid hst
          clear hst hcd hz
          go_wp2_with (first | (go_at_call 11; refine (first_any _ _).mono ?_; rintro e w' ⟨rfl, rfl⟩) | (go_at_call 12; refine (rest_any _ _).mono ?_; rintro e w' ⟨rfl, rfl⟩))
          · have hf : idFirst c = false := of_nt (by assumption)
            go_ret
            exact ⟨ret_bool (isB_no (by rw [← HC.out, HS.out, hf]; rfl)), below_iter _ _ _⟩
          · have hf : idFirst c = true := of_nf (by assumption)
            go_roundw
            case rel => exact ⟨_, b, rfl, by rw [← HC.out, HS.out, hf]; rfl, by omega⟩
            case measure => simp; omega
        · have hz0 : ((pos : Int) == 0) = false := by simp; omega
          rw [if_neg hz] at hst
          have HS := Lib.hid hst
          clear hst hcd hz
          go_wp2_with (first | (go_at_call 11; refine (first_any _ _).mono ?_; rintro e w' ⟨rfl, rfl⟩) | (go_at_call 12; refine (rest_any _ _).mono ?_; rintro e w' ⟨rfl, rfl⟩))
          · have hf : idRest c = false := of_nt (by assumption)
            go_ret
            exact ⟨ret_bool (isB_no (by rw [← HC.out, HS.out, hf]; rfl)), below_iter _ _ _⟩
          · have hf : idRest c = true := of_nf (by assumption)
            go_roundw
            case rel => exact ⟨_, b, rfl, by rw [← HC.out, HS.out, hf]; rfl, by omega⟩
            case measure => simp; omega
      · have hnx : ∀ ty, (Instr.next (.pointer (some ⟨w.heap.size, 0, none⟩)) true ty).run Try.prog (w.iter s pos) = _ := fun ty => run_next_end w s pos ty hp
        have HE := Lib.hid (vrun_end s b pos hp)
        go_wp2_with (first | (go_at_call 13; refine (kind_any _ _).mono ?_; rintro e w' ⟨rfl, rfl⟩))
        go_ret
        refine ⟨ret_bool ?_, below_iter _ _ _⟩
        unfold isB
        rw [← HC.out, HE.out]
        simp [h1]

def ImplPost := IsPost
theorem impl_any (s : ByteArray) (w : World) (hs : s.size ≤ maxLen) : Calls Try.prog 4 #[.string s] w fun e w' => IsPost s w e w' := by
  go_enter Try.func4, Try.ntmps4
  go_wp2_with (go_at_call 6; refine (valid_any _ _ hs).mono ?_; rintro e w' ⟨rfl, hb⟩)
  go_ret
  exact ⟨rfl, by assumption⟩


set_option maxHeartbeats 1000000 in
theorem law_any (s : ByteArray) (w : World) (hs : s.size ≤ maxLen) (k : Nat) (h : s.size ≤ 2000 → spec_IsName.f k s = some (isB s)) :
    Calls Try.prog 3 #[.string s] w fun e w' => e = .returned (.bool true) ∧ Below w.heap.size w w' := by
  unfold maxLen at hs
  by_cases h2 : s.size ≤ 2000
  · have H := Lib.hid (h h2)
    clear h
    go_enter Try.func3, Try.ntmps3
    go_wp2_with (first | (go_at_call 4; refine (impl_any _ _ hs).mono ?_; rintro e w' ⟨rfl, hb⟩) | (go_at_call 5; refine (spec_IsName.calls k s _ _ H.out).mono ?_; rintro e w'' ⟨rfl, hb2⟩))
    go_ret
    exact ⟨ret_bool (by simp), hb.trans (hb2.mono hb.size)⟩
  · have h3 : 2000 < s.size := by omega
    clear h
    go_enter Try.func3, Try.ntmps3
    go_wp2
    all_goals
      go_ret
      exact ⟨rfl, Below.refl _ _⟩
end Go.Proofs.Ytiicdalodfjgaaa
