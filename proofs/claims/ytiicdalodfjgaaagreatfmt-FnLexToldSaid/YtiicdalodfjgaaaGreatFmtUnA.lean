/- The walks of the reference: digit, hex, four, Utf. -/
import Derived.Test.YtiicdalodfjgaaaGreatFmtRows
import Derived.Test.YtiicdalodfjgaaaGreatFmtPa
import Derived.Test.YtiicdalodfjgaaaGreatFmtUnM
import Derived.IntWalk
namespace Go.Proofs.YtiicdalodfjgaaaGreatFmt
open Go.RowKit

theorem ret_bool {a b : Bool} (h : a = b) : Ending.returned (.bool a) = Ending.returned (.bool b) := by rw [h]
theorem ret_int {k : IntKind} {a b : Int} (h : a = b) : Ending.returned (.int k a) = .returned (.int k b) := by rw [h]

def nuB (r : Int) : Bool := decide (48 ≤ r) && decide (r ≤ 57)
theorem digit_any (r : Int) (w : World) : Calls Tryz.prog 15 #[.int .u8 r] w fun e w' => e = .returned (.bool (nuB r)) ∧ w = w' := by
  go_enter Tryz.func15, Tryz.ntmps15
  go_wp2
  all_goals
    go_ret
    refine ⟨ret_bool ?_, rfl⟩
    rw [Bool.eq_iff_iff]
    simp [nuB]
    try omega
/-- a figure of base 16, or -1. -/
def hexv (c : Int) : Int := if 48 ≤ c ∧ c ≤ 57 then c - 48 else if 97 ≤ c ∧ c ≤ 102 then c - 87 else if 65 ≤ c ∧ c ≤ 70 then c - 55 else -1
theorem hexv_range (c : Int) : -1 ≤ hexv c ∧ hexv c ≤ 15 := by
  unfold hexv
  repeat' split
  all_goals omega
set_option maxHeartbeats 400000 in
theorem hex_any (c : Int) (h0 : 0 ≤ c) (h1 : c < 256) (w : World) : Calls Tryz.prog 84 #[.int .u8 c] w fun e w' => e = .returned (.int .i64 (hexv c)) ∧ w = w' := by
  by_cases a : 48 ≤ c ∧ c ≤ 57
  · have hd : nuB c = true := by simp [nuB, a]
    have HV : Hid (c - 48 = hexv c) := Lib.hid (by unfold hexv; rw [if_pos a])
    obtain ⟨a1, a2⟩ := a
    go_enter Tryz.func84, Tryz.ntmps84
    go_wp2_with (go_at_call 15; refine (digit_any _ _).mono ?_; rintro e w' ⟨rfl, rfl⟩)
    go_ret
    exact ⟨ret_int (by have := HV.out; omega), rfl⟩
  have hd : nuB c = false := by rw [Bool.eq_false_iff]; simp [nuB]; omega
  by_cases b : 97 ≤ c ∧ c ≤ 102
  · have HV : Hid (c - 87 = hexv c) := Lib.hid (by unfold hexv; rw [if_neg a, if_pos b])
    clear a
    obtain ⟨b1, b2⟩ := b
    go_enter Tryz.func84, Tryz.ntmps84
    go_wp2_with (go_at_call 15; refine (digit_any _ _).mono ?_; rintro e w' ⟨rfl, rfl⟩)
    go_ret
    exact ⟨ret_int (by have := HV.out; omega), rfl⟩
  by_cases d : 65 ≤ c ∧ c ≤ 70
  · have HV : Hid (c - 55 = hexv c) := Lib.hid (by unfold hexv; rw [if_neg a, if_neg b, if_pos d])
    clear a b
    obtain ⟨d1, d2⟩ := d
    go_enter Tryz.func84, Tryz.ntmps84
    go_wp2_with (go_at_call 15; refine (digit_any _ _).mono ?_; rintro e w' ⟨rfl, rfl⟩)
    go_ret
    exact ⟨ret_int (by have := HV.out; omega), rfl⟩
  · have HV : Hid (-1 = hexv c) := Lib.hid (by unfold hexv; rw [if_neg a, if_neg b, if_neg d])
    go_enter Tryz.func84, Tryz.ntmps84
    go_wp2_with (go_at_call 15; refine (digit_any _ _).mono ?_; rintro e w' ⟨rfl, rfl⟩)
    all_goals
      go_ret
      exact ⟨ret_int HV.out, rfl⟩

/-- the rest of the number of four figures: d of them are still to come. -/
def fourR (s : ByteArray) (i : Nat) : Nat → Int → Int
  | 0, n => n
  | d + 1, n => if hexv (gb s (i + (3 - d))) < 0 then -1 else fourR s i d (n * 16 + hexv (gb s (i + (3 - d))))
def fourV (s : ByteArray) (i : Nat) : Int := if i + 4 ≤ s.size then fourR s i 4 0 else -1
theorem fourR_range (s : ByteArray) (i : Nat) : ∀ (d : Nat) (n : Int), 0 ≤ n → n < 16 ^ (4 - d) → d ≤ 4 → -1 ≤ fourR s i d n ∧ fourR s i d n < 65536
  | 0, n, h0, h1, _ => by simp [fourR] at *; omega
  | d + 1, n, h0, h1, hd => by
    have hr := hexv_range (gb s (i + (3 - d)))
    unfold fourR
    split
    · omega
    · refine fourR_range s i d _ (by omega) ?_ (by omega)
      have e : (4 - d) = (4 - (d + 1)) + 1 := by omega
      rw [e, Int.pow_succ]
      omega
theorem fourV_range (s : ByteArray) (i : Nat) : -1 ≤ fourV s i ∧ fourV s i < 65536 := by
  unfold fourV
  split
  · exact fourR_range s i 4 0 (by omega) (by decide) (by omega)
  · omega
theorem fourR_step (s : ByteArray) (i d : Nat) (n : Int) : fourR s i (d + 1) n = if hexv (gb s (i + (3 - d))) < 0 then -1 else fourR s i d (n * 16 + hexv (gb s (i + (3 - d)))) := rfl

set_option maxHeartbeats 1000000 in
set_option maxRecDepth 100000 in
theorem four_any (s : ByteArray) (i : Nat) (hs : s.size ≤ 20000) (hi : i ≤ 40000) (w : World) : Calls Tryz.prog 68 #[.string s, .int .i64 i] w fun e w' => e = .returned (.int .i64 (fourV s i)) ∧ w = w' := by
  by_cases h : i + 4 ≤ s.size
  · have HV : Hid (fourV s i = fourR s i 4 0) := Lib.hid (by unfold fourV; rw [if_pos h])
    go_enter Tryz.func68, Tryz.ntmps68
    go_wp2
    go_loop [5, 13] (fun n k => ∃ (d : Nat) (x : Int), d ≤ 4 ∧ 0 ≤ x ∧ x < 16 ^ (4 - d) ∧ n = .int .i64 x ∧ k = .int .i64 ((4 - d : Nat) : Int) ∧ Hid (fourR s i d x = fourV s i)) (fun _ k => 4 - (intOf k).toNat)
    case atStart => exact ⟨4, 0, by omega, by omega, by decide, rfl, rfl, Lib.hid HV.out.symm⟩
    case round =>
      obtain ⟨d, x, hd, hx0, hx1, rfl, rfl, HR⟩ := hrel
      cases d with
      | zero =>
        go_wp2
        go_ret
        exact ⟨ret_int HR.out, rfl⟩
      | succ d =>
        obtain ⟨k, hk, hk3⟩ : ∃ k : Nat, 4 - (d + 1) = k ∧ 3 - d = k := ⟨_, rfl, by omega⟩
        have HS := Lib.hid (fourR_step s i d x)
        rw [hk3] at HS
        rw [hk] at hx1
        rw [hk]
        have hr := hexv_range (gb s (i + k))
        have hg0 := gb_lt s (i + k)
        have hgb : ∀ h : ((i : Int) + k).toNat < s.size, ((s[((i : Int) + k).toNat]'h).toNat : Int) = gb s (i + k) := fun h => by
          rw [gb_in s (i + k) (by omega)]; rfl
        have hkd : k + d = 3 := by omega
        have HK := Lib.hid hkd
        have hk4 : k < 4 := by omega
        have hin : i + k < s.size := by omega
        have hx2 : x < 65536 := by
          have : (16 : Int) ^ k ≤ 4096 := (by decide : ∀ k : Nat, k < 4 → (16 : Int) ^ k ≤ 4096) k hk4
          omega
        have HX := Lib.hid hx1
        clear hk hk3 hkd HV hx1
        by_cases hneg : hexv (gb s (i + k)) < 0
        · go_wp2_with (go_at_call 84; refine (hex_any _ (by omega) (by omega) _).mono ?_; rintro e w' ⟨rfl, rfl⟩)
          go_ret
          refine ⟨ret_int ?_, rfl⟩
          rw [← HR.out, HS.out, if_pos hneg]
        · go_wp2_with (go_at_call 84; refine (hex_any _ (by omega) (by omega) _).mono ?_; rintro e w' ⟨rfl, rfl⟩)
          go_round
          case rel =>
            have e := HK.out
            refine ⟨d, x * 16 + hexv (gb s (i + k)), by omega, by omega, ?_, rfl, ?_, Lib.hid ?_⟩
            · rw [show 4 - d = k + 1 by omega, Int.pow_succ]
              have := HX.out
              omega
            · rw [show 4 - d = k + 1 by omega]; go_num
            · rw [← HR.out, HS.out, if_neg (by omega)]
          case measure => simp [intOf]; omega
  · have HV : Hid (-1 = fourV s i) := Lib.hid (by unfold fourV; rw [if_neg h])
    have h' : s.size < i + 4 := by omega
    clear h
    go_enter Tryz.func68, Tryz.ntmps68
    go_wp2
    go_ret
    exact ⟨ret_int HV.out, rfl⟩

theorem Tryz.u9 : Tryz.prog.underlying 9 = some .string := by kernel_rfl
theorem Tryz.u38 : Tryz.prog.underlying 38 = some (.slice 21) := by kernel_rfl
theorem Tryz.u21 : Tryz.prog.underlying 21 = some (.int .i32) := by kernel_rfl
def UtfPost (s : ByteArray) (w : World) (e : Ending) (w' : World) : Prop := e = .returned (.bool (utfB s)) ∧ Below w.heap.size w w'
set_option maxHeartbeats 1000000 in
set_option maxRecDepth 100000 in
theorem utf_any (s : ByteArray) (hs : s.size ≤ 20000) (w : World) : Calls Tryz.prog 6 #[.string s] w fun e w' => UtfPost s w e w' := by
  have hl := runesN_len s s.size 0
  have hrn := runesN_eq s s.size 0 #[]
  have h46 : (Conv.runesFrom s s.size 0 #[]).size ≤ 70368744177664 := by rw [hrn]; simp; omega
  have hc1 := run_runes_of_string (P := Tryz.prog) w 9 38 21 s Tryz.u9 Tryz.u38 Tryz.u21 h46
  obtain ⟨c, hc⟩ : ∃ c, grownCap w (Conv.runesFrom s s.size 0 #[]).size 0 21 = c := ⟨_, rfl⟩
  rw [hc] at hc1
  rw [hrn] at hc1
  have hsz : (#[] ++ ((runesN s s.size 0).map (Value.int .i32)).toArray).size = (runesN s s.size 0).length := by simp
  rw [hsz] at hc1
  obtain ⟨C, hC⟩ : ∃ C, #[] ++ ((runesN s s.size 0).map (Value.int .i32)).toArray ++ Array.replicate (c - (runesN s s.size 0).length) (.int .i32 0) = C := ⟨_, rfl⟩
  rw [hC] at hc1
  have hc2 := run_convert_runes (P := Tryz.prog) (w.alloc (.cells C 21)).drew 38 9 21 ⟨w.heap.size, 0, none⟩ (runesN s s.size 0).length c (runesN s s.size 0) (Nat.le_refl _) Tryz.u38 Tryz.u21 Tryz.u9 (by
    intro j hj
    have hcj : C[j]? = some (.int .i32 ((runesN s s.size 0).getD j 0)) := by
      rw [← hC, Array.getElem?_append_left (by simpa using hj)]
      simp [hj]
    rw [World.cell?_drew, show (⟨w.heap.size, 0, none⟩ : Addr).add j = ⟨w.heap.size, j, none⟩ by simp [Addr.add]; omega, World.cell?_alloc_mark, hcj])
  rw [List.take_length] at hc2
  clear hl hrn h46 hc hsz hC
  go_enter Tryz.func6, Tryz.ntmps6
  go_wp2
  go_ret
  exact ⟨rfl, ((Below.refl _ _).alloc (Nat.le_refl _) _).drew⟩
end Go.Proofs.YtiicdalodfjgaaaGreatFmt
