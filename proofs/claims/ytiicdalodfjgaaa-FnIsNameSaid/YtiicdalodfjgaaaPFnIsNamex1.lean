-- PRINTED BY print.sh 35421559b90ae4d0a3588c463048766b98c2df88dd9212a6774a882060cdf62d: not written by this session
import Derived.Test.YtiicdalodfjgaaaPFnIsNamex0
namespace Go.Proofs.Ytiicdalodfjgaaa.PFnIsName
open Go.RowKit Go.Proofs.YtiicdalodfjgaaaW.PrintWords Go.Proofs.YtiicdalodfjgaaaW.PrintLast Go.Proofs.YtiicdalodfjgaaaW.PrintMore
attribute [local go_sem] max2_int min2_int max_two min_two max_three min_three max_four min_four   -- for this text's walks alone
set_option linter.unusedVariables false
set_option linter.unusedSimpArgs false

/-! ### parser_isUpper: function 14 -/
def parser_isUpper.f (a0 : Int) : Option (Bool) := if a0 ≥ 65 then (some (decide (a0 ≤ 90))) else (some false)
set_option maxHeartbeats 8000000 in
set_option maxRecDepth 100000 in
theorem parser_isUpper.calls (a0 : Int) (r : Bool) (w : World) (h : parser_isUpper.f a0 = some r) :
    Calls Try.prog 14 #[.int .i32 a0] w fun e w' => e = .returned (.bool r) ∧ Drawn0 w w' := by
  have H : (if a0 ≥ 65 then (some (decide (a0 ≤ 90))) else (some false)) = some r := h
  clear h
  by_cases c2 : a0 ≥ 65
  · rw [if_pos c2] at H
    have c2b0 : decide (65 ≤ a0) = true := decide_eq_true c2
    clear c2
    obtain rfl := Option.some.inj H
    go_enter Try.func14, Try.ntmps14
    go_wp2
    go_ret
    exact ⟨by first | rfl | (simp; done) | (simp [*]; done), by repeat (first | exact Drawn0.refl _ | apply Drawn0.step)⟩
  · rw [if_neg c2] at H
    have c2b0 : decide (65 ≤ a0) = false := decide_eq_false c2
    clear c2
    obtain rfl := Option.some.inj H
    go_enter Try.func14, Try.ntmps14
    go_wp2
    go_ret
    exact ⟨by first | rfl | (simp; done) | (simp [*]; done), by repeat (first | exact Drawn0.refl _ | apply Drawn0.step)⟩

/-! ### parser_isLower: function 15 -/
def parser_isLower.f (a0 : Int) : Option (Bool) := if a0 ≥ 97 then (some (decide (a0 ≤ 122))) else (some false)
set_option maxHeartbeats 8000000 in
set_option maxRecDepth 100000 in
theorem parser_isLower.calls (a0 : Int) (r : Bool) (w : World) (h : parser_isLower.f a0 = some r) :
    Calls Try.prog 15 #[.int .i32 a0] w fun e w' => e = .returned (.bool r) ∧ Drawn0 w w' := by
  have H : (if a0 ≥ 97 then (some (decide (a0 ≤ 122))) else (some false)) = some r := h
  clear h
  by_cases c2 : a0 ≥ 97
  · rw [if_pos c2] at H
    have c2b0 : decide (97 ≤ a0) = true := decide_eq_true c2
    clear c2
    obtain rfl := Option.some.inj H
    go_enter Try.func15, Try.ntmps15
    go_wp2
    go_ret
    exact ⟨by first | rfl | (simp; done) | (simp [*]; done), by repeat (first | exact Drawn0.refl _ | apply Drawn0.step)⟩
  · rw [if_neg c2] at H
    have c2b0 : decide (97 ≤ a0) = false := decide_eq_false c2
    clear c2
    obtain rfl := Option.some.inj H
    go_enter Try.func15, Try.ntmps15
    go_wp2
    go_ret
    exact ⟨by first | rfl | (simp; done) | (simp [*]; done), by repeat (first | exact Drawn0.refl _ | apply Drawn0.step)⟩

/-! ### parser_isIdentifierFirst: function 11 -/
def parser_isIdentifierFirst.f (a0 : Int) : Option (Bool) := (parser_isUpper.f a0).bind fun t101 => (if t101 = true then (some true) else ((parser_isLower.f a0).bind fun t102 => (if t102 = true then (some true) else (some (a0 == 95)))))
set_option maxHeartbeats 8000000 in
set_option maxRecDepth 100000 in
theorem parser_isIdentifierFirst.calls (a0 : Int) (r : Bool) (w : World) (h : parser_isIdentifierFirst.f a0 = some r) :
    Calls Try.prog 11 #[.int .i32 a0] w fun e w' => e = .returned (.bool r) ∧ Drawn0 w w' := by
  have H : ((parser_isUpper.f a0).bind fun t101 => (if t101 = true then (some true) else ((parser_isLower.f a0).bind fun t102 => (if t102 = true then (some true) else (some (a0 == 95)))))) = some r := h
  clear h
  replace H := Option.bind_eq_some_iff.mp H
  obtain ⟨t101, A20, H⟩ := H
  replace H : (if t101 = true then (some true) else ((parser_isLower.f a0).bind fun t102 => (if t102 = true then (some true) else (some (a0 == 95))))) = some r := H
  have A2 := Aside0.mk A20
  clear A20
  by_cases c3 : t101 = true
  · subst c3
    have H1 : (some true) = some r := by rw [if_pos rfl] at H; exact H
    clear H
    have H := H1
    clear H1
    obtain rfl := Option.some.inj H
    go_enter Try.func11, Try.ntmps11
    go_wp2_with (first | ((with_reducible refine gate_callee (f := 14) rfl ?_); refine goesL_ (some 4) rfl rfl Try.func14 (by kernel_rfl) rfl #[.int .i32 a0] rfl (by (try simp only [List.map_toArray, List.map_cons, List.map_nil]); first | done | rfl | (simp only [List.length_drop, List.length_take]; rfl)) ?_; (with_reducible refine (parser_isUpper.calls a0 true _ A2.out).mono ?_); rintro e w' ⟨rfl, ⟨nd, rfl⟩⟩; refine ⟨_, rfl, ?_⟩))
    go_ret
    exact ⟨by first | rfl | (simp; done) | (simp [*]; done), by repeat (first | exact Drawn0.refl _ | apply Drawn0.step)⟩
  · replace c3 := Bool.eq_false_iff.mpr c3
    subst c3
    have H1 : ((parser_isLower.f a0).bind fun t102 => (if t102 = true then (some true) else (some (a0 == 95)))) = some r := by rw [if_neg (show ¬ (false = true) by decide)] at H; exact H
    clear H
    have H := H1
    clear H1
    replace H := Option.bind_eq_some_iff.mp H
    obtain ⟨t102, A40, H⟩ := H
    replace H : (if t102 = true then (some true) else (some (a0 == 95))) = some r := H
    have A4 := Aside0.mk A40
    clear A40
    by_cases c5 : t102 = true
    · subst c5
      have H1 : (some true) = some r := by rw [if_pos rfl] at H; exact H
      clear H
      have H := H1
      clear H1
      obtain rfl := Option.some.inj H
      go_enter Try.func11, Try.ntmps11
      go_wp2_with (first | ((with_reducible refine gate_callee (f := 14) rfl ?_); refine goesL_ (some 4) rfl rfl Try.func14 (by kernel_rfl) rfl #[.int .i32 a0] rfl (by (try simp only [List.map_toArray, List.map_cons, List.map_nil]); first | done | rfl | (simp only [List.length_drop, List.length_take]; rfl)) ?_; (with_reducible refine (parser_isUpper.calls a0 false _ A2.out).mono ?_); rintro e w' ⟨rfl, ⟨nd, rfl⟩⟩; refine ⟨_, rfl, ?_⟩) | (go_at_call 15; (with_reducible refine (parser_isLower.calls a0 true _ A4.out).mono ?_); rintro e w' ⟨rfl, ⟨nd, rfl⟩⟩))
      go_ret
      exact ⟨by first | rfl | (simp; done) | (simp [*]; done), by repeat (first | exact Drawn0.refl _ | apply Drawn0.step)⟩
    · replace c5 := Bool.eq_false_iff.mpr c5
      subst c5
      have H1 : (some (a0 == 95)) = some r := by rw [if_neg (show ¬ (false = true) by decide)] at H; exact H
      clear H
      have H := H1
      clear H1
      obtain rfl := Option.some.inj H
      go_enter Try.func11, Try.ntmps11
      go_wp2_with (first | ((with_reducible refine gate_callee (f := 14) rfl ?_); refine goesL_ (some 4) rfl rfl Try.func14 (by kernel_rfl) rfl #[.int .i32 a0] rfl (by (try simp only [List.map_toArray, List.map_cons, List.map_nil]); first | done | rfl | (simp only [List.length_drop, List.length_take]; rfl)) ?_; (with_reducible refine (parser_isUpper.calls a0 false _ A2.out).mono ?_); rintro e w' ⟨rfl, ⟨nd, rfl⟩⟩; refine ⟨_, rfl, ?_⟩) | (go_at_call 15; (with_reducible refine (parser_isLower.calls a0 false _ A4.out).mono ?_); rintro e w' ⟨rfl, ⟨nd, rfl⟩⟩))
      go_ret
      exact ⟨by first | rfl | (simp; done) | (simp [*]; done), by repeat (first | exact Drawn0.refl _ | apply Drawn0.step)⟩

/-! ### parser_isNumber: function 16 -/
def parser_isNumber.f (a0 : Int) : Option (Bool) := if a0 ≥ 48 then (some (decide (a0 ≤ 57))) else (some false)
set_option maxHeartbeats 8000000 in
set_option maxRecDepth 100000 in
theorem parser_isNumber.calls (a0 : Int) (r : Bool) (w : World) (h : parser_isNumber.f a0 = some r) :
    Calls Try.prog 16 #[.int .i32 a0] w fun e w' => e = .returned (.bool r) ∧ Drawn0 w w' := by
  have H : (if a0 ≥ 48 then (some (decide (a0 ≤ 57))) else (some false)) = some r := h
  clear h
  by_cases c2 : a0 ≥ 48
  · rw [if_pos c2] at H
    have c2b0 : decide (48 ≤ a0) = true := decide_eq_true c2
    clear c2
    obtain rfl := Option.some.inj H
    go_enter Try.func16, Try.ntmps16
    go_wp2
    go_ret
    exact ⟨by first | rfl | (simp; done) | (simp [*]; done), by repeat (first | exact Drawn0.refl _ | apply Drawn0.step)⟩
  · rw [if_neg c2] at H
    have c2b0 : decide (48 ≤ a0) = false := decide_eq_false c2
    clear c2
    obtain rfl := Option.some.inj H
    go_enter Try.func16, Try.ntmps16
    go_wp2
    go_ret
    exact ⟨by first | rfl | (simp; done) | (simp [*]; done), by repeat (first | exact Drawn0.refl _ | apply Drawn0.step)⟩

/-! ### parser_isIdentifier: function 12 -/
def parser_isIdentifier.f (a0 : Int) : Option (Bool) := (parser_isIdentifierFirst.f a0).bind fun t103 => (if t103 = true then (some true) else ((parser_isNumber.f a0).bind fun t104 => (some t104)))
set_option maxHeartbeats 8000000 in
set_option maxRecDepth 100000 in
theorem parser_isIdentifier.calls (a0 : Int) (r : Bool) (w : World) (h : parser_isIdentifier.f a0 = some r) :
    Calls Try.prog 12 #[.int .i32 a0] w fun e w' => e = .returned (.bool r) ∧ Drawn0 w w' := by
  have H : ((parser_isIdentifierFirst.f a0).bind fun t103 => (if t103 = true then (some true) else ((parser_isNumber.f a0).bind fun t104 => (some t104)))) = some r := h
  clear h
  replace H := Option.bind_eq_some_iff.mp H
  obtain ⟨t103, A20, H⟩ := H
  replace H : (if t103 = true then (some true) else ((parser_isNumber.f a0).bind fun t104 => (some t104))) = some r := H
  have A2 := Aside0.mk A20
  clear A20
  by_cases c3 : t103 = true
  · subst c3
    have H1 : (some true) = some r := by rw [if_pos rfl] at H; exact H
    clear H
    have H := H1
    clear H1
    obtain rfl := Option.some.inj H
    go_enter Try.func12, Try.ntmps12
    go_wp2_with (first | ((with_reducible refine gate_callee (f := 11) rfl ?_); refine goesL_ (some 4) rfl rfl Try.func11 (by kernel_rfl) rfl #[.int .i32 a0] rfl (by (try simp only [List.map_toArray, List.map_cons, List.map_nil]); first | done | rfl | (simp only [List.length_drop, List.length_take]; rfl)) ?_; (with_reducible refine (parser_isIdentifierFirst.calls a0 true _ A2.out).mono ?_); rintro e w' ⟨rfl, ⟨nd, rfl⟩⟩; refine ⟨_, rfl, ?_⟩))
    go_ret
    exact ⟨by first | rfl | (simp; done) | (simp [*]; done), by repeat (first | exact Drawn0.refl _ | apply Drawn0.step)⟩
  · replace c3 := Bool.eq_false_iff.mpr c3
    subst c3
    have H1 : ((parser_isNumber.f a0).bind fun t104 => (some t104)) = some r := by rw [if_neg (show ¬ (false = true) by decide)] at H; exact H
    clear H
    have H := H1
    clear H1
    replace H := Option.bind_eq_some_iff.mp H
    obtain ⟨t104, A40, H⟩ := H
    replace H : (some t104) = some r := H
    have A4 := Aside0.mk A40
    clear A40
    obtain rfl := Option.some.inj H
    go_enter Try.func12, Try.ntmps12
    go_wp2_with (first | ((with_reducible refine gate_callee (f := 11) rfl ?_); refine goesL_ (some 4) rfl rfl Try.func11 (by kernel_rfl) rfl #[.int .i32 a0] rfl (by (try simp only [List.map_toArray, List.map_cons, List.map_nil]); first | done | rfl | (simp only [List.length_drop, List.length_take]; rfl)) ?_; (with_reducible refine (parser_isIdentifierFirst.calls a0 false _ A2.out).mono ?_); rintro e w' ⟨rfl, ⟨nd, rfl⟩⟩; refine ⟨_, rfl, ?_⟩) | (go_at_call 16; (with_reducible refine (parser_isNumber.calls a0 t104 _ A4.out).mono ?_); rintro e w' ⟨rfl, ⟨nd, rfl⟩⟩))
    go_ret
    exact ⟨by first | rfl | (simp; done) | (simp [*]; done), by repeat (first | exact Drawn0.refl _ | apply Drawn0.step)⟩

/-! ### parser_getTokenKindFromID: function 13 -/
def parser_getTokenKindFromID.f (a0 : ByteArray) : Option (Int) := if a0.toList = ([97, 115, 115, 101, 114, 116] : List UInt8) then (some 18) else (if a0.toList = ([101, 108, 115, 101] : List UInt8) then (some 19) else (if a0.toList = ([101, 114, 114, 111, 114] : List UInt8) then (some 20) else (if a0.toList = ([102, 97, 108, 115, 101] : List UInt8) then (some 21) else (if a0.toList = ([102, 111, 114] : List UInt8) then (some 22) else (if a0.toList = ([102, 117, 110, 99, 116, 105, 111, 110] : List UInt8) then (some 23) else (if a0.toList = ([105, 102] : List UInt8) then (some 24) else (if a0.toList = ([105, 109, 112, 111, 114, 116] : List UInt8) then (some 25) else (if a0.toList = ([105, 109, 112, 111, 114, 116, 115, 116, 114] : List UInt8) then (some 26) else (if a0.toList = ([105, 109, 112, 111, 114, 116, 98, 105, 110] : List UInt8) then (some 27) else (if a0.toList = ([105, 110] : List UInt8) then (some 28) else (if a0.toList = ([108, 111, 99, 97, 108] : List UInt8) then (some 29) else (if a0.toList = ([110, 117, 108, 108] : List UInt8) then (some 30) else (if a0.toList = ([115, 101, 108, 102] : List UInt8) then (some 31) else (if a0.toList = ([115, 117, 112, 101, 114] : List UInt8) then (some 32) else (if a0.toList = ([116, 97, 105, 108, 115, 116, 114, 105, 99, 116] : List UInt8) then (some 33) else (if a0.toList = ([116, 104, 101, 110] : List UInt8) then (some 34) else (if a0.toList = ([116, 114, 117, 101] : List UInt8) then (some 35) else (some 10))))))))))))))))))
set_option maxHeartbeats 8000000 in
set_option maxRecDepth 100000 in
theorem parser_getTokenKindFromID.calls (a0 : ByteArray) (r : Int) (w : World) (h : parser_getTokenKindFromID.f a0 = some r) :
    Calls Try.prog 13 #[.string a0] w fun e w' => e = .returned (.int .i64 r) ∧ Drawn0 w w' := by
  have H : (if a0.toList = ([97, 115, 115, 101, 114, 116] : List UInt8) then (some 18) else (if a0.toList = ([101, 108, 115, 101] : List UInt8) then (some 19) else (if a0.toList = ([101, 114, 114, 111, 114] : List UInt8) then (some 20) else (if a0.toList = ([102, 97, 108, 115, 101] : List UInt8) then (some 21) else (if a0.toList = ([102, 111, 114] : List UInt8) then (some 22) else (if a0.toList = ([102, 117, 110, 99, 116, 105, 111, 110] : List UInt8) then (some 23) else (if a0.toList = ([105, 102] : List UInt8) then (some 24) else (if a0.toList = ([105, 109, 112, 111, 114, 116] : List UInt8) then (some 25) else (if a0.toList = ([105, 109, 112, 111, 114, 116, 115, 116, 114] : List UInt8) then (some 26) else (if a0.toList = ([105, 109, 112, 111, 114, 116, 98, 105, 110] : List UInt8) then (some 27) else (if a0.toList = ([105, 110] : List UInt8) then (some 28) else (if a0.toList = ([108, 111, 99, 97, 108] : List UInt8) then (some 29) else (if a0.toList = ([110, 117, 108, 108] : List UInt8) then (some 30) else (if a0.toList = ([115, 101, 108, 102] : List UInt8) then (some 31) else (if a0.toList = ([115, 117, 112, 101, 114] : List UInt8) then (some 32) else (if a0.toList = ([116, 97, 105, 108, 115, 116, 114, 105, 99, 116] : List UInt8) then (some 33) else (if a0.toList = ([116, 104, 101, 110] : List UInt8) then (some 34) else (if a0.toList = ([116, 114, 117, 101] : List UInt8) then (some 35) else (some 10))))))))))))))))))) = some r := h
  clear h
  by_cases c2 : a0.toList = ([97, 115, 115, 101, 114, 116] : List UInt8)
  · rw [if_pos c2] at H
    have c2b0 : (a0.toList == ([97, 115, 115, 101, 114, 116] : List UInt8)) = true := beq_iff_eq.mpr c2
    have c2b1 : (a0.toList != ([97, 115, 115, 101, 114, 116] : List UInt8)) = false := bne_eq_false_iff_eq.mpr c2
    clear c2
    obtain rfl := Option.some.inj H
    go_enter Try.func13, Try.ntmps13
    go_wp2
    go_ret
    exact ⟨by first | rfl | (simp; done) | (simp [*]; done), by repeat (first | exact Drawn0.refl _ | apply Drawn0.step)⟩
  · rw [if_neg c2] at H
    have c2b0 : (a0.toList == ([97, 115, 115, 101, 114, 116] : List UInt8)) = false := beq_eq_false_iff_ne.mpr c2
    have c2b1 : (a0.toList != ([97, 115, 115, 101, 114, 116] : List UInt8)) = true := bne_iff_ne.mpr c2
    by_cases c3 : a0.toList = ([101, 108, 115, 101] : List UInt8)
    · rw [if_pos c3] at H
      have c3b0 : (a0.toList == ([101, 108, 115, 101] : List UInt8)) = true := beq_iff_eq.mpr c3
      have c3b1 : (a0.toList != ([101, 108, 115, 101] : List UInt8)) = false := bne_eq_false_iff_eq.mpr c3
      clear c3
      obtain rfl := Option.some.inj H
      go_enter Try.func13, Try.ntmps13
      go_wp2
      go_ret
      exact ⟨by first | rfl | (simp; done) | (simp [*]; done), by repeat (first | exact Drawn0.refl _ | apply Drawn0.step)⟩
    · rw [if_neg c3] at H
      have c3b0 : (a0.toList == ([101, 108, 115, 101] : List UInt8)) = false := beq_eq_false_iff_ne.mpr c3
      have c3b1 : (a0.toList != ([101, 108, 115, 101] : List UInt8)) = true := bne_iff_ne.mpr c3
      by_cases c4 : a0.toList = ([101, 114, 114, 111, 114] : List UInt8)
      · rw [if_pos c4] at H
        have c4b0 : (a0.toList == ([101, 114, 114, 111, 114] : List UInt8)) = true := beq_iff_eq.mpr c4
        have c4b1 : (a0.toList != ([101, 114, 114, 111, 114] : List UInt8)) = false := bne_eq_false_iff_eq.mpr c4
        clear c4
        obtain rfl := Option.some.inj H
        go_enter Try.func13, Try.ntmps13
        go_wp2
        go_ret
        exact ⟨by first | rfl | (simp; done) | (simp [*]; done), by repeat (first | exact Drawn0.refl _ | apply Drawn0.step)⟩
      · rw [if_neg c4] at H
        have c4b0 : (a0.toList == ([101, 114, 114, 111, 114] : List UInt8)) = false := beq_eq_false_iff_ne.mpr c4
        have c4b1 : (a0.toList != ([101, 114, 114, 111, 114] : List UInt8)) = true := bne_iff_ne.mpr c4
        by_cases c5 : a0.toList = ([102, 97, 108, 115, 101] : List UInt8)
        · rw [if_pos c5] at H
          have c5b0 : (a0.toList == ([102, 97, 108, 115, 101] : List UInt8)) = true := beq_iff_eq.mpr c5
          have c5b1 : (a0.toList != ([102, 97, 108, 115, 101] : List UInt8)) = false := bne_eq_false_iff_eq.mpr c5
          clear c5
          obtain rfl := Option.some.inj H
          go_enter Try.func13, Try.ntmps13
          go_wp2
          go_ret
          exact ⟨by first | rfl | (simp; done) | (simp [*]; done), by repeat (first | exact Drawn0.refl _ | apply Drawn0.step)⟩
        · rw [if_neg c5] at H
          have c5b0 : (a0.toList == ([102, 97, 108, 115, 101] : List UInt8)) = false := beq_eq_false_iff_ne.mpr c5
          have c5b1 : (a0.toList != ([102, 97, 108, 115, 101] : List UInt8)) = true := bne_iff_ne.mpr c5
          by_cases c6 : a0.toList = ([102, 111, 114] : List UInt8)
          · rw [if_pos c6] at H
            have c6b0 : (a0.toList == ([102, 111, 114] : List UInt8)) = true := beq_iff_eq.mpr c6
            have c6b1 : (a0.toList != ([102, 111, 114] : List UInt8)) = false := bne_eq_false_iff_eq.mpr c6
            clear c6
            obtain rfl := Option.some.inj H
            go_enter Try.func13, Try.ntmps13
            go_wp2
            go_ret
            exact ⟨by first | rfl | (simp; done) | (simp [*]; done), by repeat (first | exact Drawn0.refl _ | apply Drawn0.step)⟩
          · rw [if_neg c6] at H
            have c6b0 : (a0.toList == ([102, 111, 114] : List UInt8)) = false := beq_eq_false_iff_ne.mpr c6
            have c6b1 : (a0.toList != ([102, 111, 114] : List UInt8)) = true := bne_iff_ne.mpr c6
            by_cases c7 : a0.toList = ([102, 117, 110, 99, 116, 105, 111, 110] : List UInt8)
            · rw [if_pos c7] at H
              have c7b0 : (a0.toList == ([102, 117, 110, 99, 116, 105, 111, 110] : List UInt8)) = true := beq_iff_eq.mpr c7
              have c7b1 : (a0.toList != ([102, 117, 110, 99, 116, 105, 111, 110] : List UInt8)) = false := bne_eq_false_iff_eq.mpr c7
              clear c7
              obtain rfl := Option.some.inj H
              go_enter Try.func13, Try.ntmps13
              go_wp2
              go_ret
              exact ⟨by first | rfl | (simp; done) | (simp [*]; done), by repeat (first | exact Drawn0.refl _ | apply Drawn0.step)⟩
            · rw [if_neg c7] at H
              have c7b0 : (a0.toList == ([102, 117, 110, 99, 116, 105, 111, 110] : List UInt8)) = false := beq_eq_false_iff_ne.mpr c7
              have c7b1 : (a0.toList != ([102, 117, 110, 99, 116, 105, 111, 110] : List UInt8)) = true := bne_iff_ne.mpr c7
              by_cases c8 : a0.toList = ([105, 102] : List UInt8)
              · rw [if_pos c8] at H
                have c8b0 : (a0.toList == ([105, 102] : List UInt8)) = true := beq_iff_eq.mpr c8
                have c8b1 : (a0.toList != ([105, 102] : List UInt8)) = false := bne_eq_false_iff_eq.mpr c8
                clear c8
                obtain rfl := Option.some.inj H
                go_enter Try.func13, Try.ntmps13
                go_wp2
                go_ret
                exact ⟨by first | rfl | (simp; done) | (simp [*]; done), by repeat (first | exact Drawn0.refl _ | apply Drawn0.step)⟩
              · rw [if_neg c8] at H
                have c8b0 : (a0.toList == ([105, 102] : List UInt8)) = false := beq_eq_false_iff_ne.mpr c8
                have c8b1 : (a0.toList != ([105, 102] : List UInt8)) = true := bne_iff_ne.mpr c8
                by_cases c9 : a0.toList = ([105, 109, 112, 111, 114, 116] : List UInt8)
                · rw [if_pos c9] at H
                  have c9b0 : (a0.toList == ([105, 109, 112, 111, 114, 116] : List UInt8)) = true := beq_iff_eq.mpr c9
                  have c9b1 : (a0.toList != ([105, 109, 112, 111, 114, 116] : List UInt8)) = false := bne_eq_false_iff_eq.mpr c9
                  clear c9
                  obtain rfl := Option.some.inj H
                  go_enter Try.func13, Try.ntmps13
                  go_wp2
                  go_ret
                  exact ⟨by first | rfl | (simp; done) | (simp [*]; done), by repeat (first | exact Drawn0.refl _ | apply Drawn0.step)⟩
                · rw [if_neg c9] at H
                  have c9b0 : (a0.toList == ([105, 109, 112, 111, 114, 116] : List UInt8)) = false := beq_eq_false_iff_ne.mpr c9
                  have c9b1 : (a0.toList != ([105, 109, 112, 111, 114, 116] : List UInt8)) = true := bne_iff_ne.mpr c9
                  by_cases c10 : a0.toList = ([105, 109, 112, 111, 114, 116, 115, 116, 114] : List UInt8)
                  · rw [if_pos c10] at H
                    have c10b0 : (a0.toList == ([105, 109, 112, 111, 114, 116, 115, 116, 114] : List UInt8)) = true := beq_iff_eq.mpr c10
                    have c10b1 : (a0.toList != ([105, 109, 112, 111, 114, 116, 115, 116, 114] : List UInt8)) = false := bne_eq_false_iff_eq.mpr c10
                    clear c10
                    obtain rfl := Option.some.inj H
                    go_enter Try.func13, Try.ntmps13
                    go_wp2
                    go_ret
                    exact ⟨by first | rfl | (simp; done) | (simp [*]; done), by repeat (first | exact Drawn0.refl _ | apply Drawn0.step)⟩
                  · rw [if_neg c10] at H
                    have c10b0 : (a0.toList == ([105, 109, 112, 111, 114, 116, 115, 116, 114] : List UInt8)) = false := beq_eq_false_iff_ne.mpr c10
                    have c10b1 : (a0.toList != ([105, 109, 112, 111, 114, 116, 115, 116, 114] : List UInt8)) = true := bne_iff_ne.mpr c10
                    by_cases c11 : a0.toList = ([105, 109, 112, 111, 114, 116, 98, 105, 110] : List UInt8)
                    · rw [if_pos c11] at H
                      have c11b0 : (a0.toList == ([105, 109, 112, 111, 114, 116, 98, 105, 110] : List UInt8)) = true := beq_iff_eq.mpr c11
                      have c11b1 : (a0.toList != ([105, 109, 112, 111, 114, 116, 98, 105, 110] : List UInt8)) = false := bne_eq_false_iff_eq.mpr c11
                      clear c11
                      obtain rfl := Option.some.inj H
                      go_enter Try.func13, Try.ntmps13
                      go_wp2
                      go_ret
                      exact ⟨by first | rfl | (simp; done) | (simp [*]; done), by repeat (first | exact Drawn0.refl _ | apply Drawn0.step)⟩
                    · rw [if_neg c11] at H
                      have c11b0 : (a0.toList == ([105, 109, 112, 111, 114, 116, 98, 105, 110] : List UInt8)) = false := beq_eq_false_iff_ne.mpr c11
                      have c11b1 : (a0.toList != ([105, 109, 112, 111, 114, 116, 98, 105, 110] : List UInt8)) = true := bne_iff_ne.mpr c11
                      by_cases c12 : a0.toList = ([105, 110] : List UInt8)
                      · rw [if_pos c12] at H
                        have c12b0 : (a0.toList == ([105, 110] : List UInt8)) = true := beq_iff_eq.mpr c12
                        have c12b1 : (a0.toList != ([105, 110] : List UInt8)) = false := bne_eq_false_iff_eq.mpr c12
                        clear c12
                        obtain rfl := Option.some.inj H
                        go_enter Try.func13, Try.ntmps13
                        go_wp2
                        go_ret
                        exact ⟨by first | rfl | (simp; done) | (simp [*]; done), by repeat (first | exact Drawn0.refl _ | apply Drawn0.step)⟩
                      · rw [if_neg c12] at H
                        have c12b0 : (a0.toList == ([105, 110] : List UInt8)) = false := beq_eq_false_iff_ne.mpr c12
                        have c12b1 : (a0.toList != ([105, 110] : List UInt8)) = true := bne_iff_ne.mpr c12
                        by_cases c13 : a0.toList = ([108, 111, 99, 97, 108] : List UInt8)
                        · rw [if_pos c13] at H
                          have c13b0 : (a0.toList == ([108, 111, 99, 97, 108] : List UInt8)) = true := beq_iff_eq.mpr c13
                          have c13b1 : (a0.toList != ([108, 111, 99, 97, 108] : List UInt8)) = false := bne_eq_false_iff_eq.mpr c13
                          clear c13
                          obtain rfl := Option.some.inj H
                          go_enter Try.func13, Try.ntmps13
                          go_wp2
                          go_ret
                          exact ⟨by first | rfl | (simp; done) | (simp [*]; done), by repeat (first | exact Drawn0.refl _ | apply Drawn0.step)⟩
                        · rw [if_neg c13] at H
                          have c13b0 : (a0.toList == ([108, 111, 99, 97, 108] : List UInt8)) = false := beq_eq_false_iff_ne.mpr c13
                          have c13b1 : (a0.toList != ([108, 111, 99, 97, 108] : List UInt8)) = true := bne_iff_ne.mpr c13
                          by_cases c14 : a0.toList = ([110, 117, 108, 108] : List UInt8)
                          · rw [if_pos c14] at H
                            have c14b0 : (a0.toList == ([110, 117, 108, 108] : List UInt8)) = true := beq_iff_eq.mpr c14
                            have c14b1 : (a0.toList != ([110, 117, 108, 108] : List UInt8)) = false := bne_eq_false_iff_eq.mpr c14
                            clear c14
                            obtain rfl := Option.some.inj H
                            go_enter Try.func13, Try.ntmps13
                            go_wp2
                            go_ret
                            exact ⟨by first | rfl | (simp; done) | (simp [*]; done), by repeat (first | exact Drawn0.refl _ | apply Drawn0.step)⟩
                          · rw [if_neg c14] at H
                            have c14b0 : (a0.toList == ([110, 117, 108, 108] : List UInt8)) = false := beq_eq_false_iff_ne.mpr c14
                            have c14b1 : (a0.toList != ([110, 117, 108, 108] : List UInt8)) = true := bne_iff_ne.mpr c14
                            by_cases c15 : a0.toList = ([115, 101, 108, 102] : List UInt8)
                            · rw [if_pos c15] at H
                              have c15b0 : (a0.toList == ([115, 101, 108, 102] : List UInt8)) = true := beq_iff_eq.mpr c15
                              have c15b1 : (a0.toList != ([115, 101, 108, 102] : List UInt8)) = false := bne_eq_false_iff_eq.mpr c15
                              clear c15
                              obtain rfl := Option.some.inj H
                              go_enter Try.func13, Try.ntmps13
                              go_wp2
                              go_ret
                              exact ⟨by first | rfl | (simp; done) | (simp [*]; done), by repeat (first | exact Drawn0.refl _ | apply Drawn0.step)⟩
                            · rw [if_neg c15] at H
                              have c15b0 : (a0.toList == ([115, 101, 108, 102] : List UInt8)) = false := beq_eq_false_iff_ne.mpr c15
                              have c15b1 : (a0.toList != ([115, 101, 108, 102] : List UInt8)) = true := bne_iff_ne.mpr c15
                              by_cases c16 : a0.toList = ([115, 117, 112, 101, 114] : List UInt8)
                              · rw [if_pos c16] at H
                                have c16b0 : (a0.toList == ([115, 117, 112, 101, 114] : List UInt8)) = true := beq_iff_eq.mpr c16
                                have c16b1 : (a0.toList != ([115, 117, 112, 101, 114] : List UInt8)) = false := bne_eq_false_iff_eq.mpr c16
                                clear c16
                                obtain rfl := Option.some.inj H
                                go_enter Try.func13, Try.ntmps13
                                go_wp2
                                go_ret
                                exact ⟨by first | rfl | (simp; done) | (simp [*]; done), by repeat (first | exact Drawn0.refl _ | apply Drawn0.step)⟩
                              · rw [if_neg c16] at H
                                have c16b0 : (a0.toList == ([115, 117, 112, 101, 114] : List UInt8)) = false := beq_eq_false_iff_ne.mpr c16
                                have c16b1 : (a0.toList != ([115, 117, 112, 101, 114] : List UInt8)) = true := bne_iff_ne.mpr c16
                                by_cases c17 : a0.toList = ([116, 97, 105, 108, 115, 116, 114, 105, 99, 116] : List UInt8)
                                · rw [if_pos c17] at H
                                  have c17b0 : (a0.toList == ([116, 97, 105, 108, 115, 116, 114, 105, 99, 116] : List UInt8)) = true := beq_iff_eq.mpr c17
                                  have c17b1 : (a0.toList != ([116, 97, 105, 108, 115, 116, 114, 105, 99, 116] : List UInt8)) = false := bne_eq_false_iff_eq.mpr c17
                                  clear c17
                                  obtain rfl := Option.some.inj H
                                  go_enter Try.func13, Try.ntmps13
                                  go_wp2
                                  go_ret
                                  exact ⟨by first | rfl | (simp; done) | (simp [*]; done), by repeat (first | exact Drawn0.refl _ | apply Drawn0.step)⟩
                                · rw [if_neg c17] at H
                                  have c17b0 : (a0.toList == ([116, 97, 105, 108, 115, 116, 114, 105, 99, 116] : List UInt8)) = false := beq_eq_false_iff_ne.mpr c17
                                  have c17b1 : (a0.toList != ([116, 97, 105, 108, 115, 116, 114, 105, 99, 116] : List UInt8)) = true := bne_iff_ne.mpr c17
                                  by_cases c18 : a0.toList = ([116, 104, 101, 110] : List UInt8)
                                  · rw [if_pos c18] at H
                                    have c18b0 : (a0.toList == ([116, 104, 101, 110] : List UInt8)) = true := beq_iff_eq.mpr c18
                                    have c18b1 : (a0.toList != ([116, 104, 101, 110] : List UInt8)) = false := bne_eq_false_iff_eq.mpr c18
                                    clear c18
                                    obtain rfl := Option.some.inj H
                                    go_enter Try.func13, Try.ntmps13
                                    go_wp2
                                    go_ret
                                    exact ⟨by first | rfl | (simp; done) | (simp [*]; done), by repeat (first | exact Drawn0.refl _ | apply Drawn0.step)⟩
                                  · rw [if_neg c18] at H
                                    have c18b0 : (a0.toList == ([116, 104, 101, 110] : List UInt8)) = false := beq_eq_false_iff_ne.mpr c18
                                    have c18b1 : (a0.toList != ([116, 104, 101, 110] : List UInt8)) = true := bne_iff_ne.mpr c18
                                    by_cases c19 : a0.toList = ([116, 114, 117, 101] : List UInt8)
                                    · rw [if_pos c19] at H
                                      have c19b0 : (a0.toList == ([116, 114, 117, 101] : List UInt8)) = true := beq_iff_eq.mpr c19
                                      have c19b1 : (a0.toList != ([116, 114, 117, 101] : List UInt8)) = false := bne_eq_false_iff_eq.mpr c19
                                      clear c19
                                      obtain rfl := Option.some.inj H
                                      go_enter Try.func13, Try.ntmps13
                                      go_wp2
                                      go_ret
                                      exact ⟨by first | rfl | (simp; done) | (simp [*]; done), by repeat (first | exact Drawn0.refl _ | apply Drawn0.step)⟩
                                    · rw [if_neg c19] at H
                                      have c19b0 : (a0.toList == ([116, 114, 117, 101] : List UInt8)) = false := beq_eq_false_iff_ne.mpr c19
                                      have c19b1 : (a0.toList != ([116, 114, 117, 101] : List UInt8)) = true := bne_iff_ne.mpr c19
                                      obtain rfl := Option.some.inj H
                                      go_enter Try.func13, Try.ntmps13
                                      go_wp2
                                      go_ret
                                      exact ⟨by first | rfl | (simp; done) | (simp [*]; done), by repeat (first | exact Drawn0.refl _ | apply Drawn0.step)⟩

-- NOT PRINTED: function 6 (parser_IsValidIdentifier)

-- NOT PRINTED: function 4 (impl_IsName)

/-! ### spec_letter: function 7 -/
def spec_letter.f (a0 : Int) : Option (Bool) := if a0 = 95 then (some true) else (if a0 ≥ 97 then (if a0 ≤ 122 then (some true) else (if a0 ≥ 65 then (some (decide (a0 ≤ 90))) else (some false))) else (if a0 ≥ 65 then (some (decide (a0 ≤ 90))) else (some false)))
set_option maxHeartbeats 8000000 in
set_option maxRecDepth 100000 in
theorem spec_letter.calls (a0 : Int) (r : Bool) (w : World) (h : spec_letter.f a0 = some r) :
    Calls Try.prog 7 #[.int .u8 a0] w fun e w' => e = .returned (.bool r) ∧ Drawn0 w w' := by
  have H : (if a0 = 95 then (some true) else (if a0 ≥ 97 then (if a0 ≤ 122 then (some true) else (if a0 ≥ 65 then (some (decide (a0 ≤ 90))) else (some false))) else (if a0 ≥ 65 then (some (decide (a0 ≤ 90))) else (some false)))) = some r := h
  clear h
  by_cases c2 : a0 = 95
  · rw [if_pos c2] at H
    have c2b0 : (a0 == 95) = true := beq_iff_eq.mpr c2
    have c2b1 : (a0 != 95) = false := bne_eq_false_iff_eq.mpr c2
    clear c2
    obtain rfl := Option.some.inj H
    go_enter Try.func7, Try.ntmps7
    go_wp2
    go_ret
    exact ⟨by first | rfl | (simp; done) | (simp [*]; done), by repeat (first | exact Drawn0.refl _ | apply Drawn0.step)⟩
  · rw [if_neg c2] at H
    have c2b0 : (a0 == 95) = false := beq_eq_false_iff_ne.mpr c2
    have c2b1 : (a0 != 95) = true := bne_iff_ne.mpr c2
    by_cases c3 : a0 ≥ 97
    · rw [if_pos c3] at H
      have c3b0 : decide (97 ≤ a0) = true := decide_eq_true c3
      clear c3
      by_cases c4 : a0 ≤ 122
      · rw [if_pos c4] at H
        have c4b0 : decide (a0 ≤ 122) = true := decide_eq_true c4
        clear c4
        obtain rfl := Option.some.inj H
        go_enter Try.func7, Try.ntmps7
        go_wp2
        go_ret
        exact ⟨by first | rfl | (simp; done) | (simp [*]; done), by repeat (first | exact Drawn0.refl _ | apply Drawn0.step)⟩
      · rw [if_neg c4] at H
        have c4b0 : decide (a0 ≤ 122) = false := decide_eq_false c4
        clear c4
        by_cases c5 : a0 ≥ 65
        · rw [if_pos c5] at H
          have c5b0 : decide (65 ≤ a0) = true := decide_eq_true c5
          clear c5
          obtain rfl := Option.some.inj H
          go_enter Try.func7, Try.ntmps7
          go_wp2
          go_ret
          exact ⟨by first | rfl | (simp; done) | (simp [*]; done), by repeat (first | exact Drawn0.refl _ | apply Drawn0.step)⟩
        · rw [if_neg c5] at H
          have c5b0 : decide (65 ≤ a0) = false := decide_eq_false c5
          clear c5
          obtain rfl := Option.some.inj H
          go_enter Try.func7, Try.ntmps7
          go_wp2
          go_ret
          exact ⟨by first | rfl | (simp; done) | (simp [*]; done), by repeat (first | exact Drawn0.refl _ | apply Drawn0.step)⟩
    · rw [if_neg c3] at H
      have c3b0 : decide (97 ≤ a0) = false := decide_eq_false c3
      clear c3
      by_cases c6 : a0 ≥ 65
      · rw [if_pos c6] at H
        have c6b0 : decide (65 ≤ a0) = true := decide_eq_true c6
        clear c6
        obtain rfl := Option.some.inj H
        go_enter Try.func7, Try.ntmps7
        go_wp2
        go_ret
        exact ⟨by first | rfl | (simp; done) | (simp [*]; done), by repeat (first | exact Drawn0.refl _ | apply Drawn0.step)⟩
      · rw [if_neg c6] at H
        have c6b0 : decide (65 ≤ a0) = false := decide_eq_false c6
        clear c6
        obtain rfl := Option.some.inj H
        go_enter Try.func7, Try.ntmps7
        go_wp2
        go_ret
        exact ⟨by first | rfl | (simp; done) | (simp [*]; done), by repeat (first | exact Drawn0.refl _ | apply Drawn0.step)⟩

/-! ### spec_digit: function 8 -/
def spec_digit.f (a0 : Int) : Option (Bool) := if a0 ≥ 48 then (some (decide (a0 ≤ 57))) else (some false)
set_option maxHeartbeats 8000000 in
set_option maxRecDepth 100000 in
theorem spec_digit.calls (a0 : Int) (r : Bool) (w : World) (h : spec_digit.f a0 = some r) :
    Calls Try.prog 8 #[.int .u8 a0] w fun e w' => e = .returned (.bool r) ∧ Drawn0 w w' := by
  have H : (if a0 ≥ 48 then (some (decide (a0 ≤ 57))) else (some false)) = some r := h
  clear h
  by_cases c2 : a0 ≥ 48
  · rw [if_pos c2] at H
    have c2b0 : decide (48 ≤ a0) = true := decide_eq_true c2
    clear c2
    obtain rfl := Option.some.inj H
    go_enter Try.func8, Try.ntmps8
    go_wp2
    go_ret
    exact ⟨by first | rfl | (simp; done) | (simp [*]; done), by repeat (first | exact Drawn0.refl _ | apply Drawn0.step)⟩
  · rw [if_neg c2] at H
    have c2b0 : decide (48 ≤ a0) = false := decide_eq_false c2
    clear c2
    obtain rfl := Option.some.inj H
    go_enter Try.func8, Try.ntmps8
    go_wp2
    go_ret
    exact ⟨by first | rfl | (simp; done) | (simp [*]; done), by repeat (first | exact Drawn0.refl _ | apply Drawn0.step)⟩

/-! ### spec_has: function 9 -/
def spec_has.l0 : Nat → ByteArray → List ByteArray → Int → Int → Option (Bool)
  | 0, _, _, _, _ => none
  | k + 1, x1, x7, x8, x9 => if x9 < x8 then (if 0 ≤ x9 then (if x9 < (x7.length : Int) then (if (rdOf ByteArray.empty x7 x9).toList = x1.toList then (some true) else (spec_has.l0 k x1 x7 x8 (wrap64 (x9 + 1)))) else (none)) else (none)) else (some false)
def spec_has.f (k : Nat) (l0 : List ByteArray) (a1 : ByteArray) : Option (Bool) := spec_has.l0 k a1 l0 (l0.length : Int) 0
theorem spec_has.mono_l : ∀ k, (∀ y0 y1 y2 y3, LeO (spec_has.l0 k y0 y1 y2 y3) (spec_has.l0 (k + 1) y0 y1 y2 y3))
  | 0 => fun _ _ _ _ r h => by simp [spec_has.l0] at h
  | k + 1 => by
    have ih0 := spec_has.mono_l k
    · intro y0 y1 y2 y3
      unfold spec_has.l0
      repeat' first
      | (with_reducible exact ih0 _ _ _ _)
      | (with_reducible exact LeO.refl _)
      | (with_reducible exact LeO.none _)
      | (with_reducible refine LeO.ite ?_ ?_)
      | (with_reducible refine LeO.bind ?_ (fun _ => ?_))
      | exact ih0 _ _ _ _
      | exact LeO.none _
      | refine LeO.ite ?_ ?_
      | refine LeO.bind ?_ (fun _ => ?_)
theorem spec_has.mono : ∀ a0 a1 k, LeO (spec_has.f k a0 a1) (spec_has.f (k + 1) a0 a1) := by
  intro a0 a1 k
  have ih0 := spec_has.mono_l k
  unfold spec_has.f
  repeat' first
      | (with_reducible exact ih0 _ _ _ _)
      | (with_reducible exact LeO.refl _)
      | (with_reducible exact LeO.none _)
      | (with_reducible refine LeO.ite ?_ ?_)
      | (with_reducible refine LeO.bind ?_ (fun _ => ?_))
      | exact ih0 _ _ _ _
      | exact LeO.none _
      | refine LeO.ite ?_ ?_
      | refine LeO.bind ?_ (fun _ => ?_)
set_option maxHeartbeats 8000000 in
set_option maxRecDepth 100000 in
theorem spec_has.calls (k : Nat) (A0 : Option Addr) (c0 : Nat) (l0 : List ByteArray) (a1 : ByteArray) (r : Bool) (w : World) (hr0 : Kd.C Kd.string w A0 l0.length l0) (hc0 : l0.length ≤ c0) (h : spec_has.f k l0 a1 = some r) :
    Calls Try.prog 9 #[.slice A0 l0.length c0, .string a1] w fun e w' => e = .returned (.bool r) ∧ Drawn0 w w' := by
  have HR0 := Aside0.mk hr0
  have HC0 := Aside0.mk hc0
  clear hr0 hc0
  have H : (spec_has.l0 k a1 l0 (l0.length : Int) 0) = some r := h
  clear h
  have H' := Aside0.mk H
  clear H
  go_enter Try.func9, Try.ntmps9
  go_wp2
  go_loopg [9] k (fun kq v9 w' => ∃ (x9_1 : Int), v9 = .int .i64 x9_1 ∧ Aside0 (spec_has.l0 kq a1 l0 (l0.length : Int) x9_1 = some r) ∧ Aside0 (kq ≤ k) ∧ Drawn0 w w')
  case atStart => exact ⟨(0), (by first | rfl | (simp; done) | (simp [*]; done)), H', ⟨Nat.le_refl _⟩, by repeat (first | exact Drawn0.refl _ | apply Drawn0.step)⟩
  case round =>
    clear H'
    try clear p2
    obtain ⟨x9_1, rfl, HA, HK1, ⟨m1, rfl⟩⟩ := hrel
    cases gk with
    | zero => exact absurd HA.out (by simp [spec_has.l0])
    | succ k1 =>
      have H := HA.out
      clear HA
      simp only [spec_has.l0] at H
      by_cases c3 : x9_1 < (l0.length : Int)
      · rw [if_pos c3] at H
        have c3b0 : decide (x9_1 < (l0.length : Int)) = true := decide_eq_true c3
        clear c3
        by_cases c4 : 0 ≤ x9_1
        · rw [if_pos c4] at H
          have c4b0 : decide (0 ≤ x9_1) = true := decide_eq_true c4
          clear c4
          by_cases c5 : x9_1 < (l0.length : Int)
          · rw [if_pos c5] at H
            have c5b0 : decide (x9_1 < (l0.length : Int)) = true := decide_eq_true c5
            clear c5
            by_cases c6 : (rdOf ByteArray.empty l0 x9_1).toList = a1.toList
            · rw [if_pos c6] at H
              have c6b0 : ((rdOf ByteArray.empty l0 x9_1).toList == a1.toList) = true := beq_iff_eq.mpr c6
              have c6b1 : ((rdOf ByteArray.empty l0 x9_1).toList != a1.toList) = false := bne_eq_false_iff_eq.mpr c6
              clear c6
              obtain rfl := Option.some.inj H
              have p105 : 0 ≤ (x9_1 : Int) := of_decide_eq_true (by first | (with_reducible assumption) | assumption)
              have q105 : x9_1 < (l0.length : Int) := of_decide_eq_true (by first | (with_reducible assumption) | assumption)
              obtain ⟨ad105, e105, hx105_0⟩ := Kd.at_string HR0.out x9_1 p105 q105
              cases e105
              replace p105 := eq_true p105
              replace q105 := eq_true q105
              go_wp2
              go_ret
              exact ⟨by first | rfl | (simp; done) | (simp [*]; done), by repeat (first | exact Drawn0.refl _ | apply Drawn0.step)⟩
            · rw [if_neg c6] at H
              have c6b0 : ((rdOf ByteArray.empty l0 x9_1).toList == a1.toList) = false := beq_eq_false_iff_ne.mpr c6
              have c6b1 : ((rdOf ByteArray.empty l0 x9_1).toList != a1.toList) = true := bne_iff_ne.mpr c6
              have H' := Aside0.mk H
              clear H
              have p105 : 0 ≤ (x9_1 : Int) := of_decide_eq_true (by first | (with_reducible assumption) | assumption)
              have q105 : x9_1 < (l0.length : Int) := of_decide_eq_true (by first | (with_reducible assumption) | assumption)
              obtain ⟨ad105, e105, hx105_0⟩ := Kd.at_string HR0.out x9_1 p105 q105
              cases e105
              replace p105 := eq_true p105
              replace q105 := eq_true q105
              go_wp2
              go_roundg k1
              case measure => have := HK1.out; omega
              case rel => exact ⟨(wrap64 (x9_1 + 1)), (by first | rfl | (simp; done) | (simp [*]; done)), H', ⟨by have := HK1.out; omega⟩, by repeat (first | exact Drawn0.refl _ | apply Drawn0.step)⟩
          · rw [if_neg c5] at H
            exact absurd H (by simp)
        · rw [if_neg c4] at H
          exact absurd H (by simp)
      · rw [if_neg c3] at H
        have c3b0 : decide (x9_1 < (l0.length : Int)) = false := decide_eq_false c3
        clear c3
        obtain rfl := Option.some.inj H
        go_wp2
        go_ret
        exact ⟨by first | rfl | (simp; done) | (simp [*]; done), by repeat (first | exact Drawn0.refl _ | apply Drawn0.step)⟩

/-! ### spec_Keys: function 10 -/
def spec_Keys.f  : Option (List ByteArray) := some (([(⟨#[97, 115, 115, 101, 114, 116]⟩ : ByteArray), (⟨#[101, 108, 115, 101]⟩ : ByteArray), (⟨#[101, 114, 114, 111, 114]⟩ : ByteArray), (⟨#[102, 97, 108, 115, 101]⟩ : ByteArray), (⟨#[102, 111, 114]⟩ : ByteArray), (⟨#[102, 117, 110, 99, 116, 105, 111, 110]⟩ : ByteArray), (⟨#[105, 102]⟩ : ByteArray), (⟨#[105, 109, 112, 111, 114, 116]⟩ : ByteArray), (⟨#[105, 109, 112, 111, 114, 116, 115, 116, 114]⟩ : ByteArray), (⟨#[105, 109, 112, 111, 114, 116, 98, 105, 110]⟩ : ByteArray), (⟨#[105, 110]⟩ : ByteArray), (⟨#[108, 111, 99, 97, 108]⟩ : ByteArray), (⟨#[110, 117, 108, 108]⟩ : ByteArray), (⟨#[116, 97, 105, 108, 115, 116, 114, 105, 99, 116]⟩ : ByteArray), (⟨#[116, 104, 101, 110]⟩ : ByteArray), (⟨#[115, 101, 108, 102]⟩ : ByteArray), (⟨#[115, 117, 112, 101, 114]⟩ : ByteArray), (⟨#[116, 114, 117, 101]⟩ : ByteArray)] : List ByteArray))
set_option maxHeartbeats 8000000 in
set_option maxRecDepth 100000 in
theorem spec_Keys.calls  (r : List ByteArray) (w : World) (h : spec_Keys.f  = some r) :
    Calls Try.prog 10 #[] w fun e w' => ∃ v0_ : Value, e = .returned (v0_) ∧ Kd.R Kd.string 9 w' w.heap.size (fun _ => True) v0_ r ∧ Below w.heap.size w w' := by
  have HB := Aside0.mk (Below.refl w.heap.size w)
  have H : (some (([(⟨#[97, 115, 115, 101, 114, 116]⟩ : ByteArray), (⟨#[101, 108, 115, 101]⟩ : ByteArray), (⟨#[101, 114, 114, 111, 114]⟩ : ByteArray), (⟨#[102, 97, 108, 115, 101]⟩ : ByteArray), (⟨#[102, 111, 114]⟩ : ByteArray), (⟨#[102, 117, 110, 99, 116, 105, 111, 110]⟩ : ByteArray), (⟨#[105, 102]⟩ : ByteArray), (⟨#[105, 109, 112, 111, 114, 116]⟩ : ByteArray), (⟨#[105, 109, 112, 111, 114, 116, 115, 116, 114]⟩ : ByteArray), (⟨#[105, 109, 112, 111, 114, 116, 98, 105, 110]⟩ : ByteArray), (⟨#[105, 110]⟩ : ByteArray), (⟨#[108, 111, 99, 97, 108]⟩ : ByteArray), (⟨#[110, 117, 108, 108]⟩ : ByteArray), (⟨#[116, 97, 105, 108, 115, 116, 114, 105, 99, 116]⟩ : ByteArray), (⟨#[116, 104, 101, 110]⟩ : ByteArray), (⟨#[115, 101, 108, 102]⟩ : ByteArray), (⟨#[115, 117, 112, 101, 114]⟩ : ByteArray), (⟨#[116, 114, 117, 101]⟩ : ByteArray)] : List ByteArray))) = some r := h
  clear h
  obtain ⟨y106, hy106⟩ : ∃ y_ : List ByteArray, y_ = (([(⟨#[97, 115, 115, 101, 114, 116]⟩ : ByteArray), (⟨#[101, 108, 115, 101]⟩ : ByteArray), (⟨#[101, 114, 114, 111, 114]⟩ : ByteArray), (⟨#[102, 97, 108, 115, 101]⟩ : ByteArray), (⟨#[102, 111, 114]⟩ : ByteArray), (⟨#[102, 117, 110, 99, 116, 105, 111, 110]⟩ : ByteArray), (⟨#[105, 102]⟩ : ByteArray), (⟨#[105, 109, 112, 111, 114, 116]⟩ : ByteArray), (⟨#[105, 109, 112, 111, 114, 116, 115, 116, 114]⟩ : ByteArray), (⟨#[105, 109, 112, 111, 114, 116, 98, 105, 110]⟩ : ByteArray), (⟨#[105, 110]⟩ : ByteArray), (⟨#[108, 111, 99, 97, 108]⟩ : ByteArray), (⟨#[110, 117, 108, 108]⟩ : ByteArray), (⟨#[116, 97, 105, 108, 115, 116, 114, 105, 99, 116]⟩ : ByteArray), (⟨#[116, 104, 101, 110]⟩ : ByteArray), (⟨#[115, 101, 108, 102]⟩ : ByteArray), (⟨#[115, 117, 112, 101, 114]⟩ : ByteArray), (⟨#[116, 114, 117, 101]⟩ : ByteArray)] : List ByteArray)) := ⟨_, rfl⟩
  replace H : (some y106) = some r := by first | (rw [hy106]; with_reducible exact H) | (have H2_ := (Option.bind_some _ _).symm.trans H; rw [hy106]; with_reducible exact H2_) | (have H2_ := (Option.bind_some _ _).symm.trans H; with_reducible exact H2_) | with_reducible exact H | (rw [hy106]; exact H) | exact H
  have Ny106 := Aside0.mk hy106
  clear hy106
  obtain rfl := Option.some.inj H
  go_enter Try.func10, Try.ntmps10
  go_wp2_with (first | ((with_reducible refine gate_dst (N := 1) rfl ?_); refine Kd.R_lit Kd.string _ 9 ?hg (N := 1) ?hd (xs := ([(⟨#[97, 115, 115, 101, 114, 116]⟩ : ByteArray), (⟨#[101, 108, 115, 101]⟩ : ByteArray), (⟨#[101, 114, 114, 111, 114]⟩ : ByteArray), (⟨#[102, 97, 108, 115, 101]⟩ : ByteArray), (⟨#[102, 111, 114]⟩ : ByteArray), (⟨#[102, 117, 110, 99, 116, 105, 111, 110]⟩ : ByteArray), (⟨#[105, 102]⟩ : ByteArray), (⟨#[105, 109, 112, 111, 114, 116]⟩ : ByteArray), (⟨#[105, 109, 112, 111, 114, 116, 115, 116, 114]⟩ : ByteArray), (⟨#[105, 109, 112, 111, 114, 116, 98, 105, 110]⟩ : ByteArray), (⟨#[105, 110]⟩ : ByteArray), (⟨#[108, 111, 99, 97, 108]⟩ : ByteArray), (⟨#[110, 117, 108, 108]⟩ : ByteArray), (⟨#[116, 97, 105, 108, 115, 116, 114, 105, 99, 116]⟩ : ByteArray), (⟨#[116, 104, 101, 110]⟩ : ByteArray), (⟨#[115, 101, 108, 102]⟩ : ByteArray), (⟨#[115, 117, 112, 101, 114]⟩ : ByteArray), (⟨#[116, 114, 117, 101]⟩ : ByteArray)] : List ByteArray)) (inner := [.string (⟨#[97, 115, 115, 101, 114, 116]⟩ : ByteArray), .string (⟨#[101, 108, 115, 101]⟩ : ByteArray), .string (⟨#[101, 114, 114, 111, 114]⟩ : ByteArray), .string (⟨#[102, 97, 108, 115, 101]⟩ : ByteArray), .string (⟨#[102, 111, 114]⟩ : ByteArray), .string (⟨#[102, 117, 110, 99, 116, 105, 111, 110]⟩ : ByteArray), .string (⟨#[105, 102]⟩ : ByteArray), .string (⟨#[105, 109, 112, 111, 114, 116]⟩ : ByteArray), .string (⟨#[105, 109, 112, 111, 114, 116, 115, 116, 114]⟩ : ByteArray), .string (⟨#[105, 109, 112, 111, 114, 116, 98, 105, 110]⟩ : ByteArray), .string (⟨#[105, 110]⟩ : ByteArray), .string (⟨#[108, 111, 99, 97, 108]⟩ : ByteArray), .string (⟨#[110, 117, 108, 108]⟩ : ByteArray), .string (⟨#[116, 97, 105, 108, 115, 116, 114, 105, 99, 116]⟩ : ByteArray), .string (⟨#[116, 104, 101, 110]⟩ : ByteArray), .string (⟨#[115, 101, 108, 102]⟩ : ByteArray), .string (⟨#[115, 117, 112, 101, 114]⟩ : ByteArray), .string (⟨#[116, 114, 117, 101]⟩ : ByteArray)]) (ok := fun _ => True) (okp := fun _ => True) ?hr ?hp (fun _ hk => hk) trivial (Below.refl _ _) (Nat.le_refl _) (by simp) ?_; (case hd => rfl); (case hg => rfl); (case hr => first | (go_simp; done) | (go_simp; rfl)); (case hp => exact (Reps.one (show Kd.M Kd.string _ _ _ (⟨#[97, 115, 115, 101, 114, 116]⟩ : ByteArray) [.string (⟨#[97, 115, 115, 101, 114, 116]⟩ : ByteArray)] from rfl) (Reps.one (show Kd.M Kd.string _ _ _ (⟨#[101, 108, 115, 101]⟩ : ByteArray) [.string (⟨#[101, 108, 115, 101]⟩ : ByteArray)] from rfl) (Reps.one (show Kd.M Kd.string _ _ _ (⟨#[101, 114, 114, 111, 114]⟩ : ByteArray) [.string (⟨#[101, 114, 114, 111, 114]⟩ : ByteArray)] from rfl) (Reps.one (show Kd.M Kd.string _ _ _ (⟨#[102, 97, 108, 115, 101]⟩ : ByteArray) [.string (⟨#[102, 97, 108, 115, 101]⟩ : ByteArray)] from rfl) (Reps.one (show Kd.M Kd.string _ _ _ (⟨#[102, 111, 114]⟩ : ByteArray) [.string (⟨#[102, 111, 114]⟩ : ByteArray)] from rfl) (Reps.one (show Kd.M Kd.string _ _ _ (⟨#[102, 117, 110, 99, 116, 105, 111, 110]⟩ : ByteArray) [.string (⟨#[102, 117, 110, 99, 116, 105, 111, 110]⟩ : ByteArray)] from rfl) (Reps.one (show Kd.M Kd.string _ _ _ (⟨#[105, 102]⟩ : ByteArray) [.string (⟨#[105, 102]⟩ : ByteArray)] from rfl) (Reps.one (show Kd.M Kd.string _ _ _ (⟨#[105, 109, 112, 111, 114, 116]⟩ : ByteArray) [.string (⟨#[105, 109, 112, 111, 114, 116]⟩ : ByteArray)] from rfl) (Reps.one (show Kd.M Kd.string _ _ _ (⟨#[105, 109, 112, 111, 114, 116, 115, 116, 114]⟩ : ByteArray) [.string (⟨#[105, 109, 112, 111, 114, 116, 115, 116, 114]⟩ : ByteArray)] from rfl) (Reps.one (show Kd.M Kd.string _ _ _ (⟨#[105, 109, 112, 111, 114, 116, 98, 105, 110]⟩ : ByteArray) [.string (⟨#[105, 109, 112, 111, 114, 116, 98, 105, 110]⟩ : ByteArray)] from rfl) (Reps.one (show Kd.M Kd.string _ _ _ (⟨#[105, 110]⟩ : ByteArray) [.string (⟨#[105, 110]⟩ : ByteArray)] from rfl) (Reps.one (show Kd.M Kd.string _ _ _ (⟨#[108, 111, 99, 97, 108]⟩ : ByteArray) [.string (⟨#[108, 111, 99, 97, 108]⟩ : ByteArray)] from rfl) (Reps.one (show Kd.M Kd.string _ _ _ (⟨#[110, 117, 108, 108]⟩ : ByteArray) [.string (⟨#[110, 117, 108, 108]⟩ : ByteArray)] from rfl) (Reps.one (show Kd.M Kd.string _ _ _ (⟨#[116, 97, 105, 108, 115, 116, 114, 105, 99, 116]⟩ : ByteArray) [.string (⟨#[116, 97, 105, 108, 115, 116, 114, 105, 99, 116]⟩ : ByteArray)] from rfl) (Reps.one (show Kd.M Kd.string _ _ _ (⟨#[116, 104, 101, 110]⟩ : ByteArray) [.string (⟨#[116, 104, 101, 110]⟩ : ByteArray)] from rfl) (Reps.one (show Kd.M Kd.string _ _ _ (⟨#[115, 101, 108, 102]⟩ : ByteArray) [.string (⟨#[115, 101, 108, 102]⟩ : ByteArray)] from rfl) (Reps.one (show Kd.M Kd.string _ _ _ (⟨#[115, 117, 112, 101, 114]⟩ : ByteArray) [.string (⟨#[115, 117, 112, 101, 114]⟩ : ByteArray)] from rfl) (Reps.one (show Kd.M Kd.string _ _ _ (⟨#[116, 114, 117, 101]⟩ : ByteArray) [.string (⟨#[116, 114, 117, 101]⟩ : ByteArray)] from rfl) (Reps.none _ _)))))))))))))))))))); intro v107 w1 ho2 hb hg_ hnew_; clear hg_ hnew_; (first | rw [← Ny106.out] at ho2 | (simp only [Int.reduceToNat] at ho2; rw [← Ny106.out] at ho2)); have n0_ := Aside0.mk (Kd.R_lower ho2 (below_size (by repeat (first | (with_reducible first | exact HB.out | apply below_alloc | apply pw_below_drewN | apply below_drew1) | exact HB.out)))); have n1_ := Aside0.mk (below_step (by repeat (first | (with_reducible first | exact HB.out | apply below_alloc | apply pw_below_drewN | apply below_drew1) | exact HB.out)) hb); clear HB; have HO108 := n0_; have HB := n1_; clear n0_ n1_; clear hb ho2))
  go_ret
  exact ⟨_, by first | rfl | (simp [errW_none, errW_some] <;> rfl) | (simp [*, errW_none, errW_some] <;> rfl), by (with_reducible repeat (first | apply Kd.R_alloc | apply Kd.R_drewN | apply Kd.R_drew)); exact HO108.out, by repeat (first | (with_reducible first | exact HB.out | apply below_alloc | apply pw_below_drewN | apply below_drew1) | exact HB.out)⟩

/-! ### spec_IsName: function 5 -/
def spec_IsName.l0 : Nat → ByteArray → Int → Int → Option (Bool)
  | 0, _, _, _ => none
  | k + 1, x0, x5, x6 => if x6 < x5 then (if 0 ≤ x6 then (if x6 < (x0.size : Int) then ((spec_letter.f (bt x0 x6)).bind fun t113 => (if t113 = true then (spec_IsName.l0 k x0 x5 (wrap64 (x6 + 1))) else (if x6 = 0 then (some false) else ((spec_digit.f (bt x0 x6)).bind fun t114 => (if t114 = true then (spec_IsName.l0 k x0 x5 (wrap64 (x6 + 1))) else (some false)))))) else (none)) else (none)) else (if (x0.size : Int) > 0 then ((spec_Keys.f).bind fun t109 => ((spec_has.f k t109 x0).bind fun t112 => (some (!t112)))) else (some false))
def spec_IsName.f (k : Nat) (a0 : ByteArray) : Option (Bool) := spec_IsName.l0 k a0 (a0.size : Int) 0
theorem spec_IsName.mono_l : ∀ k, (∀ y0 y1 y2, LeO (spec_IsName.l0 k y0 y1 y2) (spec_IsName.l0 (k + 1) y0 y1 y2))
  | 0 => fun _ _ _ r h => by simp [spec_IsName.l0] at h
  | k + 1 => by
    have ih0 := spec_IsName.mono_l k
    · intro y0 y1 y2
      unfold spec_IsName.l0
      repeat' first
      | (with_reducible exact ih0 _ _ _)
      | (with_reducible exact spec_has.mono _ _ _)
      | (with_reducible exact LeO.refl _)
      | (with_reducible exact LeO.none _)
      | (with_reducible refine LeO.ite ?_ ?_)
      | (with_reducible refine LeO.bind ?_ (fun _ => ?_))
      | exact ih0 _ _ _
      | exact spec_has.mono _ _ _
      | exact LeO.none _
      | refine LeO.ite ?_ ?_
      | refine LeO.bind ?_ (fun _ => ?_)
theorem spec_IsName.mono : ∀ a0 k, LeO (spec_IsName.f k a0) (spec_IsName.f (k + 1) a0) := by
  intro a0 k
  have ih0 := spec_IsName.mono_l k
  unfold spec_IsName.f
  repeat' first
      | (with_reducible exact ih0 _ _ _)
      | (with_reducible exact spec_has.mono _ _ _)
      | (with_reducible exact LeO.refl _)
      | (with_reducible exact LeO.none _)
      | (with_reducible refine LeO.ite ?_ ?_)
      | (with_reducible refine LeO.bind ?_ (fun _ => ?_))
      | exact ih0 _ _ _
      | exact spec_has.mono _ _ _
      | exact LeO.none _
      | refine LeO.ite ?_ ?_
      | refine LeO.bind ?_ (fun _ => ?_)
set_option maxHeartbeats 8000000 in
set_option maxRecDepth 100000 in
theorem spec_IsName.calls (k : Nat) (a0 : ByteArray) (r : Bool) (w : World) (h : spec_IsName.f k a0 = some r) :
    Calls Try.prog 5 #[.string a0] w fun e w' => e = .returned (.bool r) ∧ Below w.heap.size w w' := by
  have HB := Aside0.mk (Below.refl w.heap.size w)
  have H : (spec_IsName.l0 k a0 (a0.size : Int) 0) = some r := h
  clear h
  have H' := Aside0.mk H
  clear H
  go_enter Try.func5, Try.ntmps5
  go_wp2
  go_loopg [6] k (fun kq v6 w' => ∃ (x6_1 : Int), v6 = .int .i64 x6_1 ∧ Aside0 (spec_IsName.l0 kq a0 (a0.size : Int) x6_1 = some r) ∧ Aside0 (kq ≤ k) ∧ Aside0 (Below w.heap.size w w'))
  case atStart => exact ⟨(0), (by first | rfl | (simp; done) | (simp [*]; done)), H', ⟨Nat.le_refl _⟩, ⟨by repeat (first | (with_reducible first | exact HB.out | apply below_alloc | apply pw_below_drewN | apply below_drew1) | exact HB.out)⟩⟩
  case round =>
    clear H'
    obtain ⟨x6_1, rfl, HA, HK1, HB⟩ := hrel
    cases gk with
    | zero => exact absurd HA.out (by simp [spec_IsName.l0])
    | succ k1 =>
      have H := HA.out
      clear HA
      simp only [spec_IsName.l0] at H
      by_cases c2 : x6_1 < (a0.size : Int)
      · rw [if_pos c2] at H
        have c2b0 : decide (x6_1 < (a0.size : Int)) = true := decide_eq_true c2
        clear c2
        by_cases c3 : 0 ≤ x6_1
        · rw [if_pos c3] at H
          have c3b0 : decide (0 ≤ x6_1) = true := decide_eq_true c3
          clear c3
          by_cases c4 : x6_1 < (a0.size : Int)
          · rw [if_pos c4] at H
            have c4b0 : decide (x6_1 < (a0.size : Int)) = true := decide_eq_true c4
            clear c4
            replace H := Option.bind_eq_some_iff.mp H
            obtain ⟨t113, A60, H⟩ := H
            replace H : (if t113 = true then (spec_IsName.l0 k1 a0 (a0.size : Int) (wrap64 (x6_1 + 1))) else (if x6_1 = 0 then (some false) else ((spec_digit.f (bt a0 x6_1)).bind fun t114 => (if t114 = true then (spec_IsName.l0 k1 a0 (a0.size : Int) (wrap64 (x6_1 + 1))) else (some false))))) = some r := H
            have A6 := Aside0.mk A60
            clear A60
            by_cases c7 : t113 = true
            · subst c7
              have H1 : (spec_IsName.l0 k1 a0 (a0.size : Int) (wrap64 (x6_1 + 1))) = some r := by rw [if_pos rfl] at H; exact H
              clear H
              have H := H1
              clear H1
              have H' := Aside0.mk H
              clear H
              have p5 : 0 ≤ (x6_1 : Int) := of_decide_eq_true (by first | (with_reducible assumption) | assumption)
              have q5 : x6_1 < (a0.size : Int) := of_decide_eq_true (by first | (with_reducible assumption) | assumption)
              have hx5 := bt_at a0 x6_1
              replace p5 := eq_true p5
              replace q5 := eq_true q5
              go_wp2_with (first | ((with_reducible refine gate_callee (f := 7) rfl ?_); refine goesL_ (some 12) rfl rfl Try.func7 (by kernel_rfl) rfl #[.int .u8 (bt a0 x6_1)] rfl (by (try simp only [List.map_toArray, List.map_cons, List.map_nil]); first | done | rfl | (simp only [List.length_drop, List.length_take]; rfl)) ?_; (with_reducible refine (spec_letter.calls (bt a0 x6_1) true _ A6.out).mono ?_); rintro e w' ⟨rfl, ⟨nd, rfl⟩⟩; refine ⟨_, rfl, ?_⟩))
              go_roundg k1
              case measure => have := HK1.out; omega
              case rel => exact ⟨(wrap64 (x6_1 + 1)), (by first | rfl | (simp; done) | (simp [*]; done)), H', ⟨by have := HK1.out; omega⟩, ⟨by repeat (first | (with_reducible first | exact HB.out | apply below_alloc | apply pw_below_drewN | apply below_drew1) | exact HB.out)⟩⟩
            · replace c7 := Bool.eq_false_iff.mpr c7
              subst c7
              have H1 : (if x6_1 = 0 then (some false) else ((spec_digit.f (bt a0 x6_1)).bind fun t114 => (if t114 = true then (spec_IsName.l0 k1 a0 (a0.size : Int) (wrap64 (x6_1 + 1))) else (some false)))) = some r := by rw [if_neg (show ¬ (false = true) by decide)] at H; exact H
              clear H
              have H := H1
              clear H1
              by_cases c8 : x6_1 = 0
              · rw [if_pos c8] at H
                have c8b0 : (x6_1 == 0) = true := beq_iff_eq.mpr c8
                have c8b1 : (x6_1 != 0) = false := bne_eq_false_iff_eq.mpr c8
                clear c8
                obtain rfl := Option.some.inj H
                have p5 : 0 ≤ (x6_1 : Int) := of_decide_eq_true (by first | (with_reducible assumption) | assumption)
                have q5 : x6_1 < (a0.size : Int) := of_decide_eq_true (by first | (with_reducible assumption) | assumption)
                have hx5 := bt_at a0 x6_1
                replace p5 := eq_true p5
                replace q5 := eq_true q5
                go_wp2_with (first | ((with_reducible refine gate_callee (f := 7) rfl ?_); refine goesL_ (some 12) rfl rfl Try.func7 (by kernel_rfl) rfl #[.int .u8 (bt a0 x6_1)] rfl (by (try simp only [List.map_toArray, List.map_cons, List.map_nil]); first | done | rfl | (simp only [List.length_drop, List.length_take]; rfl)) ?_; (with_reducible refine (spec_letter.calls (bt a0 x6_1) false _ A6.out).mono ?_); rintro e w' ⟨rfl, ⟨nd, rfl⟩⟩; refine ⟨_, rfl, ?_⟩))
                go_ret
                exact ⟨by first | rfl | (simp [errW_none, errW_some] <;> rfl) | (simp [*, errW_none, errW_some] <;> rfl), by repeat (first | (with_reducible first | exact HB.out | apply below_alloc | apply pw_below_drewN | apply below_drew1) | exact HB.out)⟩
              · rw [if_neg c8] at H
                have c8b0 : (x6_1 == 0) = false := beq_eq_false_iff_ne.mpr c8
                have c8b1 : (x6_1 != 0) = true := bne_iff_ne.mpr c8
                replace H := Option.bind_eq_some_iff.mp H
                obtain ⟨t114, A100, H⟩ := H
                replace H : (if t114 = true then (spec_IsName.l0 k1 a0 (a0.size : Int) (wrap64 (x6_1 + 1))) else (some false)) = some r := H
                have A10 := Aside0.mk A100
                clear A100
                by_cases c11 : t114 = true
                · subst c11
                  have H1 : (spec_IsName.l0 k1 a0 (a0.size : Int) (wrap64 (x6_1 + 1))) = some r := by rw [if_pos rfl] at H; exact H
                  clear H
                  have H := H1
                  clear H1
                  have H' := Aside0.mk H
                  clear H
                  have p5 : 0 ≤ (x6_1 : Int) := of_decide_eq_true (by first | (with_reducible assumption) | assumption)
                  have q5 : x6_1 < (a0.size : Int) := of_decide_eq_true (by first | (with_reducible assumption) | assumption)
                  have hx5 := bt_at a0 x6_1
                  replace p5 := eq_true p5
                  replace q5 := eq_true q5
                  go_wp2_with (first | ((with_reducible refine gate_callee (f := 7) rfl ?_); refine goesL_ (some 12) rfl rfl Try.func7 (by kernel_rfl) rfl #[.int .u8 (bt a0 x6_1)] rfl (by (try simp only [List.map_toArray, List.map_cons, List.map_nil]); first | done | rfl | (simp only [List.length_drop, List.length_take]; rfl)) ?_; (with_reducible refine (spec_letter.calls (bt a0 x6_1) false _ A6.out).mono ?_); rintro e w' ⟨rfl, ⟨nd, rfl⟩⟩; refine ⟨_, rfl, ?_⟩; have p9 : 0 ≤ (x6_1 : Int) := of_decide_eq_true (by first | (with_reducible assumption) | assumption); have q9 : x6_1 < (a0.size : Int) := of_decide_eq_true (by first | (with_reducible assumption) | assumption); have hx9 := bt_at a0 x6_1; replace p9 := eq_true p9; replace q9 := eq_true q9) | (go_at_call 8; (with_reducible refine (spec_digit.calls (bt a0 x6_1) true _ A10.out).mono ?_); rintro e w' ⟨rfl, ⟨nd, rfl⟩⟩))
                  go_roundg k1
                  case measure => have := HK1.out; omega
                  case rel => exact ⟨(wrap64 (x6_1 + 1)), (by first | rfl | (simp; done) | (simp [*]; done)), H', ⟨by have := HK1.out; omega⟩, ⟨by repeat (first | (with_reducible first | exact HB.out | apply below_alloc | apply pw_below_drewN | apply below_drew1) | exact HB.out)⟩⟩
                · replace c11 := Bool.eq_false_iff.mpr c11
                  subst c11
                  have H1 : (some false) = some r := by rw [if_neg (show ¬ (false = true) by decide)] at H; exact H
                  clear H
                  have H := H1
                  clear H1
                  obtain rfl := Option.some.inj H
                  have p5 : 0 ≤ (x6_1 : Int) := of_decide_eq_true (by first | (with_reducible assumption) | assumption)
                  have q5 : x6_1 < (a0.size : Int) := of_decide_eq_true (by first | (with_reducible assumption) | assumption)
                  have hx5 := bt_at a0 x6_1
                  replace p5 := eq_true p5
                  replace q5 := eq_true q5
                  go_wp2_with (first | ((with_reducible refine gate_callee (f := 7) rfl ?_); refine goesL_ (some 12) rfl rfl Try.func7 (by kernel_rfl) rfl #[.int .u8 (bt a0 x6_1)] rfl (by (try simp only [List.map_toArray, List.map_cons, List.map_nil]); first | done | rfl | (simp only [List.length_drop, List.length_take]; rfl)) ?_; (with_reducible refine (spec_letter.calls (bt a0 x6_1) false _ A6.out).mono ?_); rintro e w' ⟨rfl, ⟨nd, rfl⟩⟩; refine ⟨_, rfl, ?_⟩; have p9 : 0 ≤ (x6_1 : Int) := of_decide_eq_true (by first | (with_reducible assumption) | assumption); have q9 : x6_1 < (a0.size : Int) := of_decide_eq_true (by first | (with_reducible assumption) | assumption); have hx9 := bt_at a0 x6_1; replace p9 := eq_true p9; replace q9 := eq_true q9) | (go_at_call 8; (with_reducible refine (spec_digit.calls (bt a0 x6_1) false _ A10.out).mono ?_); rintro e w' ⟨rfl, ⟨nd, rfl⟩⟩))
                  go_ret
                  exact ⟨by first | rfl | (simp [errW_none, errW_some] <;> rfl) | (simp [*, errW_none, errW_some] <;> rfl), by repeat (first | (with_reducible first | exact HB.out | apply below_alloc | apply pw_below_drewN | apply below_drew1) | exact HB.out)⟩
          · rw [if_neg c4] at H
            exact absurd H (by simp)
        · rw [if_neg c3] at H
          exact absurd H (by simp)
      · rw [if_neg c2] at H
        have c2b0 : decide (x6_1 < (a0.size : Int)) = false := decide_eq_false c2
        clear c2
        by_cases c12 : (a0.size : Int) > 0
        · rw [if_pos c12] at H
          have c12b0 : decide (0 < (a0.size : Int)) = true := decide_eq_true c12
          have c12b1 : decide (0 < a0.size) = true := decide_eq_true (by omega)
          clear c12
          replace H := Option.bind_eq_some_iff.mp H
          obtain ⟨t109, A130, H⟩ := H
          replace H : ((spec_has.f k1 t109 a0).bind fun t112 => (some (!t112))) = some r := H
          have A13 := Aside0.mk A130
          clear A130
          replace H := Option.bind_eq_some_iff.mp H
          obtain ⟨t112, A140, H⟩ := H
          replace H : (some (!t112)) = some r := H
          have A14 := Aside0.mk A140
          clear A140
          obtain rfl := Option.some.inj H
          go_wp2_with (first | (go_at_call 10; (with_reducible refine (spec_Keys.calls  t109 _ A13.out).mono ?_); rintro e w15 ⟨v110, rfl, ho0, hb⟩; have n0_ := Aside0.mk (Kd.R_lower ho0 (below_size (by repeat (first | (with_reducible first | exact HB.out | apply below_alloc | apply pw_below_drewN | apply below_drew1) | exact HB.out)))); have n1_ := Aside0.mk (below_step (by repeat (first | (with_reducible first | exact HB.out | apply below_alloc | apply pw_below_drewN | apply below_drew1) | exact HB.out)) hb); clear HB; have HO111 := n0_; have HB := n1_; clear n0_ n1_; (try clear hb); (try clear hb2); (try clear hk); (try clear hi); (try clear ho0); obtain ⟨Ao16, co16, eo16⟩ := Kd.R_slice HO111.out; subst eo16) | (go_at_call 9; (with_reducible refine (spec_has.calls k1 _ _ t109 a0 t112 _ ?side1 ?side2 A14.out).mono ?_); (case side1 => repeat (first | exact (Kd.R_reads' HO111.out).2.2 | (with_reducible refine Kd.C_alloc ?_ _) | (with_reducible refine Kd.C_drewN ?_ _) | (with_reducible refine Kd.C_drew ?_))); (case side2 => exact (Kd.R_reads' HO111.out).2.1); rintro e w' ⟨rfl, ⟨nd, rfl⟩⟩))
          go_ret
          exact ⟨by first | rfl | (simp [errW_none, errW_some] <;> rfl) | (simp [*, errW_none, errW_some] <;> rfl), by repeat (first | (with_reducible first | exact HB.out | apply below_alloc | apply pw_below_drewN | apply below_drew1) | exact HB.out)⟩
        · rw [if_neg c12] at H
          have c12b0 : decide (0 < (a0.size : Int)) = false := decide_eq_false c12
          have c12b1 : decide (0 < a0.size) = false := decide_eq_false (by omega)
          clear c12
          obtain rfl := Option.some.inj H
          go_wp2
          go_ret
          exact ⟨by first | rfl | (simp [errW_none, errW_some] <;> rfl) | (simp [*, errW_none, errW_some] <;> rfl), by repeat (first | (with_reducible first | exact HB.out | apply below_alloc | apply pw_below_drewN | apply below_drew1) | exact HB.out)⟩

-- NOT PRINTED: function 3 (laws_FnIsName)

end Go.Proofs.Ytiicdalodfjgaaa.PFnIsName
