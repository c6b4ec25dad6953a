/- The law FnEscapeBack: what is escaped is read back. -/
import Derived.Test.YtiicdalodfjgaaaFmtEsB
import Derived.Test.YtiicdalodfjgaaaFmtUnF
namespace Go.Proofs.YtiicdalodfjgaaaFmt
open Go.RowKit Go.Extern.Stop Go.Stop Go.Extern

theorem esc_any (G : Interp) (single : Bool) (s : ByteArray) (w : World) (hs : s.size ≤ 2000) (hE : EnvE G.told w) :
    Calls Tryf.prog 8 #[.string s, .bool single] w fun e w' => e = .returned (.string (esc single s)) ∧ Below w.heap.size w w' := by
  have H12 := fun w h => es_any G single s w hs h
  generalize esc single s = es at H12 ⊢
  go_enter Tryf.func8, Tryf.ntmps8
  go_wp2_with fail
  refine (H12 _ hE).mono ?_
  rintro e w1 ⟨rfl, hb1⟩
  go_wp2_with fail
  go_ret
  exact ⟨rfl, hb1⟩
theorem utfL_any (s : ByteArray) (hs : s.size ≤ 20000) (w : World) : Calls Tryf.prog 7 #[.string s] w fun e w' => e = .returned (.bool (utfB s)) ∧ Below w.heap.size w w' := by
  have H9 := fun w => utf_any s hs w
  unfold UtfPost at H9
  generalize utfB s = u at H9 ⊢
  go_enter Tryf.func7, Tryf.ntmps7
  go_wp2_with fail
  refine (H9 _).mono ?_
  rintro e w1 ⟨rfl, hb1⟩
  go_wp2_with fail
  go_ret
  exact ⟨rfl, hb1⟩
theorem esc_ne (single : Bool) (s : ByteArray) (h : ¬ s.size = 0) : ((esc single s).toList == []) = false := by
  rw [beq_eq_false_iff_ne]
  intro e
  have hl := congrArg List.length e
  rw [ByteArray.toList_eq] at hl
  have h1 := escF_step single s s.size 0 (by omega)
  have h2 := (escR_len single (dr s 0)).1
  have hl' : (escF single s (s.size + 1) 0).length = 0 := hl
  rw [h1, List.length_append] at hl'
  omega
theorem str_self (s : ByteArray) : (⟨(bl s).toArray⟩ : ByteArray) = s := rfl
theorem empty_yes (s : ByteArray) (h : s.size = 0) : (s.toList == []) = true := by
  have : s.toList.length = 0 := by rw [ByteArray.toList_eq]; exact h
  rw [List.eq_nil_of_length_eq_zero this]
  rfl
theorem empty_no (s : ByteArray) (h : ¬ s.size = 0) : (s.toList == []) = false := by
  rw [beq_eq_false_iff_ne]
  intro e
  have hl := congrArg List.length e
  rw [ByteArray.toList_eq] at hl
  exact h hl
set_option maxHeartbeats 4000000 in
set_option maxRecDepth 1000000 in
theorem esLaw_any (G : Interp) (ev : Value) (s : ByteArray) (single : Bool) (w : World) (hs : s.size ≤ maxLen) (hF : G.told.answers w.tape) (hT : Lib.Utf8Tabs 0 1 w) (hE : w.cell? ⟨3, 0, none⟩ = some ev) :
    Calls Tryf.prog 4 #[.string s, .bool single] w fun e w' => e = .returned (.bool true) ∧ Below w.heap.size w w' := by
  unfold maxLen at hs
  by_cases h2 : s.size ≤ 2000
  · have HU := fun w => utfL_any s (by omega) w
    by_cases hu : utfB s = true
    · obtain ⟨k1, k2⟩ := esc_back single s hu
      have hes := esc_size single s
      have H8 := fun w h => esc_any G single s w h2 h
      have H6 := fun w a b c => impl_any G.told ev (esc single s) w (by omega) a b c
      have H5 := fun w => spec_any (esc single s) w (by omega)
      unfold ImPost at H6
      unfold SpPost at H5
      rw [k2] at H6
      rw [k1] at H5
      simp only [str_self] at H6 H5
      rw [hu] at HU
      have hne := esc_ne single s
      clear k1 k2 hu
      generalize esc single s = es at H8 H6 H5 hne hes
      go_enter Tryf.func4, Tryf.ntmps4
      go_wp2_with fail
      refine (HU _).mono ?_
      rintro e w1 ⟨rfl, hb1⟩
      have hE1 : EnvE G.told w1 := EnvE.below ⟨hF, hT⟩ hb1
      go_wp2_with fail
      refine (H8 _ hE1).mono ?_
      rintro e w2 ⟨rfl, hb2⟩
      have hbw2 : Below w.heap.size w w2 := hb1.trans (hb2.mono hb1.size)
      have hE2 : EnvE G.told w2 := EnvE.below ⟨hF, hT⟩ hbw2
      go_wp2_with fail
      refine (H6 _ hE2.ans hE2.tabs (by rw [hbw2.cell (lt_of_cell hE)]; exact hE)).mono ?_
      rintro e w3 ⟨rfl, hb3⟩
      have hbw3 : Below w.heap.size w w3 := hbw2.trans (hb3.mono hbw2.size)
      go_wp2_with fail
      refine (H5 _).mono ?_
      rintro e w4 ⟨rfl, hb4⟩
      have hbw4 : Below w.heap.size w w4 := hbw3.trans (hb4.mono hbw3.size)
      clear H5 H6 H8 HU hb1 hb2 hb3 hb4 hE1 hE2 hbw2 hbw3
      by_cases h0 : s.size = 0
      · have t1 := empty_yes s h0
        go_wp2_with fail
        go_ret
        exact ⟨rfl, hbw4⟩
      · have t1 := empty_no s h0
        have t2 := hne h0
        go_wp2_with fail
        go_ret
        exact ⟨rfl, hbw4⟩
    · have hu' : utfB s = false := by simpa using hu
      rw [hu'] at HU
      clear hu hu'
      go_enter Tryf.func4, Tryf.ntmps4
      go_wp2_with fail
      refine (HU _).mono ?_
      rintro e w1 ⟨rfl, hb1⟩
      go_wp2_with fail
      go_ret
      exact ⟨rfl, hb1⟩
  · have h3 : 2000 < s.size := by omega
    go_enter Tryf.func4, Tryf.ntmps4
    go_wp2
    all_goals
      go_ret
      exact ⟨rfl, Below.refl _ _⟩
end Go.Proofs.YtiicdalodfjgaaaFmt
