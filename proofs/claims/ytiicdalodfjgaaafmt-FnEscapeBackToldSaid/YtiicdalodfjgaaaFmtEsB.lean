/- The walk of StringEscape. Written by genEs.py. -/
import Derived.Test.YtiicdalodfjgaaaFmtEsS
import Derived.Deep.QuietTactic
import Derived.BigQuiet
import Derived.Deep.RegionWith
import Derived.Shelf.Unicode.DecodeSlow
namespace Go.Proofs.YtiicdalodfjgaaaFmt
open Go.RowKit Go.Extern.Stop Go.Stop Go.Extern

/-- what stands below the call's own blocks and is read by it. -/
structure EnvE (F : Interp) (w : World) : Prop where
  ans : F.answers w.tape
  tabs : Lib.Utf8Tabs 0 1 w
theorem EnvE.below {F : Interp} {w w' : World} (h : EnvE F w) (hb : Below w.heap.size w w') : EnvE F w' :=
  ⟨by rw [hb.tape]; exact h.ans, Utf8Tabs_below h.tabs hb⟩
theorem escR_ctl (single : Bool) (d : Nat) (h : d < 32 ∨ (127 ≤ d ∧ d ≤ 159)) (h1 : d ≠ 8) (h2 : d ≠ 12) (h3 : d ≠ 10) (h4 : d ≠ 13) (h5 : d ≠ 9) (h6 : d ≠ 0) : escR single d = 92 :: 117 :: hex4 d := by
  unfold escR
  rw [if_neg (by omega), if_neg (by omega), if_neg (by omega), if_neg (by omega), if_neg (by omega), if_neg (by omega), if_neg (by omega), if_neg (by omega), if_neg (by omega), if_pos h]
theorem escR_as (single : Bool) (d : Nat) (h : ¬ (d < 32 ∨ (127 ≤ d ∧ d ≤ 159))) (h1 : d ≠ 34) (h2 : d ≠ 39) (h3 : d ≠ 92) : escR single d = Lib.encodeRune d := by
  unfold escR
  rw [if_neg (by omega), if_neg (by omega), if_neg (by omega), if_neg (by omega), if_neg (by omega), if_neg (by omega), if_neg (by omega), if_neg (by omega), if_neg (by omega), if_neg h]
theorem int_ne (d m : Nat) (h : d ≠ m) : ((d : Int) == (m : Int)) = false := by simp; omega

set_option maxHeartbeats 16000000 in
set_option maxRecDepth 1000000 in
theorem es_any (G : Interp) (single : Bool) (s : ByteArray) (w : World) (hs : s.size ≤ 2000) (hE : EnvE G.told w) :
    Calls Tryf.prog 12 #[.string s, .bool single] w fun e w' => e = .returned (.string (esc single s)) ∧ Below w.heap.size w w' := by
  have HFIN : Hid ((⟨(escF single s (s.size + 1) 0).toArray⟩ : ByteArray) = esc single s) := Lib.hid rfl
  obtain ⟨full, hfull⟩ : ∃ l, escF single s (s.size + 1) 0 = l := ⟨_, rfl⟩
  obtain ⟨es, hes⟩ : ∃ l, esc single s = l := ⟨_, rfl⟩
  rw [hfull, hes] at HFIN
  rw [hes]
  clear hes
  go_enter Tryf.func12, Tryf.ntmps12
  go_wp2_with fail
  go_loopw [6] (fun i wr => ∃ (f k : Nat) (acc : List UInt8), i = .int .i64 k ∧ Hid (acc ++ escF single s f k = full) ∧ s.size - k < f ∧ k ≤ s.size ∧ acc.length ≤ 6 * k ∧ Buf w.heap.size acc wr ∧ Below w.heap.size w wr) (fun i _ => s.size - (intOf i).toNat)
  case atStart =>
    exact ⟨s.size + 1, 0, [], rfl, Lib.hid hfull, by omega, by omega, by simp, Lib.fresh_isBuffer 48 5 w, (Below.refl _ _).alloc (Nat.le_refl _) _⟩
  case round =>
    clear hfull
    obtain ⟨f, k, acc, rfl, HF, hf, hk, ho, hbuf, hbw⟩ := hrel
    have hE1 := hE.below hbw
    by_cases hlt : k < s.size
    · obtain ⟨f, rfl⟩ : ∃ m, f = m + 1 := ⟨f - 1, by omega⟩
      have HS := Lib.hid (escF_step single s f k hlt)
      have hdw := dec_width s k hlt
      have hdp := dec_pos s k hlt
      have hdl := decode_le s k
      have HC14 := fun w h => dec_any s k hlt w h
      obtain ⟨d, hd⟩ : ∃ d, dr s k = d := ⟨_, rfl⟩
      obtain ⟨x, hx⟩ : ∃ x, dw s k = x := ⟨_, rfl⟩
      have hdl' : d ≤ 2147483647 := by rw [← hd]; exact hdl
      have hx2 : k + x ≤ s.size := by rw [← hx]; exact hdw.2
      have hx1 : 1 ≤ x := by rw [← hx]; exact hdp
      have HR : Hid (acc ++ escR single d ++ escF single s f (k + x) = full) := Lib.hid (by rw [← HF.out, HS.out, hd, hx, List.append_assoc])
      rw [hd, hx] at HC14
      clear hdl hd hx hdw hdp HS HF
      go_wp2_with fail
      refine (HC14 _ hE1.tabs).mono ?_
      rintro e w1 ⟨rfl, hb1⟩
      have hbuf1 := hbuf.old hb1
      have hbw1 : Below w.heap.size w w1 := hbw.trans (hb1.mono hbw.size)
      have hE2 := hE.below hbw1
      clear hb1 hbuf hbw hE1 HC14
      by_cases c34 : d = 34
      · subst c34
        cases single
        · skip
          as_aux_lemma =>
          have hesc : escR false 34 = Lib.encodeRune (92 : Nat) ++ Lib.encodeRune (34 : Nat) := by decide
          rw [hesc] at HR
          clear hesc
          go_wp2_with fail
          refine (wr_any _ _ 92 (by omega) (by omega) _ hbuf1 (by (try simp only [List.length_append]); (try have := enc_size 92); omega)).mono ?_
          rintro e w2 ⟨⟨v0, rfl⟩, hbuf2, hb2⟩
          have hbw2 : Below w.heap.size w w2 := hbw1.trans hb2
          clear hb2
          go_wp2_with fail
          refine (wr_any _ _ 34 (by omega) (by omega) _ hbuf2 (by (try simp only [List.length_append]); (try have := enc_size 92); omega)).mono ?_
          rintro e w3 ⟨⟨v1, rfl⟩, hbuf3, hb3⟩
          have hbw3 : Below w.heap.size w w3 := hbw2.trans hb3
          clear hb3
          go_wp2_with fail
          go_roundw
          case rel =>
            refine ⟨f, k + x, acc ++ Lib.encodeRune 92 ++ Lib.encodeRune 34, rfl, Lib.hid ?_, by omega, by omega, by have e0 : (Lib.encodeRune 92).length = 1 := (by decide); have e1 : (Lib.encodeRune 34).length = 1 := (by decide); (simp only [List.length_append]); omega, hbuf3, hbw3⟩
            have := HR.out
            simp only [List.append_assoc] at this ⊢
            exact this
          case measure => simp [intOf]; omega
        · skip
          as_aux_lemma =>
          have hesc : escR true 34 = Lib.encodeRune (34 : Nat) := by decide
          rw [hesc] at HR
          clear hesc
          go_wp2_with fail
          refine (wr_any _ _ 34 (by omega) (by omega) _ hbuf1 (by (try simp only [List.length_append]); (try have := enc_size 92); omega)).mono ?_
          rintro e w2 ⟨⟨v0, rfl⟩, hbuf2, hb2⟩
          have hbw2 : Below w.heap.size w w2 := hbw1.trans hb2
          clear hb2
          go_wp2_with fail
          go_roundw
          case rel =>
            refine ⟨f, k + x, acc ++ Lib.encodeRune 34, rfl, Lib.hid ?_, by omega, by omega, by have e0 : (Lib.encodeRune 34).length = 1 := (by decide); (simp only [List.length_append]); omega, hbuf2, hbw2⟩
            have := HR.out
            simp only [List.append_assoc] at this ⊢
            exact this
          case measure => simp [intOf]; omega
      by_cases c39 : d = 39
      · subst c39
        cases single
        · skip
          as_aux_lemma =>
          have hesc : escR false 39 = Lib.encodeRune (39 : Nat) := by decide
          rw [hesc] at HR
          clear hesc
          go_wp2_with fail
          refine (wr_any _ _ 39 (by omega) (by omega) _ hbuf1 (by (try simp only [List.length_append]); (try have := enc_size 92); omega)).mono ?_
          rintro e w2 ⟨⟨v0, rfl⟩, hbuf2, hb2⟩
          have hbw2 : Below w.heap.size w w2 := hbw1.trans hb2
          clear hb2
          go_wp2_with fail
          go_roundw
          case rel =>
            refine ⟨f, k + x, acc ++ Lib.encodeRune 39, rfl, Lib.hid ?_, by omega, by omega, by have e0 : (Lib.encodeRune 39).length = 1 := (by decide); (simp only [List.length_append]); omega, hbuf2, hbw2⟩
            have := HR.out
            simp only [List.append_assoc] at this ⊢
            exact this
          case measure => simp [intOf]; omega
        · skip
          as_aux_lemma =>
          have hesc : escR true 39 = Lib.encodeRune (92 : Nat) ++ Lib.encodeRune (39 : Nat) := by decide
          rw [hesc] at HR
          clear hesc
          go_wp2_with fail
          refine (wr_any _ _ 92 (by omega) (by omega) _ hbuf1 (by (try simp only [List.length_append]); (try have := enc_size 92); omega)).mono ?_
          rintro e w2 ⟨⟨v0, rfl⟩, hbuf2, hb2⟩
          have hbw2 : Below w.heap.size w w2 := hbw1.trans hb2
          clear hb2
          go_wp2_with fail
          refine (wr_any _ _ 39 (by omega) (by omega) _ hbuf2 (by (try simp only [List.length_append]); (try have := enc_size 92); omega)).mono ?_
          rintro e w3 ⟨⟨v1, rfl⟩, hbuf3, hb3⟩
          have hbw3 : Below w.heap.size w w3 := hbw2.trans hb3
          clear hb3
          go_wp2_with fail
          go_roundw
          case rel =>
            refine ⟨f, k + x, acc ++ Lib.encodeRune 92 ++ Lib.encodeRune 39, rfl, Lib.hid ?_, by omega, by omega, by have e0 : (Lib.encodeRune 92).length = 1 := (by decide); have e1 : (Lib.encodeRune 39).length = 1 := (by decide); (simp only [List.length_append]); omega, hbuf3, hbw3⟩
            have := HR.out
            simp only [List.append_assoc] at this ⊢
            exact this
          case measure => simp [intOf]; omega
      by_cases c92 : d = 92
      · subst c92
        as_aux_lemma =>
        have hesc : escR single 92 = Lib.encodeRune (92 : Nat) ++ Lib.encodeRune (92 : Nat) := by cases single <;> decide
        rw [hesc] at HR
        clear hesc
        go_wp2_with fail
        refine (wr_any _ _ 92 (by omega) (by omega) _ hbuf1 (by (try simp only [List.length_append]); (try have := enc_size 92); omega)).mono ?_
        rintro e w2 ⟨⟨v0, rfl⟩, hbuf2, hb2⟩
        have hbw2 : Below w.heap.size w w2 := hbw1.trans hb2
        clear hb2
        go_wp2_with fail
        refine (wr_any _ _ 92 (by omega) (by omega) _ hbuf2 (by (try simp only [List.length_append]); (try have := enc_size 92); omega)).mono ?_
        rintro e w3 ⟨⟨v1, rfl⟩, hbuf3, hb3⟩
        have hbw3 : Below w.heap.size w w3 := hbw2.trans hb3
        clear hb3
        go_wp2_with fail
        go_roundw
        case rel =>
          refine ⟨f, k + x, acc ++ Lib.encodeRune 92 ++ Lib.encodeRune 92, rfl, Lib.hid ?_, by omega, by omega, by have e0 : (Lib.encodeRune 92).length = 1 := (by decide); have e1 : (Lib.encodeRune 92).length = 1 := (by decide); (simp only [List.length_append]); omega, hbuf3, hbw3⟩
          have := HR.out
          simp only [List.append_assoc] at this ⊢
          exact this
        case measure => simp [intOf]; omega
      by_cases c8 : d = 8
      · subst c8
        as_aux_lemma =>
        have hesc : escR single 8 = Lib.encodeRune (92 : Nat) ++ Lib.encodeRune (98 : Nat) := by cases single <;> decide
        rw [hesc] at HR
        clear hesc
        go_wp2_with fail
        refine (wr_any _ _ 92 (by omega) (by omega) _ hbuf1 (by (try simp only [List.length_append]); (try have := enc_size 92); omega)).mono ?_
        rintro e w2 ⟨⟨v0, rfl⟩, hbuf2, hb2⟩
        have hbw2 : Below w.heap.size w w2 := hbw1.trans hb2
        clear hb2
        go_wp2_with fail
        refine (wr_any _ _ 98 (by omega) (by omega) _ hbuf2 (by (try simp only [List.length_append]); (try have := enc_size 92); omega)).mono ?_
        rintro e w3 ⟨⟨v1, rfl⟩, hbuf3, hb3⟩
        have hbw3 : Below w.heap.size w w3 := hbw2.trans hb3
        clear hb3
        go_wp2_with fail
        go_roundw
        case rel =>
          refine ⟨f, k + x, acc ++ Lib.encodeRune 92 ++ Lib.encodeRune 98, rfl, Lib.hid ?_, by omega, by omega, by have e0 : (Lib.encodeRune 92).length = 1 := (by decide); have e1 : (Lib.encodeRune 98).length = 1 := (by decide); (simp only [List.length_append]); omega, hbuf3, hbw3⟩
          have := HR.out
          simp only [List.append_assoc] at this ⊢
          exact this
        case measure => simp [intOf]; omega
      by_cases c12 : d = 12
      · subst c12
        as_aux_lemma =>
        have hesc : escR single 12 = Lib.encodeRune (92 : Nat) ++ Lib.encodeRune (102 : Nat) := by cases single <;> decide
        rw [hesc] at HR
        clear hesc
        go_wp2_with fail
        refine (wr_any _ _ 92 (by omega) (by omega) _ hbuf1 (by (try simp only [List.length_append]); (try have := enc_size 92); omega)).mono ?_
        rintro e w2 ⟨⟨v0, rfl⟩, hbuf2, hb2⟩
        have hbw2 : Below w.heap.size w w2 := hbw1.trans hb2
        clear hb2
        go_wp2_with fail
        refine (wr_any _ _ 102 (by omega) (by omega) _ hbuf2 (by (try simp only [List.length_append]); (try have := enc_size 92); omega)).mono ?_
        rintro e w3 ⟨⟨v1, rfl⟩, hbuf3, hb3⟩
        have hbw3 : Below w.heap.size w w3 := hbw2.trans hb3
        clear hb3
        go_wp2_with fail
        go_roundw
        case rel =>
          refine ⟨f, k + x, acc ++ Lib.encodeRune 92 ++ Lib.encodeRune 102, rfl, Lib.hid ?_, by omega, by omega, by have e0 : (Lib.encodeRune 92).length = 1 := (by decide); have e1 : (Lib.encodeRune 102).length = 1 := (by decide); (simp only [List.length_append]); omega, hbuf3, hbw3⟩
          have := HR.out
          simp only [List.append_assoc] at this ⊢
          exact this
        case measure => simp [intOf]; omega
      by_cases c10 : d = 10
      · subst c10
        as_aux_lemma =>
        have hesc : escR single 10 = Lib.encodeRune (92 : Nat) ++ Lib.encodeRune (110 : Nat) := by cases single <;> decide
        rw [hesc] at HR
        clear hesc
        go_wp2_with fail
        refine (wr_any _ _ 92 (by omega) (by omega) _ hbuf1 (by (try simp only [List.length_append]); (try have := enc_size 92); omega)).mono ?_
        rintro e w2 ⟨⟨v0, rfl⟩, hbuf2, hb2⟩
        have hbw2 : Below w.heap.size w w2 := hbw1.trans hb2
        clear hb2
        go_wp2_with fail
        refine (wr_any _ _ 110 (by omega) (by omega) _ hbuf2 (by (try simp only [List.length_append]); (try have := enc_size 92); omega)).mono ?_
        rintro e w3 ⟨⟨v1, rfl⟩, hbuf3, hb3⟩
        have hbw3 : Below w.heap.size w w3 := hbw2.trans hb3
        clear hb3
        go_wp2_with fail
        go_roundw
        case rel =>
          refine ⟨f, k + x, acc ++ Lib.encodeRune 92 ++ Lib.encodeRune 110, rfl, Lib.hid ?_, by omega, by omega, by have e0 : (Lib.encodeRune 92).length = 1 := (by decide); have e1 : (Lib.encodeRune 110).length = 1 := (by decide); (simp only [List.length_append]); omega, hbuf3, hbw3⟩
          have := HR.out
          simp only [List.append_assoc] at this ⊢
          exact this
        case measure => simp [intOf]; omega
      by_cases c13 : d = 13
      · subst c13
        as_aux_lemma =>
        have hesc : escR single 13 = Lib.encodeRune (92 : Nat) ++ Lib.encodeRune (114 : Nat) := by cases single <;> decide
        rw [hesc] at HR
        clear hesc
        go_wp2_with fail
        refine (wr_any _ _ 92 (by omega) (by omega) _ hbuf1 (by (try simp only [List.length_append]); (try have := enc_size 92); omega)).mono ?_
        rintro e w2 ⟨⟨v0, rfl⟩, hbuf2, hb2⟩
        have hbw2 : Below w.heap.size w w2 := hbw1.trans hb2
        clear hb2
        go_wp2_with fail
        refine (wr_any _ _ 114 (by omega) (by omega) _ hbuf2 (by (try simp only [List.length_append]); (try have := enc_size 92); omega)).mono ?_
        rintro e w3 ⟨⟨v1, rfl⟩, hbuf3, hb3⟩
        have hbw3 : Below w.heap.size w w3 := hbw2.trans hb3
        clear hb3
        go_wp2_with fail
        go_roundw
        case rel =>
          refine ⟨f, k + x, acc ++ Lib.encodeRune 92 ++ Lib.encodeRune 114, rfl, Lib.hid ?_, by omega, by omega, by have e0 : (Lib.encodeRune 92).length = 1 := (by decide); have e1 : (Lib.encodeRune 114).length = 1 := (by decide); (simp only [List.length_append]); omega, hbuf3, hbw3⟩
          have := HR.out
          simp only [List.append_assoc] at this ⊢
          exact this
        case measure => simp [intOf]; omega
      by_cases c9 : d = 9
      · subst c9
        as_aux_lemma =>
        have hesc : escR single 9 = Lib.encodeRune (92 : Nat) ++ Lib.encodeRune (116 : Nat) := by cases single <;> decide
        rw [hesc] at HR
        clear hesc
        go_wp2_with fail
        refine (wr_any _ _ 92 (by omega) (by omega) _ hbuf1 (by (try simp only [List.length_append]); (try have := enc_size 92); omega)).mono ?_
        rintro e w2 ⟨⟨v0, rfl⟩, hbuf2, hb2⟩
        have hbw2 : Below w.heap.size w w2 := hbw1.trans hb2
        clear hb2
        go_wp2_with fail
        refine (wr_any _ _ 116 (by omega) (by omega) _ hbuf2 (by (try simp only [List.length_append]); (try have := enc_size 92); omega)).mono ?_
        rintro e w3 ⟨⟨v1, rfl⟩, hbuf3, hb3⟩
        have hbw3 : Below w.heap.size w w3 := hbw2.trans hb3
        clear hb3
        go_wp2_with fail
        go_roundw
        case rel =>
          refine ⟨f, k + x, acc ++ Lib.encodeRune 92 ++ Lib.encodeRune 116, rfl, Lib.hid ?_, by omega, by omega, by have e0 : (Lib.encodeRune 92).length = 1 := (by decide); have e1 : (Lib.encodeRune 116).length = 1 := (by decide); (simp only [List.length_append]); omega, hbuf3, hbw3⟩
          have := HR.out
          simp only [List.append_assoc] at this ⊢
          exact this
        case measure => simp [intOf]; omega
      by_cases c0 : d = 0
      · subst c0
        as_aux_lemma =>
        have hesc : escR single 0 = [92, 117, 48, 48, 48, 48] := by cases single <;> decide
        rw [hesc] at HR
        clear hesc
        go_wp2_with fail
        refine (Tryf.Buffer_WriteString_k _ _ _ _ _ hbuf1 hbw1.size (Lib.byteCells_one _) (by rw [Lib.byteCells_length]; show acc.length + 6 ≤ _; omega)).mono ?_
        rintro e w2 ⟨rfl, hbuf2, hb2, -⟩
        rw [← Lib.byteCells_append] at hbuf2
        have hbw2 : Below w.heap.size w w2 := hbw1.trans hb2
        clear hb2
        go_wp2_with fail
        go_roundw
        case rel =>
          exact ⟨f, k + x, acc ++ [92, 117, 48, 48, 48, 48], rfl, HR, by omega, by omega, by rw [List.length_append]; show acc.length + 6 ≤ _; omega, hbuf2, hbw2⟩
        case measure => simp [intOf]; omega
      have t34 : ((d : Int) == 34) = false := int_ne d 34 c34
      have t39 : ((d : Int) == 39) = false := int_ne d 39 c39
      have t92 : ((d : Int) == 92) = false := int_ne d 92 c92
      have t8 : ((d : Int) == 8) = false := int_ne d 8 c8
      have t12 : ((d : Int) == 12) = false := int_ne d 12 c12
      have t10 : ((d : Int) == 10) = false := int_ne d 10 c10
      have t13 : ((d : Int) == 13) = false := int_ne d 13 c13
      have t9 : ((d : Int) == 9) = false := int_ne d 9 c9
      have t0 : ((d : Int) == 0) = false := int_ne d 0 c0
      have T34 := Lib.hid c34; have T39 := Lib.hid c39; have T92 := Lib.hid c92; have T8 := Lib.hid c8; have T12 := Lib.hid c12; have T10 := Lib.hid c10; have T13 := Lib.hid c13; have T9 := Lib.hid c9; have T0 := Lib.hid c0
      clear c34 c39 c92 c8 c12 c10 c13 c9 c0
      by_cases q1 : d < 32
      · have b1 : ((d : Int) < 32) := by omega
        as_aux_lemma =>
        have hesc := escR_ctl single d (by omega) T8.out T12.out T10.out T13.out T9.out T0.out
        rw [hesc] at HR
        clear hesc T34 T39 T92 T8 T12 T10 T13 T9 T0
        have HT := text_hex G d (by omega)
        go_wp2_with fail
        refine (wr_any _ _ 92 (by omega) (by omega) _ hbuf1 (by omega)).mono ?_
        rintro e w2 ⟨⟨v2, rfl⟩, hbuf2, hb2⟩
        have hbw2 : Below w.heap.size w w2 := hbw1.trans hb2
        clear hb2
        go_wp2_with fail
        refine (wr_any _ _ 117 (by omega) (by omega) _ hbuf2 (by rw [List.length_append]; have := enc_size 92; omega)).mono ?_
        rintro e w3 ⟨⟨v3, rfl⟩, hbuf3, hb3⟩
        have hbw3 : Below w.heap.size w w3 := hbw2.trans hb3
        clear hb3 hbuf2 hbuf1
        have hE4 := hE.below hbw3
        have hF' := answers_open hE4.ans
        clear hE4 hE2 hE
        go_wp2_with fail
        rw [HT]
        refine (wr_hex _ _ d _ _ _ _ hbuf3 hbw3.size (by rw [List.length_append, List.length_append]; have := enc_size 92; have := enc_size 117; omega)).mono ?_
        rintro e w5 ⟨⟨v5, rfl⟩, hbuf5, hb5⟩
        have hbw5 := hbw3.trans hb5
        clear hb5 hbuf3 hF'
        go_wp2_with fail
        go_roundw
        case rel =>
          refine ⟨f, k + x, acc ++ Lib.encodeRune 92 ++ Lib.encodeRune 117 ++ hex4 d, rfl, Lib.hid ?_, by omega, by omega, ?_, hbuf5, hbw5⟩
          · have := HR.out
            have e92 : Lib.encodeRune 92 = [92] := by decide
            have e117 : Lib.encodeRune 117 = [117] := by decide
            rw [e92, e117]
            simpa using this
          · have e92 : (Lib.encodeRune 92).length = 1 := by decide
            have e117 : (Lib.encodeRune 117).length = 1 := by decide
            have e4 : (hex4 d).length = 4 := rfl
            simp only [List.length_append]
            omega
        case measure => simp [intOf]; omega
      have b1 : ¬ ((d : Int) < 32) := by omega
      by_cases q2 : 127 ≤ d
      · have b2 : (127 ≤ (d : Int)) := by omega
        by_cases q3 : d ≤ 159
        · have b3 : ((d : Int) ≤ 159) := by omega
          as_aux_lemma =>
          have hesc := escR_ctl single d (by omega) T8.out T12.out T10.out T13.out T9.out T0.out
          rw [hesc] at HR
          clear hesc T34 T39 T92 T8 T12 T10 T13 T9 T0
          have HT := text_hex G d (by omega)
          go_wp2_with fail
          refine (wr_any _ _ 92 (by omega) (by omega) _ hbuf1 (by omega)).mono ?_
          rintro e w2 ⟨⟨v2, rfl⟩, hbuf2, hb2⟩
          have hbw2 : Below w.heap.size w w2 := hbw1.trans hb2
          clear hb2
          go_wp2_with fail
          refine (wr_any _ _ 117 (by omega) (by omega) _ hbuf2 (by rw [List.length_append]; have := enc_size 92; omega)).mono ?_
          rintro e w3 ⟨⟨v3, rfl⟩, hbuf3, hb3⟩
          have hbw3 : Below w.heap.size w w3 := hbw2.trans hb3
          clear hb3 hbuf2 hbuf1
          have hE4 := hE.below hbw3
          have hF' := answers_open hE4.ans
          clear hE4 hE2 hE
          go_wp2_with fail
          rw [HT]
          refine (wr_hex _ _ d _ _ _ _ hbuf3 hbw3.size (by rw [List.length_append, List.length_append]; have := enc_size 92; have := enc_size 117; omega)).mono ?_
          rintro e w5 ⟨⟨v5, rfl⟩, hbuf5, hb5⟩
          have hbw5 := hbw3.trans hb5
          clear hb5 hbuf3 hF'
          go_wp2_with fail
          go_roundw
          case rel =>
            refine ⟨f, k + x, acc ++ Lib.encodeRune 92 ++ Lib.encodeRune 117 ++ hex4 d, rfl, Lib.hid ?_, by omega, by omega, ?_, hbuf5, hbw5⟩
            · have := HR.out
              have e92 : Lib.encodeRune 92 = [92] := by decide
              have e117 : Lib.encodeRune 117 = [117] := by decide
              rw [e92, e117]
              simpa using this
            · have e92 : (Lib.encodeRune 92).length = 1 := by decide
              have e117 : (Lib.encodeRune 117).length = 1 := by decide
              have e4 : (hex4 d).length = 4 := rfl
              simp only [List.length_append]
              omega
          case measure => simp [intOf]; omega
        · have b3 : ¬ ((d : Int) ≤ 159) := by omega
          as_aux_lemma =>
          have hesc := escR_as single d (by omega) T34.out T39.out T92.out
          rw [hesc] at HR
          clear hesc T34 T39 T92 T8 T12 T10 T13 T9 T0
          have hlen : (Lib.encodeRune d).length ≤ 4 := enc_size d
          go_wp2_with fail
          refine (wr_any _ _ d (by omega) (by omega) _ hbuf1 (by omega)).mono ?_
          rintro e w2 ⟨⟨v2, rfl⟩, hbuf2, hb2⟩
          have hbw2 : Below w.heap.size w w2 := hbw1.trans hb2
          clear hb2
          go_wp2_with fail
          go_roundw
          case rel =>
            exact ⟨f, k + x, acc ++ Lib.encodeRune d, rfl, HR, by omega, by omega, by rw [List.length_append]; omega, hbuf2, hbw2⟩
          case measure => simp [intOf]; omega
      · have b2 : ¬ (127 ≤ (d : Int)) := by omega
        as_aux_lemma =>
        have hesc := escR_as single d (by omega) T34.out T39.out T92.out
        rw [hesc] at HR
        clear hesc T34 T39 T92 T8 T12 T10 T13 T9 T0
        have hlen : (Lib.encodeRune d).length ≤ 4 := enc_size d
        go_wp2_with fail
        refine (wr_any _ _ d (by omega) (by omega) _ hbuf1 (by omega)).mono ?_
        rintro e w2 ⟨⟨v2, rfl⟩, hbuf2, hb2⟩
        have hbw2 : Below w.heap.size w w2 := hbw1.trans hb2
        clear hb2
        go_wp2_with fail
        go_roundw
        case rel =>
          exact ⟨f, k + x, acc ++ Lib.encodeRune d, rfl, HR, by omega, by omega, by rw [List.length_append]; omega, hbuf2, hbw2⟩
        case measure => simp [intOf]; omega
    · have HE : Hid (acc = full) := Lib.hid (by rw [← HF.out, escF_end single s f k hlt, List.append_nil])
      go_wp2_with fail
      refine (str_any _ _ _ hbuf).mono ?_
      rintro e w1 ⟨rfl, n, rfl⟩
      go_wp2_with fail
      go_ret
      rw [HE.out, HFIN.out]
      exact ⟨rfl, below_drewN hbw n⟩
end Go.Proofs.YtiicdalodfjgaaaFmt
