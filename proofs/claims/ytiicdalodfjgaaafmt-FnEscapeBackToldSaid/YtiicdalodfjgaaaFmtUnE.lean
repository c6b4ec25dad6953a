/- The walk of StringUnescape. -/
import Derived.Test.YtiicdalodfjgaaaFmtUnD
import Derived.Deep.QuietTactic
import Derived.BigQuiet
import Derived.Deep.RegionWith
import Derived.Shelf.Unicode.DecodeSlow
namespace Go.Proofs.YtiicdalodfjgaaaFmt
open Go.RowKit Go.Extern.Stop Go.Stop Go.Extern

abbrev LOC : Array Value := #[.pointer none, .string ⟨#[]⟩, .int .i64 0, .int .i64 0, .int .i64 0, .int .i64 0]
/-- what stands below the call's own blocks and is read by it. -/
structure Env (F : Interp) (ev : Value) (b : Nat) (w : World) : Prop where
  ans : F.answers w.tape
  tabs : Lib.Utf8Tabs 0 1 w
  err : w.cell? ⟨3, 0, none⟩ = some ev
  loc : w.heap[b]? = some (.cells LOC 41 (0, 0))
theorem lt_of_get {w : World} {k : Nat} {o : Obj} (h : w.heap[k]? = some o) : k < w.heap.size := (Array.getElem?_eq_some_iff.1 h).1
theorem lt_of_cell {w : World} {k j : Nat} {v : Value} (h : w.cell? ⟨k, j, none⟩ = some v) : k < w.heap.size := by
  unfold World.cell? at h
  split at h
  · rename_i hh; exact lt_of_get hh
  · cases h
theorem Env.below {F : Interp} {ev : Value} {b : Nat} {w w' : World} (h : Env F ev b w) (hb : Below w.heap.size w w') : Env F ev b w' :=
  ⟨by rw [hb.tape]; exact h.ans, Utf8Tabs_below h.tabs hb, by rw [hb.cell (lt_of_cell h.err)]; exact h.err, by rw [hb.block b (lt_of_get h.loc)]; exact h.loc⟩
theorem loc_cell {w : World} {b : Nat} (h : w.heap[b]? = some (.cells LOC 41 (0, 0))) :
    w.cell? ⟨b, 0, none⟩ = some (.pointer none) ∧ w.cell? ⟨b, 1, none⟩ = some (.string ⟨#[]⟩) ∧ w.cell? ⟨b, 2, none⟩ = some (.int .i64 0) ∧ w.cell? ⟨b, 3, none⟩ = some (.int .i64 0) ∧ w.cell? ⟨b, 4, none⟩ = some (.int .i64 0) ∧ w.cell? ⟨b, 5, none⟩ = some (.int .i64 0) := by
  simp [World.cell?, h]

theorem dr_low (s : ByteArray) (i : Nat) (h : i < s.size) (hd : dr s i < 128) : gb s i = dr s i ∧ dw s i = 1 := by
  by_cases hl : gb s i < 128
  · have := dec_low s i h hl
    exact ⟨this.1.symm, this.2⟩
  · have := (dec_high s i h (by omega)).1
    omega
theorem plain_cases (c : Nat) (h : (plainE c).isSome = true) : c = 34 ∨ c = 39 ∨ c = 92 ∨ c = 47 ∨ c = 98 ∨ c = 102 ∨ c = 110 ∨ c = 114 ∨ c = 116 := by
  by_cases hn : c = 34 ∨ c = 39 ∨ c = 92 ∨ c = 47 ∨ c = 98 ∨ c = 102 ∨ c = 110 ∨ c = 114 ∨ c = 116
  · exact hn
  · exfalso
    unfold plainE at h
    rw [if_neg (by omega), if_neg (by omega), if_neg (by omega), if_neg (by omega), if_neg (by omega), if_neg (by omega), if_neg (by omega), if_neg (by omega), if_neg (by omega)] at h
    cases h
theorem plain_low (c : Nat) (h : (plainE c).isSome = true) : c < 128 := by
  have := plain_cases c h
  omega
theorem plain_ne (c : Nat) (h : ¬ (plainE c).isSome = true) (h9 : c ≠ 117) : ((c : Int) == 34) = false ∧ ((c : Int) == 39) = false ∧ ((c : Int) == 92) = false ∧ ((c : Int) == 47) = false ∧ ((c : Int) == 98) = false ∧ ((c : Int) == 102) = false ∧ ((c : Int) == 110) = false ∧ ((c : Int) == 114) = false ∧ ((c : Int) == 116) = false ∧ ((c : Int) == 117) = false := by
  have hn : c ≠ 34 ∧ c ≠ 39 ∧ c ≠ 92 ∧ c ≠ 47 ∧ c ≠ 98 ∧ c ≠ 102 ∧ c ≠ 110 ∧ c ≠ 114 ∧ c ≠ 116 := by
    refine ⟨?_, ?_, ?_, ?_, ?_, ?_, ?_, ?_, ?_⟩ <;> (rintro rfl; exact h rfl)
  have e : ∀ m : Nat, c ≠ m → ((c : Int) == (m : Int)) = false := fun m hm => by simp; omega
  obtain ⟨a, b, c, d, f, g, i, j, k⟩ := hn
  exact ⟨e 34 a, e 39 b, e 92 c, e 47 d, e 98 f, e 102 g, e 110 i, e 114 j, e 116 k, e 117 h9⟩
def SuPost (s : ByteArray) (w : World) (e : Ending) (w' : World) : Prop :=
  (match unescC s with | some out => e = .returned (.tuple #[.string ⟨out.toArray⟩, .nilIface]) | none => ∃ o T v, e = .returned (.tuple #[.string o, .iface T v])) ∧ Below w.heap.size w w'
theorem su_err {s : ByteArray} {w w' : World} {o : ByteArray} {T : TypeId} {v : Value} (h : unescC s = none) (hb : Below w.heap.size w w') : SuPost s w (.returned (.tuple #[.string o, .iface T v])) w' := by
  unfold SuPost
  rw [h]
  exact ⟨⟨_, _, _, rfl⟩, hb⟩

theorem ext2 (s : ByteArray) (i : Nat) (h : i + 2 ≤ s.size) : bl (s.extract i (i + 2)) = [UInt8.ofNat (gb s i), UInt8.ofNat (gb s (i + 1))] := by
  unfold bl
  rw [Lib.extract_data]
  have h0 := drop_bl s i (by omega)
  have h1 := drop_bl s (i + 1) (by omega)
  unfold bl at h0 h1
  rw [h0, h1, show i + 2 - i = 2 by omega]
  simp
theorem two_ne (a b : Nat) (ha : a < 256) (hb : b < 256) (h : ¬ (a = 92 ∧ b = 117)) : ([UInt8.ofNat a, UInt8.ofNat b] == [92, 117]) = false := by
  rw [beq_eq_false_iff_ne]
  intro e
  apply h
  simp only [List.cons.injEq, and_true] at e
  have e1 := congrArg UInt8.toNat e.1
  have e2 := congrArg UInt8.toNat e.2
  simp at e1 e2
  omega

theorem two_yes (s : ByteArray) (i : Nat) (h : i + 2 ≤ s.size) (h9 : gb s i = 92 ∧ gb s (i + 1) = 117) : ((s.extract i (i + 2)).toList == [92, 117]) = true := by
  have e := ext2 s i h
  rw [ByteArray.toList_eq]
  unfold bl at e
  rw [e, h9.1, h9.2]
  rfl
theorem two_no (s : ByteArray) (i : Nat) (h : i + 2 ≤ s.size) (h9 : ¬ (gb s i = 92 ∧ gb s (i + 1) = 117)) : ((s.extract i (i + 2)).toList == [92, 117]) = false := by
  have e := ext2 s i h
  rw [ByteArray.toList_eq]
  unfold bl at e
  rw [e]
  exact two_ne _ _ (gb_lt s i) (gb_lt s (i + 1)) h9

set_option maxHeartbeats 16000000 in
set_option maxRecDepth 1000000 in
theorem su_any (F : Interp) (ev : Value) (s : ByteArray) (b : Nat) (w : World) (hs : s.size ≤ 20000) (hE : Env F ev b w) :
    Calls Tryf.prog 11 #[.pointer (some ⟨b, 0, none⟩), .string s] w fun e w' => SuPost s w e w' := by
  go_enter Tryf.func11, Tryf.ntmps11
  go_wp2_with fail
  go_loopw [7] (fun i wr => ∃ (f k : Nat) (acc : List UInt8), i = .int .i64 k ∧ Hid (uC s f k acc = unescC s) ∧ s.size - k < f ∧ k ≤ s.size ∧ acc.length ≤ 4 * k ∧ Buf w.heap.size acc wr ∧ Below w.heap.size w wr) (fun i _ => s.size - (intOf i).toNat)
  case atStart =>
    exact ⟨s.size + 1, 0, [], rfl, Lib.hid rfl, by omega, by omega, by simp, Lib.fresh_isBuffer 48 5 w, (Below.refl _ _).alloc (Nat.le_refl _) _⟩
  case round =>
    obtain ⟨f, k, acc, rfl, HF, hf, hk, ho, hbuf, hbw⟩ := hrel
    have hE1 := hE.below hbw
    by_cases hlt : k < s.size
    · obtain ⟨f, rfl⟩ : ∃ m, f = m + 1 := ⟨f - 1, by omega⟩
      have HS := Lib.hid (uC_step s f k acc hlt)
      have hdw := dec_width s k hlt
      have hdp := dec_pos s k hlt
      have hdl := decode_le s k
      obtain ⟨d, hd⟩ : ∃ d, dr s k = d := ⟨_, rfl⟩
      obtain ⟨x, hx⟩ : ∃ x, dw s k = x := ⟨_, rfl⟩
      have hc14 := fun w h => dec_any s k hlt w h
      have hdl' : d ≤ 2147483647 := by rw [← hd]; exact hdl
      have hlen : (Lib.encodeRune d).length ≤ 4 := enc_size d
      rw [hx] at hdw hdp hc14
      rw [hd] at hc14
      have HC14 := hc14
      clear hc14 hdl
      have HD := Lib.hid hd
      have HX := Lib.hid hx
      have hx2 : k + x ≤ s.size := hdw.2
      clear hd hx hdw
      by_cases c1 : d = 92
      · have hlow := dr_low s k hlt (by rw [HD.out]; omega)
        have hx1 : x = 1 := by rw [← HX.out]; exact hlow.2
        subst hx1
        subst c1
        clear hlow
        by_cases c2 : k + 1 < s.size
        · have hdl2 := decode_le s (k + 1)
          obtain ⟨d2, hd2⟩ : ∃ d, dr s (k + 1) = d := ⟨_, rfl⟩
          obtain ⟨x2, hx2'⟩ : ∃ x, dw s (k + 1) = x := ⟨_, rfl⟩
          have hdl2' : d2 ≤ 2147483647 := by rw [← hd2]; exact hdl2
          have hc14 := fun w h => dec_any s (k + 1) c2 w h
          rw [hd2, hx2'] at hc14
          have HD14 := hc14
          clear hc14 hdl2
          have hlow2 : d2 < 128 → x2 = 1 := fun h => by rw [← hx2']; exact (dr_low s (k + 1) c2 (by rw [hd2]; exact h)).2
          have HLOW := Lib.hid hlow2
          have HD2 := Lib.hid hd2
          clear hlow2 hd2 hx2'
          go_wp2_with fail
          refine (HC14 _ hE1.tabs).mono ?_
          rintro e w1 ⟨rfl, hb1⟩
          have hbuf1 := hbuf.old hb1
          have hbw1 : Below w.heap.size w w1 := hbw.trans (hb1.mono hbw.size)
          have hE2 := hE.below hbw1
          clear hb1
          go_wp2_with fail
          refine (HD14 _ hE2.tabs).mono ?_
          rintro e w2 ⟨rfl, hb2⟩
          have hbuf2 := hbuf1.old hb2
          have hbw2 : Below w.heap.size w w2 := hbw1.trans (hb2.mono hbw1.size)
          have hE3 := hE.below hbw2
          clear hb2 hbuf1 hE2 hE1 hbuf hbw hbw1
          by_cases c3 : (plainE d2).isSome = true
          · have HP := Lib.hid c3
            have hx3 : x2 = 1 := HLOW.out (plain_low d2 c3)
            subst hx3
            have hcs := plain_cases d2 c3
            clear c3
            rcases hcs with rfl | rfl | rfl | rfl | rfl | rfl | rfl | rfl | rfl
            · as_aux_lemma =>
              have hlk : Hid (bl (lookS 34) = Lib.encodeRune 34) := Lib.hid (by decide)
              go_wp2_with fail
              refine (wr_any _ _ 34 (by omega) (by omega) _ hbuf2 (by omega)).mono ?_
              rintro e w3 ⟨⟨v, rfl⟩, hbuf3, hb3⟩
              go_wp2_with fail
              go_roundw
              case rel =>
                refine ⟨f, k + 2, acc ++ Lib.encodeRune 34, rfl, Lib.hid ?_, by omega, by omega, by have := enc_size 34; rw [List.length_append]; omega, hbuf3, hbw2.trans hb3⟩
                rw [← HF.out, HS.out, HD.out, HD2.out, if_neg (by omega), if_neg (by omega), if_pos HP.out, hlk.out]
              case measure => simp [intOf]; omega
            · as_aux_lemma =>
              have hlk : Hid (bl (lookS 39) = Lib.encodeRune 39) := Lib.hid (by decide)
              go_wp2_with fail
              refine (wr_any _ _ 39 (by omega) (by omega) _ hbuf2 (by omega)).mono ?_
              rintro e w3 ⟨⟨v, rfl⟩, hbuf3, hb3⟩
              go_wp2_with fail
              go_roundw
              case rel =>
                refine ⟨f, k + 2, acc ++ Lib.encodeRune 39, rfl, Lib.hid ?_, by omega, by omega, by have := enc_size 39; rw [List.length_append]; omega, hbuf3, hbw2.trans hb3⟩
                rw [← HF.out, HS.out, HD.out, HD2.out, if_neg (by omega), if_neg (by omega), if_pos HP.out, hlk.out]
              case measure => simp [intOf]; omega
            · as_aux_lemma =>
              have hlk : Hid (bl (lookS 92) = Lib.encodeRune 92) := Lib.hid (by decide)
              go_wp2_with fail
              refine (wr_any _ _ 92 (by omega) (by omega) _ hbuf2 (by omega)).mono ?_
              rintro e w3 ⟨⟨v, rfl⟩, hbuf3, hb3⟩
              go_wp2_with fail
              go_roundw
              case rel =>
                refine ⟨f, k + 2, acc ++ Lib.encodeRune 92, rfl, Lib.hid ?_, by omega, by omega, by have := enc_size 92; rw [List.length_append]; omega, hbuf3, hbw2.trans hb3⟩
                rw [← HF.out, HS.out, HD.out, HD2.out, if_neg (by omega), if_neg (by omega), if_pos HP.out, hlk.out]
              case measure => simp [intOf]; omega
            · as_aux_lemma =>
              have hlk : Hid (bl (lookS 47) = Lib.encodeRune 47) := Lib.hid (by decide)
              go_wp2_with fail
              refine (wr_any _ _ 47 (by omega) (by omega) _ hbuf2 (by omega)).mono ?_
              rintro e w3 ⟨⟨v, rfl⟩, hbuf3, hb3⟩
              go_wp2_with fail
              go_roundw
              case rel =>
                refine ⟨f, k + 2, acc ++ Lib.encodeRune 47, rfl, Lib.hid ?_, by omega, by omega, by have := enc_size 47; rw [List.length_append]; omega, hbuf3, hbw2.trans hb3⟩
                rw [← HF.out, HS.out, HD.out, HD2.out, if_neg (by omega), if_neg (by omega), if_pos HP.out, hlk.out]
              case measure => simp [intOf]; omega
            · as_aux_lemma =>
              have hlk : Hid (bl (lookS 98) = Lib.encodeRune 8) := Lib.hid (by decide)
              go_wp2_with fail
              refine (wr_any _ _ 8 (by omega) (by omega) _ hbuf2 (by omega)).mono ?_
              rintro e w3 ⟨⟨v, rfl⟩, hbuf3, hb3⟩
              go_wp2_with fail
              go_roundw
              case rel =>
                refine ⟨f, k + 2, acc ++ Lib.encodeRune 8, rfl, Lib.hid ?_, by omega, by omega, by have := enc_size 8; rw [List.length_append]; omega, hbuf3, hbw2.trans hb3⟩
                rw [← HF.out, HS.out, HD.out, HD2.out, if_neg (by omega), if_neg (by omega), if_pos HP.out, hlk.out]
              case measure => simp [intOf]; omega
            · as_aux_lemma =>
              have hlk : Hid (bl (lookS 102) = Lib.encodeRune 12) := Lib.hid (by decide)
              go_wp2_with fail
              refine (wr_any _ _ 12 (by omega) (by omega) _ hbuf2 (by omega)).mono ?_
              rintro e w3 ⟨⟨v, rfl⟩, hbuf3, hb3⟩
              go_wp2_with fail
              go_roundw
              case rel =>
                refine ⟨f, k + 2, acc ++ Lib.encodeRune 12, rfl, Lib.hid ?_, by omega, by omega, by have := enc_size 12; rw [List.length_append]; omega, hbuf3, hbw2.trans hb3⟩
                rw [← HF.out, HS.out, HD.out, HD2.out, if_neg (by omega), if_neg (by omega), if_pos HP.out, hlk.out]
              case measure => simp [intOf]; omega
            · as_aux_lemma =>
              have hlk : Hid (bl (lookS 110) = Lib.encodeRune 10) := Lib.hid (by decide)
              go_wp2_with fail
              refine (wr_any _ _ 10 (by omega) (by omega) _ hbuf2 (by omega)).mono ?_
              rintro e w3 ⟨⟨v, rfl⟩, hbuf3, hb3⟩
              go_wp2_with fail
              go_roundw
              case rel =>
                refine ⟨f, k + 2, acc ++ Lib.encodeRune 10, rfl, Lib.hid ?_, by omega, by omega, by have := enc_size 10; rw [List.length_append]; omega, hbuf3, hbw2.trans hb3⟩
                rw [← HF.out, HS.out, HD.out, HD2.out, if_neg (by omega), if_neg (by omega), if_pos HP.out, hlk.out]
              case measure => simp [intOf]; omega
            · as_aux_lemma =>
              have hlk : Hid (bl (lookS 114) = Lib.encodeRune 13) := Lib.hid (by decide)
              go_wp2_with fail
              refine (wr_any _ _ 13 (by omega) (by omega) _ hbuf2 (by omega)).mono ?_
              rintro e w3 ⟨⟨v, rfl⟩, hbuf3, hb3⟩
              go_wp2_with fail
              go_roundw
              case rel =>
                refine ⟨f, k + 2, acc ++ Lib.encodeRune 13, rfl, Lib.hid ?_, by omega, by omega, by have := enc_size 13; rw [List.length_append]; omega, hbuf3, hbw2.trans hb3⟩
                rw [← HF.out, HS.out, HD.out, HD2.out, if_neg (by omega), if_neg (by omega), if_pos HP.out, hlk.out]
              case measure => simp [intOf]; omega
            · as_aux_lemma =>
              have hlk : Hid (bl (lookS 116) = Lib.encodeRune 9) := Lib.hid (by decide)
              go_wp2_with fail
              refine (wr_any _ _ 9 (by omega) (by omega) _ hbuf2 (by omega)).mono ?_
              rintro e w3 ⟨⟨v, rfl⟩, hbuf3, hb3⟩
              go_wp2_with fail
              go_roundw
              case rel =>
                refine ⟨f, k + 2, acc ++ Lib.encodeRune 9, rfl, Lib.hid ?_, by omega, by omega, by have := enc_size 9; rw [List.length_append]; omega, hbuf3, hbw2.trans hb3⟩
                rw [← HF.out, HS.out, HD.out, HD2.out, if_neg (by omega), if_neg (by omega), if_pos HP.out, hlk.out]
              case measure => simp [intOf]; omega
          · have HP := Lib.hid c3
            clear c3
            by_cases c4 : d2 = 117
            · have hx3 : x2 = 1 := HLOW.out (by omega)
              subst hx3
              subst c4
              by_cases c5 : k + 6 ≤ s.size
              · by_cases c6 : fourV s (k + 2) < 0
                · as_aux_lemma =>
                  have H17 := fun w h => hexs_no s (k + 2) c5 c6 w ev h
                  go_wp2_with fail
                  refine (H17 _ hE3.err).mono ?_
                  rintro e w3 ⟨v3, c, rfl, hb3⟩
                  have hbw3 : Below w.heap.size w w3 := hbw2.trans (hb3.mono hbw2.size)
                  have hE4 := hE.below hbw3
                  clear hb3
                  obtain ⟨g0, g1, g2, g3, g4, g5⟩ := loc_cell hE4.loc
                  have hblt : b < w3.heap.size := lt_of_get hE4.loc
                  have hF' := answers_open hE4.ans
                  go_wp2_with fail
                  go_region_with (go_at_call 15; refine (mse_any _ _ _ _ _ _ _ _).mono ?_; rintro e w9 ⟨⟨T, v, rfl⟩, hb9⟩)
                  all_goals
                    go_wp2_with fail
                    go_ret2
                    refine su_err ?_ (Below.trans ?_ (hb9.mono ?_))
                    · rw [← HF.out, HS.out, HD.out, HD2.out, if_neg (by omega), if_neg (by omega), if_neg HP.out, if_neg (by omega), if_pos c6]
                    · repeat (first | exact hbw3 | apply Below.drew | (refine Below.alloc ?_ ?_ _))
                      all_goals (have := hbw3.size; simp; try omega)
                    · have := hbw3.size
                      simp
                      try omega
                · have H17 := fun w h => hexs_yes s (k + 2) c5 (by omega) w ev h
                  have hrg := fourV_range s (k + 2)
                  obtain ⟨n, hn⟩ : ∃ n, fourV s (k + 2) = n := ⟨_, rfl⟩
                  rw [hn] at H17 hrg c6
                  have HN := Lib.hid hn
                  clear hn
                  go_wp2_with fail
                  refine (H17 _ hE3.err).mono ?_
                  rintro e w3 ⟨hi, lo, rfl, gc0, gc1, hv, b0, b1, b2, b3, hb3, hlt3⟩
                  have hbuf3 := hbuf2.old hb3
                  have hbw3 : Below w.heap.size w w3 := hbw2.trans (hb3.mono hbw2.size)
                  have hE4 := hE.below hbw3
                  clear hb3 hbuf2 hE3 hbw2
                  by_cases c7 : 55296 ≤ n ∧ n < 57344
                  · obtain ⟨c7a, c7b⟩ := c7
                    have hsur : surB n = true := by simp [surB]; omega
                    go_wp2_with fail
                    go_quiet (fail)
                    have hbw4 : Below w.heap.size w (w3.drewN nq) := below_drewN hbw3 nq
                    have hE5 : Env F ev b (w3.drewN nq) := hE.below hbw4
                    have hbuf4 : Buf w.heap.size acc (w3.drewN nq) := hbuf3.drewN nq
                    obtain ⟨w4, hw4⟩ : ∃ w4, w3.drewN nq = w4 := ⟨_, rfl⟩
                    rw [hw4] at hbw4 hE5 hbuf4 ⊢
                    clear hw4 hbw3 hE4 hbuf3 gc0 gc1 hlt3 hv
                    go_wp2_with fail
                    refine (sur_any _ _).mono ?_
                    rintro e w4' ⟨rfl, rfl⟩
                    by_cases c8 : k + 12 ≤ s.size
                    · by_cases c9 : gb s (k + 6) = 92 ∧ gb s (k + 7) = 117
                      · have h68 : ((s.extract (k + 1 + 1 + 4) (k + 1 + 1 + 4 + 2)).toList == [92, 117]) = true := two_yes s (k + 6) (by omega) c9
                        by_cases c10 : fourV s (k + 8) < 0
                        · as_aux_lemma =>
                          have H17 := fun w h => hexs_no s (k + 8) c8 c10 w ev h
                          have C9 := Lib.hid c9
                          clear c9
                          go_wp2_with fail
                          refine (H17 _ hE5.err).mono ?_
                          rintro e w5 ⟨v5, c, rfl, hb5⟩
                          have hbw5 : Below w.heap.size w w5 := hbw4.trans (hb5.mono hbw4.size)
                          have hE6 := hE.below hbw5
                          clear hb5
                          obtain ⟨g0, g1, g2, g3, g4, g5⟩ := loc_cell hE6.loc
                          have hblt : b < w5.heap.size := lt_of_get hE6.loc
                          have hF' := answers_open hE6.ans
                          go_wp2_with fail
                          go_region_with (go_at_call 15; refine (mse_any _ _ _ _ _ _ _ _).mono ?_; rintro e w9 ⟨⟨T, v, rfl⟩, hb9⟩)
                          all_goals
                            go_wp2_with fail
                            go_ret2
                            refine su_err ?_ (Below.trans ?_ (hb9.mono ?_))
                            · rw [← HF.out, HS.out, HD.out, HD2.out, if_neg (by omega), if_neg (by omega), if_neg HP.out, if_neg (by omega), HN.out, if_neg (by omega), if_pos ⟨c7a, c7b⟩, if_neg (by omega), if_neg (fun h => h C9.out), if_pos c10]
                            · repeat (first | exact hbw5 | apply Below.drew | (refine Below.alloc ?_ ?_ _))
                              all_goals (have := hbw5.size; simp; try omega)
                            · have := hbw5.size
                              simp
                              try omega
                        · as_aux_lemma =>
                          have H17 := fun w h => hexs_yes s (k + 8) c8 (by omega) w ev h
                          have C9 := Lib.hid c9
                          clear c9
                          have hrg2 := fourV_range s (k + 8)
                          obtain ⟨m, hm⟩ : ∃ m, fourV s (k + 8) = m := ⟨_, rfl⟩
                          rw [hm] at H17 hrg2 c10
                          have HM := Lib.hid hm
                          clear hm
                          go_wp2_with fail
                          refine (H17 _ hE5.err).mono ?_
                          rintro e w5 ⟨hi2, lo2, rfl, gc0, gc1, hv, d0, d1, d2, d3, hb5, hlt5⟩
                          have hbuf5 := hbuf4.old hb5
                          have hbw5 : Below w.heap.size w w5 := hbw4.trans (hb5.mono hbw4.size)
                          clear hb5
                          go_wp2_with fail
                          go_quiet (fail)
                          go_wp2_with fail
                          refine (pair_any n m (by omega) (by omega) (by omega) (by omega) _).mono ?_
                          rintro e w6 ⟨rfl, rfl⟩
                          have hpr : 0 ≤ decR n m ∧ decR n m < 2000000 := by unfold decR; split <;> omega
                          have hlen2 := enc_size (decR n m)
                          go_wp2_with fail
                          refine (wr_any _ _ (decR n m) (by omega) (by omega) _ (hbuf5.drewN nq) (by omega)).mono ?_
                          rintro e w7 ⟨⟨v, rfl⟩, hbuf7, hb7⟩
                          go_wp2_with fail
                          go_roundw
                          case rel =>
                            refine ⟨f, k + 12, acc ++ Lib.encodeRune (decR n m), rfl, Lib.hid ?_, by omega, by omega, by rw [List.length_append]; omega, hbuf7, (below_drewN hbw5 nq).trans hb7⟩
                            rw [← HF.out, HS.out, HD.out, HD2.out, if_neg (by omega), if_neg (by omega), if_neg HP.out, if_neg (by omega), HN.out, if_neg (by omega), if_pos ⟨c7a, c7b⟩, if_neg (by omega), if_neg (fun h => h C9.out), HM.out, if_neg (by omega)]
                          case measure => simp [intOf]; omega
                      · as_aux_lemma =>
                        have h68 : ((s.extract (k + 1 + 1 + 4) (k + 1 + 1 + 4 + 2)).toList == [92, 117]) = false := two_no s (k + 6) (by omega) c9
                        obtain ⟨g0, g1, g2, g3, g4, g5⟩ := loc_cell hE5.loc
                        have hblt : b < w4.heap.size := lt_of_get hE5.loc
                        have hF' := answers_open hE5.ans
                        go_wp2_with fail
                        refine (mse_any _ _ _ _ _ _ _ _).mono ?_
                        rintro e w9 ⟨⟨T, v, rfl⟩, hb9⟩
                        go_wp2_with fail
                        go_ret2
                        refine su_err ?_ (hbw4.trans (hb9.mono hbw4.size))
                        rw [← HF.out, HS.out, HD.out, HD2.out, if_neg (by omega), if_neg (by omega), if_neg HP.out, if_neg (by omega), HN.out, if_neg (by omega), if_pos ⟨c7a, c7b⟩, if_neg (by omega), if_pos c9]
                    · as_aux_lemma =>
                      obtain ⟨g0, g1, g2, g3, g4, g5⟩ := loc_cell hE5.loc
                      have hblt : b < w4.heap.size := lt_of_get hE5.loc
                      have hF' := answers_open hE5.ans
                      go_wp2_with fail
                      refine (mse_any _ _ _ _ _ _ _ _).mono ?_
                      rintro e w9 ⟨⟨T, v, rfl⟩, hb9⟩
                      go_wp2_with fail
                      go_ret2
                      refine su_err ?_ (hbw4.trans (hb9.mono hbw4.size))
                      rw [← HF.out, HS.out, HD.out, HD2.out, if_neg (by omega), if_neg (by omega), if_neg HP.out, if_neg (by omega), HN.out, if_neg (by omega), if_pos ⟨c7a, c7b⟩, if_pos (by omega)]
                  · as_aux_lemma =>
                    have hsur : surB n = false := by rw [Bool.eq_false_iff]; simp [surB]; omega
                    have hlen2 := enc_size n
                    go_wp2_with fail
                    go_quiet (fail)
                    go_wp2_with fail
                    refine (sur_any _ _).mono ?_
                    rintro e w4 ⟨rfl, rfl⟩
                    go_wp2_with fail
                    refine (wr_any _ _ n (by omega) (by omega) _ (hbuf3.drewN nq) (by omega)).mono ?_
                    rintro e w5 ⟨⟨v, rfl⟩, hbuf5, hb5⟩
                    go_wp2_with fail
                    go_roundw
                    case rel =>
                      refine ⟨f, k + 6, acc ++ Lib.encodeRune n, rfl, Lib.hid ?_, by omega, by omega, by rw [List.length_append]; omega, hbuf5, (below_drewN hbw3 nq).trans hb5⟩
                      rw [← HF.out, HS.out, HD.out, HD2.out, if_neg (by omega), if_neg (by omega), if_neg HP.out, if_neg (by omega), HN.out, if_neg (by omega), if_neg (by omega)]
                    case measure => simp [intOf]; omega
              · as_aux_lemma =>
                obtain ⟨g0, g1, g2, g3, g4, g5⟩ := loc_cell hE3.loc
                have hblt : b < w2.heap.size := lt_of_get hE3.loc
                have hF' := answers_open hE3.ans
                go_wp2_with fail
                refine (mse_any _ _ _ _ _ _ _ _).mono ?_
                rintro e w9 ⟨⟨T, v, rfl⟩, hb9⟩
                go_wp2_with fail
                go_ret2
                refine su_err ?_ (hbw2.trans (hb9.mono hbw2.size))
                have hfit : fourV s (k + 2) < 0 := by
                  rcases Int.lt_or_le (fourV s (k + 2)) 0 with h | h
                  · exact h
                  · have := fourV_fits s (k + 2) h; omega
                rw [← HF.out, HS.out, HD.out, HD2.out, if_neg (by omega), if_neg (by omega), if_neg HP.out, if_neg (by omega), if_pos hfit]
            · as_aux_lemma =>
              have hne := plain_ne d2 HP.out c4
              obtain ⟨n0, n1, n2, n3, n4, n5, n6, n7, n8, n9⟩ := hne
              have HC4 := Lib.hid c4
              clear c4
              obtain ⟨g0, g1, g2, g3, g4, g5⟩ := loc_cell hE3.loc
              have hblt : b < w2.heap.size := lt_of_get hE3.loc
              have hF' := answers_open hE3.ans
              go_wp2_with fail
              go_region_with (go_at_call 15; refine (mse_any _ _ _ _ _ _ _ _).mono ?_; rintro e w9 ⟨⟨T, v, rfl⟩, hb9⟩)
              all_goals
                go_wp2_with fail
                go_ret2
                refine su_err ?_ (Below.trans ?_ (hb9.mono ?_))
                · rw [← HF.out, HS.out, HD.out, HD2.out, if_neg (by omega), if_neg (by omega), if_neg HP.out, if_pos HC4.out]
                · repeat (first | exact hbw2 | apply Below.drew | (refine Below.alloc ?_ ?_ _))
                  all_goals (have := hbw2.size; simp; try omega)
                · have := hbw2.size
                  simp
                  try omega
        · as_aux_lemma =>
          go_wp2_with fail
          refine (HC14 _ hE1.tabs).mono ?_
          rintro e w1 ⟨rfl, hb1⟩
          have hbw1 : Below w.heap.size w w1 := hbw.trans (hb1.mono hbw.size)
          have hE2 := hE.below hbw1
          obtain ⟨g0, g1, g2, g3, g4, g5⟩ := loc_cell hE2.loc
          have hblt : b < w1.heap.size := lt_of_get hE2.loc
          have hF' := answers_open hE2.ans
          go_wp2_with fail
          refine (mse_any _ _ _ _ _ _ _ _).mono ?_
          rintro e w9 ⟨⟨T, v, rfl⟩, hb9⟩
          go_wp2_with fail
          go_ret2
          refine su_err ?_ (hbw1.trans (hb9.mono hbw1.size))
          rw [← HF.out, HS.out, HD.out, if_neg (by omega), if_pos (by omega)]
      · as_aux_lemma =>
        have c1b : ((d : Int) == 92) = false := by simp; omega
        have HC1 := Lib.hid c1
        clear c1
        go_wp2_with fail
        refine (HC14 _ hE1.tabs).mono ?_
        rintro e w1 ⟨rfl, hb1⟩
        have hbuf1 := hbuf.old hb1
        have hbw1 : Below w.heap.size w w1 := hbw.trans (hb1.mono hbw.size)
        go_wp2_with fail
        refine (wr_any _ _ d (by omega) (by omega) _ hbuf1 (by omega)).mono ?_
        rintro e w2 ⟨⟨v, rfl⟩, hbuf2, hb2⟩
        go_wp2_with fail
        go_roundw
        case rel =>
          refine ⟨f, k + x, acc ++ Lib.encodeRune d, rfl, Lib.hid ?_, by omega, by omega, by rw [List.length_append]; omega, hbuf2, hbw1.trans hb2⟩
          rw [← HF.out, HS.out, HD.out, HX.out, if_pos HC1.out]
        case measure => simp [intOf]; omega
    · have HE : Hid (uC s f k acc = some acc) := Lib.hid (by
        cases f with
        | zero => omega
        | succ f => unfold uC; rw [if_neg hlt])
      go_wp2_with fail
      refine (str_any _ _ _ hbuf).mono ?_
      rintro e w1 ⟨rfl, n, rfl⟩
      go_wp2_with fail
      go_ret2
      unfold SuPost
      rw [← HF.out, HE.out]
      exact ⟨rfl, below_drewN hbw n⟩
end Go.Proofs.YtiicdalodfjgaaaFmt
