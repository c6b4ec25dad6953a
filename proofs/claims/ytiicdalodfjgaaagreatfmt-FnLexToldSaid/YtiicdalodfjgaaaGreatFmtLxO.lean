/- The parser's lexer: numbers. -/
import Derived.Test.YtiicdalodfjgaaaGreatFmtLb
import Derived.Test.YtiicdalodfjgaaaGreatFmtSf
import Derived.Test.YtiicdalodfjgaaaGreatFmtSr
import Derived.WalkMore
namespace Go.Proofs.YtiicdalodfjgaaaGreatFmt
open Go.RowKit Go.Extern.Stop Go.Stop Go.Extern
variable {F : Interp} {s : ByteArray} {b p ts c : Nat} {w : World}

theorem num_stop (s : ByteArray) (st p : Nat) (h : p ≤ s.size) (ht : nuT st (pk s p) = 11) : numE s st p = some p := by rw [numE_step s st p h, if_pos ht]
theorem num_fail (s : ByteArray) (st p : Nat) (h : p ≤ s.size) (ht : nuT st (pk s p) = 12) : numE s st p = none := by rw [numE_step s st p h, if_neg (by omega), if_pos ht]
theorem pk_at (s : ByteArray) (p : Nat) (h : 0 ≤ pk s p) (h2 : pk s p < 128) : p < s.size ∧ gb s p < 128 := by
  by_cases hp : p < s.size
  · refine ⟨hp, ?_⟩
    by_cases hl : gb s p < 128
    · exact hl
    · have := pk_high s p hp (by omega)
      omega
  · rw [pk_end s p hp] at h
    omega
theorem nuC0 (r : Int) (h : nuB r = true) : (r = 48 ∧ nuT 0 r = 1) ∨ (49 ≤ r ∧ r ≤ 57 ∧ nuT 0 r = 2) := by
  have h' := (nuB_iff r).1 h
  by_cases h48 : r = 48
  · left; subst h48; exact ⟨rfl, by decide⟩
  · right
    refine ⟨by omega, by omega, ?_⟩
    unfold nuT
    simp only [h]
    rw [if_neg h48]
    rfl
theorem nuC1 (r : Int) : (r = 46 ∧ nuT 1 r = 4) ∨ (r = 101 ∧ nuT 1 r = 7) ∨ (r = 69 ∧ nuT 1 r = 7) ∨ (r = 95 ∧ nuT 1 r = 12) ∨ (r ≠ 46 ∧ r ≠ 101 ∧ r ≠ 69 ∧ r ≠ 95 ∧ nuT 1 r = 11) := by
  by_cases g0 : r = 46
  · subst g0; exact Or.inl ⟨rfl, by decide⟩
  by_cases g1 : r = 101
  · subst g1; exact Or.inr (Or.inl ⟨rfl, by decide⟩)
  by_cases g2 : r = 69
  · subst g2; exact Or.inr (Or.inr (Or.inl ⟨rfl, by decide⟩))
  by_cases g3 : r = 95
  · subst g3; exact Or.inr (Or.inr (Or.inr (Or.inl ⟨rfl, by decide⟩)))
  refine Or.inr (Or.inr (Or.inr (Or.inr ⟨by omega, by omega, by omega, by omega, ?_⟩)))
  unfold nuT
  simp [*]
theorem nuC2 (r : Int) : (r = 46 ∧ nuT 2 r = 4) ∨ (r = 101 ∧ nuT 2 r = 7) ∨ (r = 69 ∧ nuT 2 r = 7) ∨ (r = 95 ∧ nuT 2 r = 3) ∨ (48 ≤ r ∧ r ≤ 57 ∧ nuT 2 r = 2) ∨ (r < 48 ∧ r ≠ 46 ∧ r ≠ 101 ∧ r ≠ 69 ∧ r ≠ 95 ∧ nuT 2 r = 11) ∨ (57 < r ∧ r ≠ 46 ∧ r ≠ 101 ∧ r ≠ 69 ∧ r ≠ 95 ∧ nuT 2 r = 11) := by
  by_cases g0 : r = 46
  · subst g0; exact Or.inl ⟨rfl, by decide⟩
  by_cases g1 : r = 101
  · subst g1; exact Or.inr (Or.inl ⟨rfl, by decide⟩)
  by_cases g2 : r = 69
  · subst g2; exact Or.inr (Or.inr (Or.inl ⟨rfl, by decide⟩))
  by_cases g3 : r = 95
  · subst g3; exact Or.inr (Or.inr (Or.inr (Or.inl ⟨rfl, by decide⟩)))
  by_cases g4 : nuB r = true
  · have g' := (nuB_iff r).1 g4
    refine Or.inr (Or.inr (Or.inr (Or.inr (Or.inl ⟨g'.1, g'.2, ?_⟩))))
    unfold nuT
    simp [*]
    try omega
  have g' : ¬ (48 ≤ r ∧ r ≤ 57) := fun e => g4 ((nuB_iff r).2 e)
  have hT : nuT 2 r = 11 := by
    unfold nuT
    simp [*]
  by_cases hl : r < 48
  · exact Or.inr (Or.inr (Or.inr (Or.inr (Or.inr (Or.inl ⟨hl, by omega, by omega, by omega, by omega, hT⟩)))))
  · exact Or.inr (Or.inr (Or.inr (Or.inr (Or.inr (Or.inr ⟨by omega, by omega, by omega, by omega, by omega, hT⟩)))))
theorem nuC3 (r : Int) : (48 ≤ r ∧ r ≤ 57 ∧ nuT 3 r = 2) ∨ (r < 48 ∧ nuT 3 r = 12) ∨ (57 < r ∧ nuT 3 r = 12) := by
  by_cases g0 : nuB r = true
  · have g' := (nuB_iff r).1 g0
    refine Or.inl ⟨g'.1, g'.2, ?_⟩
    unfold nuT
    simp [*]
    try omega
  have g' : ¬ (48 ≤ r ∧ r ≤ 57) := fun e => g0 ((nuB_iff r).2 e)
  have hT : nuT 3 r = 12 := by
    unfold nuT
    simp [*]
  by_cases hl : r < 48
  · exact Or.inr (Or.inl ⟨hl, hT⟩)
  · exact Or.inr (Or.inr ⟨by omega, hT⟩)
theorem nuC4 (r : Int) : (48 ≤ r ∧ r ≤ 57 ∧ nuT 4 r = 5) ∨ (r < 48 ∧ nuT 4 r = 12) ∨ (57 < r ∧ nuT 4 r = 12) := by
  by_cases g0 : nuB r = true
  · have g' := (nuB_iff r).1 g0
    refine Or.inl ⟨g'.1, g'.2, ?_⟩
    unfold nuT
    simp [*]
    try omega
  have g' : ¬ (48 ≤ r ∧ r ≤ 57) := fun e => g0 ((nuB_iff r).2 e)
  have hT : nuT 4 r = 12 := by
    unfold nuT
    simp [*]
  by_cases hl : r < 48
  · exact Or.inr (Or.inl ⟨hl, hT⟩)
  · exact Or.inr (Or.inr ⟨by omega, hT⟩)
theorem nuC5 (r : Int) : (r = 101 ∧ nuT 5 r = 7) ∨ (r = 69 ∧ nuT 5 r = 7) ∨ (r = 95 ∧ nuT 5 r = 6) ∨ (48 ≤ r ∧ r ≤ 57 ∧ nuT 5 r = 5) ∨ (r < 48 ∧ r ≠ 101 ∧ r ≠ 69 ∧ r ≠ 95 ∧ nuT 5 r = 11) ∨ (57 < r ∧ r ≠ 101 ∧ r ≠ 69 ∧ r ≠ 95 ∧ nuT 5 r = 11) := by
  by_cases g0 : r = 101
  · subst g0; exact Or.inl ⟨rfl, by decide⟩
  by_cases g1 : r = 69
  · subst g1; exact Or.inr (Or.inl ⟨rfl, by decide⟩)
  by_cases g2 : r = 95
  · subst g2; exact Or.inr (Or.inr (Or.inl ⟨rfl, by decide⟩))
  by_cases g3 : nuB r = true
  · have g' := (nuB_iff r).1 g3
    refine Or.inr (Or.inr (Or.inr (Or.inl ⟨g'.1, g'.2, ?_⟩)))
    unfold nuT
    simp [*]
    try omega
  have g' : ¬ (48 ≤ r ∧ r ≤ 57) := fun e => g3 ((nuB_iff r).2 e)
  have hT : nuT 5 r = 11 := by
    unfold nuT
    simp [*]
  by_cases hl : r < 48
  · exact Or.inr (Or.inr (Or.inr (Or.inr (Or.inl ⟨hl, by omega, by omega, by omega, hT⟩))))
  · exact Or.inr (Or.inr (Or.inr (Or.inr (Or.inr ⟨by omega, by omega, by omega, by omega, hT⟩))))
theorem nuC6 (r : Int) : (48 ≤ r ∧ r ≤ 57 ∧ nuT 6 r = 5) ∨ (r < 48 ∧ nuT 6 r = 12) ∨ (57 < r ∧ nuT 6 r = 12) := by
  by_cases g0 : nuB r = true
  · have g' := (nuB_iff r).1 g0
    refine Or.inl ⟨g'.1, g'.2, ?_⟩
    unfold nuT
    simp [*]
    try omega
  have g' : ¬ (48 ≤ r ∧ r ≤ 57) := fun e => g0 ((nuB_iff r).2 e)
  have hT : nuT 6 r = 12 := by
    unfold nuT
    simp [*]
  by_cases hl : r < 48
  · exact Or.inr (Or.inl ⟨hl, hT⟩)
  · exact Or.inr (Or.inr ⟨by omega, hT⟩)
theorem nuC7 (r : Int) : (r = 43 ∧ nuT 7 r = 8) ∨ (r = 45 ∧ nuT 7 r = 8) ∨ (48 ≤ r ∧ r ≤ 57 ∧ nuT 7 r = 9) ∨ (r < 48 ∧ r ≠ 43 ∧ r ≠ 45 ∧ nuT 7 r = 12) ∨ (57 < r ∧ r ≠ 43 ∧ r ≠ 45 ∧ nuT 7 r = 12) := by
  by_cases g0 : r = 43
  · subst g0; exact Or.inl ⟨rfl, by decide⟩
  by_cases g1 : r = 45
  · subst g1; exact Or.inr (Or.inl ⟨rfl, by decide⟩)
  by_cases g2 : nuB r = true
  · have g' := (nuB_iff r).1 g2
    refine Or.inr (Or.inr (Or.inl ⟨g'.1, g'.2, ?_⟩))
    unfold nuT
    simp [*]
    try omega
  have g' : ¬ (48 ≤ r ∧ r ≤ 57) := fun e => g2 ((nuB_iff r).2 e)
  have hT : nuT 7 r = 12 := by
    unfold nuT
    simp [*]
  by_cases hl : r < 48
  · exact Or.inr (Or.inr (Or.inr (Or.inl ⟨hl, by omega, by omega, hT⟩)))
  · exact Or.inr (Or.inr (Or.inr (Or.inr ⟨by omega, by omega, by omega, hT⟩)))
theorem nuC8 (r : Int) : (48 ≤ r ∧ r ≤ 57 ∧ nuT 8 r = 9) ∨ (r < 48 ∧ nuT 8 r = 12) ∨ (57 < r ∧ nuT 8 r = 12) := by
  by_cases g0 : nuB r = true
  · have g' := (nuB_iff r).1 g0
    refine Or.inl ⟨g'.1, g'.2, ?_⟩
    unfold nuT
    simp [*]
    try omega
  have g' : ¬ (48 ≤ r ∧ r ≤ 57) := fun e => g0 ((nuB_iff r).2 e)
  have hT : nuT 8 r = 12 := by
    unfold nuT
    simp [*]
  by_cases hl : r < 48
  · exact Or.inr (Or.inl ⟨hl, hT⟩)
  · exact Or.inr (Or.inr ⟨by omega, hT⟩)
theorem nuC9 (r : Int) : (r = 95 ∧ nuT 9 r = 10) ∨ (48 ≤ r ∧ r ≤ 57 ∧ nuT 9 r = 9) ∨ (r < 48 ∧ r ≠ 95 ∧ nuT 9 r = 11) ∨ (57 < r ∧ r ≠ 95 ∧ nuT 9 r = 11) := by
  by_cases g0 : r = 95
  · subst g0; exact Or.inl ⟨rfl, by decide⟩
  by_cases g1 : nuB r = true
  · have g' := (nuB_iff r).1 g1
    refine Or.inr (Or.inl ⟨g'.1, g'.2, ?_⟩)
    unfold nuT
    simp [*]
    try omega
  have g' : ¬ (48 ≤ r ∧ r ≤ 57) := fun e => g1 ((nuB_iff r).2 e)
  have hT : nuT 9 r = 11 := by
    unfold nuT
    simp [*]
  by_cases hl : r < 48
  · exact Or.inr (Or.inr (Or.inl ⟨hl, by omega, hT⟩))
  · exact Or.inr (Or.inr (Or.inr ⟨by omega, by omega, hT⟩))
theorem nuC10 (r : Int) : (48 ≤ r ∧ r ≤ 57 ∧ nuT 10 r = 9) ∨ (r < 48 ∧ nuT 10 r = 12) ∨ (57 < r ∧ nuT 10 r = 12) := by
  by_cases g0 : nuB r = true
  · have g' := (nuB_iff r).1 g0
    refine Or.inl ⟨g'.1, g'.2, ?_⟩
    unfold nuT
    simp [*]
    try omega
  have g' : ¬ (48 ≤ r ∧ r ≤ 57) := fun e => g0 ((nuB_iff r).2 e)
  have hT : nuT 10 r = 12 := by
    unfold nuT
    simp [*]
  by_cases hl : r < 48
  · exact Or.inr (Or.inl ⟨hl, hT⟩)
  · exact Or.inr (Or.inr ⟨by omega, hT⟩)
/-- the loop of lexNumber at a state: what stands at its head. -/
structure NumR (F : Interp) (s : ByteArray) (b p ts c B n j : Nat) (acc : List UInt8) (w wr : World) : Prop where
  st : Hid (numE s n j = numE s 0 p)
  ac : acc.length ≤ 4 * j
  bf : Buf B acc wr
  lx : LxL F s b j ts c wr
  gr : w.grownBy wr (some b)
theorem NumR.next {B n j n' : Nat} {acc acc' : List UInt8} {wr w1 w2 w3 : World} (h : NumR F s b p ts c B n j acc w wr) (hb1 : Below wr.heap.size wr w1) (hbuf2 : Buf B acc' w2) (hb2 : Below B w1 w2) (hw : w.heap.size ≤ B) (hbB : b < B) (hac : acc'.length ≤ acc.length + 4)
    (hL3 : LxL F s b (nx s j) ts c w3) (hg3 : w2.grownBy w3 (some b)) (ht : nuT n (pk s j) = n') (h1 : n' ≠ 11) (h2 : n' ≠ 12) : NumR F s b p ts c B n' (j + 1) acc' w w3 := by
  have hlow := nuT_low n (pk s j) (by omega) (by omega)
  have hat := pk_at s j hlow.1 hlow.2
  rw [nx_low s j hat.1 hat.2] at hL3
  have := h.ac
  exact ⟨Lib.hid (by rw [← h.st.out]; exact (num_go s n n' j hat.1 ht h1 h2).symm), by omega, hbuf2.only hg3 hbB, hL3, only_trans (only_of (only_trans h.gr (only_below hb1)) hb2 hw) hg3⟩
set_option maxRecDepth 100000 in
set_option maxHeartbeats 16000000 in
theorem num_lx (h : LxL F s b p ts c w) (hs : s.size ≤ 2000) (hbig : 2 ≤ w.heap.size) (hc : c ≤ 100000) (hp : p < s.size) (hd : digB (gb s p) = true) : Calls Tryz.prog 31 #[.pointer (some ⟨b, 0, none⟩)] w fun e w' => RdPost F s b (c + 1) (numE s 0 p) w e w' := by
  have lb := h.lt
  obtain ⟨B, hB⟩ : ∃ B, w.heap.size = B := ⟨_, rfl⟩
  have hal : ∀ o, Below w.heap.size w (w.alloc o) := fun o => (Below.refl _ _).alloc (Nat.le_refl _) o
  have hf : Buf B [] (w.alloc (.cells #[.slice none 0 0, .int .i64 0, .int .i8 0] 88)) := by rw [← hB]; exact Lib.fresh_isBuffer 88 5 w
  have h0 := h.below (hal (.cells #[.slice none 0 0, .int .i64 0, .int .i8 0] 88))
  have g0 : w.grownBy (w.alloc (.cells #[.slice none 0 0, .int .i64 0, .int .i8 0] 88)) (some b) := only_below (hal _)
  have HB : Hid (w.heap.size = B) := Lib.hid hB
  have hwB : w.heap.size ≤ B := Nat.le_of_eq hB
  have hbB : b < B := by omega
  have h2B : 2 ≤ B := by omega
  go_enter Tryz.func31, Tryz.ntmps31
  go_wp2_with fail
  go_step3
  go_wp2_with fail
  go_step3
  clear hB hal
  generalize w.alloc (.cells #[.slice none 0 0, .int .i64 0, .int .i8 0] 88) = w0 at *
  go_wp2_with fail
  go_loopg [4] (s.size + 1) (fun k st wr => ∃ (n j : Nat) (acc : List UInt8), st = .int .i64 n ∧ n ≤ 10 ∧ (n = 0 → j = p) ∧ s.size - j < k ∧ NumR F s b p ts c B n j acc w wr)
  case atStart => exact ⟨0, p, [], rfl, by omega, fun _ => rfl, by omega, ⟨Lib.hid rfl, by simp, hf, h0, g0⟩⟩
  case round =>
    clear h0 hf g0
    obtain ⟨n, j, acc, rfl, hn, hz, hk, HR⟩ := hrel
    obtain ⟨k, rfl⟩ : ∃ m, gk = m + 1 := ⟨gk - 1, by omega⟩
    have hj := HR.lx.lep
    have hacc := HR.ac
    have HL := HR.lx
    have hr := pk_range s j
    have he := enc_small (pk s j)
    have HWB : Below b w wr := below_only HR.gr (by omega)
    have hcases : n = 0 ∨ n = 1 ∨ n = 2 ∨ n = 3 ∨ n = 4 ∨ n = 5 ∨ n = 6 ∨ n = 7 ∨ n = 8 ∨ n = 9 ∨ n = 10 := by omega
    rcases hcases with rfl | rfl | rfl | rfl | rfl | rfl | rfl | rfl | rfl | rfl | rfl
    · -- state 0
      have hjp := hz rfl
      subst hjp
      have hcl := nuC0 (pk s j) (pk_dig s j hp hd).1
      obtain ⟨r, hr'⟩ : ∃ r, pk s j = r := ⟨_, rfl⟩
      rw [hr'] at hcl hr he
      rcases hcl with hcl | hcl
      · as_aux_lemma =>
        obtain ⟨rfl, hT⟩ := hcl
        have hT' : nuT 0 (pk s j) = 1 := by rw [hr']; exact hT
        have HT := Lib.hid hT'
        have HR' := Lib.hid hr'
        clear hT hT'
        go_wp2_with (first | (go_at_call 26; refine (peek_lx HL).mono ?_; rintro e w1 ⟨rfl, hb1⟩; have hB1 := LB.on ⟨HL, HWB⟩ hb1; have hbuf1 := HR.bf.old hb1; rw [HR'.out]) | (go_at_call 51; refine (wrune_any B acc _ (by omega) (by omega) _ hbuf1 (by omega)).mono ?_; rintro e w2 ⟨⟨v2, rfl⟩, hbuf2, hb2, hk2⟩; have hL2 := hB1.lx.kept hbuf1 hb2 h2B hk2) | (go_at_call 27; refine (next_any hL2 hs).mono ?_; intro e w3 hnx; unfold NxPost at hnx; obtain ⟨rfl, hL3, hb3, hg3⟩ := hnx))
        go_roundg k
        case measure => omega
        case rel =>
          have hlow := nuT_low 0 (pk s j) (by have := HT.out; omega) (by have := HT.out; omega)
          have hat := pk_at s j hlow.1 hlow.2
          exact ⟨1, j + 1, _, rfl, by omega, by omega, by omega, HR.next hb1 hbuf2 hb2 hwB hbB (by rw [List.length_append]; omega) hL3 hg3 HT.out (by decide) (by decide)⟩
      · as_aux_lemma =>
        obtain ⟨h1, h2, hT⟩ := hcl
        have e48 : (r == 48) = false := by simp; omega
        have e95 : (r == 95) = false := by simp; omega
        have n95 : (r != 95) = true := by simp; omega
        have hT' : nuT 0 (pk s j) = 2 := by rw [hr']; exact hT
        have HT := Lib.hid hT'
        have HR' := Lib.hid hr'
        clear hT hT'
        go_wp2_with (first | (go_at_call 26; refine (peek_lx HL).mono ?_; rintro e w1 ⟨rfl, hb1⟩; have hB1 := LB.on ⟨HL, HWB⟩ hb1; have hbuf1 := HR.bf.old hb1; rw [HR'.out]) | (go_at_call 51; refine (wrune_any B acc _ (by omega) (by omega) _ hbuf1 (by omega)).mono ?_; rintro e w2 ⟨⟨v2, rfl⟩, hbuf2, hb2, hk2⟩; have hL2 := hB1.lx.kept hbuf1 hb2 h2B hk2) | (go_at_call 27; refine (next_any hL2 hs).mono ?_; intro e w3 hnx; unfold NxPost at hnx; obtain ⟨rfl, hL3, hb3, hg3⟩ := hnx))
        go_roundg k
        case measure => omega
        case rel =>
          have hlow := nuT_low 0 (pk s j) (by have := HT.out; omega) (by have := HT.out; omega)
          have hat := pk_at s j hlow.1 hlow.2
          exact ⟨2, j + 1, _, rfl, by omega, by omega, by omega, HR.next hb1 hbuf2 hb2 hwB hbB (by rw [List.length_append]; omega) hL3 hg3 HT.out (by decide) (by decide)⟩
    · -- state 1
      have hcl := nuC1 (pk s j)
      obtain ⟨r, hr'⟩ : ∃ r, pk s j = r := ⟨_, rfl⟩
      rw [hr'] at hcl hr he
      rcases hcl with hcl | hcl | hcl | hcl | hcl
      · as_aux_lemma =>
        obtain ⟨rfl, hT⟩ := hcl
        have hT' : nuT 1 (pk s j) = 4 := by rw [hr']; exact hT
        have HT := Lib.hid hT'
        have HR' := Lib.hid hr'
        clear hT hT'
        go_wp2_with (first | (go_at_call 26; refine (peek_lx HL).mono ?_; rintro e w1 ⟨rfl, hb1⟩; have hB1 := LB.on ⟨HL, HWB⟩ hb1; have hbuf1 := HR.bf.old hb1; rw [HR'.out]) | (go_at_call 51; refine (wrune_any B acc _ (by omega) (by omega) _ hbuf1 (by omega)).mono ?_; rintro e w2 ⟨⟨v2, rfl⟩, hbuf2, hb2, hk2⟩; have hL2 := hB1.lx.kept hbuf1 hb2 h2B hk2) | (go_at_call 27; refine (next_any hL2 hs).mono ?_; intro e w3 hnx; unfold NxPost at hnx; obtain ⟨rfl, hL3, hb3, hg3⟩ := hnx))
        go_roundg k
        case measure => omega
        case rel =>
          have hlow := nuT_low 1 (pk s j) (by have := HT.out; omega) (by have := HT.out; omega)
          have hat := pk_at s j hlow.1 hlow.2
          exact ⟨4, j + 1, _, rfl, by omega, by omega, by omega, HR.next hb1 hbuf2 hb2 hwB hbB (by rw [List.length_append]; omega) hL3 hg3 HT.out (by decide) (by decide)⟩
      · as_aux_lemma =>
        obtain ⟨rfl, hT⟩ := hcl
        have hT' : nuT 1 (pk s j) = 7 := by rw [hr']; exact hT
        have HT := Lib.hid hT'
        have HR' := Lib.hid hr'
        clear hT hT'
        go_wp2_with (first | (go_at_call 26; refine (peek_lx HL).mono ?_; rintro e w1 ⟨rfl, hb1⟩; have hB1 := LB.on ⟨HL, HWB⟩ hb1; have hbuf1 := HR.bf.old hb1; rw [HR'.out]) | (go_at_call 51; refine (wrune_any B acc _ (by omega) (by omega) _ hbuf1 (by omega)).mono ?_; rintro e w2 ⟨⟨v2, rfl⟩, hbuf2, hb2, hk2⟩; have hL2 := hB1.lx.kept hbuf1 hb2 h2B hk2) | (go_at_call 27; refine (next_any hL2 hs).mono ?_; intro e w3 hnx; unfold NxPost at hnx; obtain ⟨rfl, hL3, hb3, hg3⟩ := hnx))
        go_roundg k
        case measure => omega
        case rel =>
          have hlow := nuT_low 1 (pk s j) (by have := HT.out; omega) (by have := HT.out; omega)
          have hat := pk_at s j hlow.1 hlow.2
          exact ⟨7, j + 1, _, rfl, by omega, by omega, by omega, HR.next hb1 hbuf2 hb2 hwB hbB (by rw [List.length_append]; omega) hL3 hg3 HT.out (by decide) (by decide)⟩
      · as_aux_lemma =>
        obtain ⟨rfl, hT⟩ := hcl
        have hT' : nuT 1 (pk s j) = 7 := by rw [hr']; exact hT
        have HT := Lib.hid hT'
        have HR' := Lib.hid hr'
        clear hT hT'
        go_wp2_with (first | (go_at_call 26; refine (peek_lx HL).mono ?_; rintro e w1 ⟨rfl, hb1⟩; have hB1 := LB.on ⟨HL, HWB⟩ hb1; have hbuf1 := HR.bf.old hb1; rw [HR'.out]) | (go_at_call 51; refine (wrune_any B acc _ (by omega) (by omega) _ hbuf1 (by omega)).mono ?_; rintro e w2 ⟨⟨v2, rfl⟩, hbuf2, hb2, hk2⟩; have hL2 := hB1.lx.kept hbuf1 hb2 h2B hk2) | (go_at_call 27; refine (next_any hL2 hs).mono ?_; intro e w3 hnx; unfold NxPost at hnx; obtain ⟨rfl, hL3, hb3, hg3⟩ := hnx))
        go_roundg k
        case measure => omega
        case rel =>
          have hlow := nuT_low 1 (pk s j) (by have := HT.out; omega) (by have := HT.out; omega)
          have hat := pk_at s j hlow.1 hlow.2
          exact ⟨7, j + 1, _, rfl, by omega, by omega, by omega, HR.next hb1 hbuf2 hb2 hwB hbB (by rw [List.length_append]; omega) hL3 hg3 HT.out (by decide) (by decide)⟩
      · as_aux_lemma =>
        obtain ⟨rfl, hT⟩ := hcl
        have hT' : nuT 1 (pk s j) = 12 := by rw [hr']; exact hT
        have HT := Lib.hid hT'
        have HR' := Lib.hid hr'
        clear hT hT'
        go_wp2_with (first | (go_at_call 26; refine (peek_lx HL).mono ?_; rintro e w1 ⟨rfl, hb1⟩; have hB1 := LB.on ⟨HL, HWB⟩ hb1; have hbuf1 := HR.bf.old hb1; rw [HR'.out]; have hF' := answers_open hB1.lx.ans) | (go_at_call 32; refine (location_any (hB1.on (by repeat (first | exact Below.refl _ _ | apply Below.drew | (refine Below.alloc ?_ (by simp) _)))).lx).mono ?_; rintro e w3 ⟨⟨l3, k3, rfl⟩, hb3⟩; have hB3 := (hB1.on (by repeat (first | exact Below.refl _ _ | apply Below.drew | (refine Below.alloc ?_ (by simp) _)))).on hb3) | (go_at_call 33; refine (err_any _ _ _ hB3.lx).mono ?_; rintro e w4 ⟨⟨v4, rfl⟩, hb4⟩; have hB4 := hB3.on hb4))
        (try rw [Exit.noGoto_ret])
        go_ret
        exact rd_none (by rw [← HR.st.out]; exact num_fail s 1 j hj HT.out) hB4.be
      · as_aux_lemma =>
        obtain ⟨g46, g101, g69, g95, hT⟩ := hcl
        have e46 : (r == 46) = false := by simpa using g46
        have e101 : (r == 101) = false := by simpa using g101
        have e69 : (r == 69) = false := by simpa using g69
        have e95 : (r == 95) = false := by simpa using g95
        clear g46 g101 g69 g95
        have hT' : nuT 1 (pk s j) = 11 := by rw [hr']; exact hT
        have HT := Lib.hid hT'
        have HR' := Lib.hid hr'
        clear hT hT'
        go_wp2_with (first | (go_at_call 26; refine (peek_lx HL).mono ?_; rintro e w1 ⟨rfl, hb1⟩; have hB1 := LB.on ⟨HL, HWB⟩ hb1; have hbuf1 := HR.bf.old hb1; rw [HR'.out]) | (go_at_call 52; refine (bstr_any B _ _ hbuf1).mono ?_; rintro e w3 ⟨rfl, m3, hw3⟩; have hB3 := hB1.on (bel_dn hw3); clear hw3) | (go_at_call 34; refine (emitFull_any _ _ _ _ hB3.lx hc).mono ?_; rintro e w4 ⟨⟨v4, rfl⟩, hL4, hb4⟩; have hB4 := hB3.to hL4 hb4) | (go_at_call 28; refine (reset_any hB4.lx).mono ?_; rintro e w5 ⟨⟨v5, rfl⟩, hL5, hb5⟩; have hB5 := hB4.to hL5 hb5))
        (try rw [Exit.noGoto_ret])
        go_ret
        exact rd_some (by rw [← HR.st.out]; exact num_stop s 1 j hj HT.out) hB5
    · -- state 2
      have hcl := nuC2 (pk s j)
      obtain ⟨r, hr'⟩ : ∃ r, pk s j = r := ⟨_, rfl⟩
      rw [hr'] at hcl hr he
      rcases hcl with hcl | hcl | hcl | hcl | hcl | hcl | hcl
      · as_aux_lemma =>
        obtain ⟨rfl, hT⟩ := hcl
        have hT' : nuT 2 (pk s j) = 4 := by rw [hr']; exact hT
        have HT := Lib.hid hT'
        have HR' := Lib.hid hr'
        clear hT hT'
        go_wp2_with (first | (go_at_call 26; refine (peek_lx HL).mono ?_; rintro e w1 ⟨rfl, hb1⟩; have hB1 := LB.on ⟨HL, HWB⟩ hb1; have hbuf1 := HR.bf.old hb1; rw [HR'.out]) | (go_at_call 51; refine (wrune_any B acc _ (by omega) (by omega) _ hbuf1 (by omega)).mono ?_; rintro e w2 ⟨⟨v2, rfl⟩, hbuf2, hb2, hk2⟩; have hL2 := hB1.lx.kept hbuf1 hb2 h2B hk2) | (go_at_call 27; refine (next_any hL2 hs).mono ?_; intro e w3 hnx; unfold NxPost at hnx; obtain ⟨rfl, hL3, hb3, hg3⟩ := hnx))
        go_roundg k
        case measure => omega
        case rel =>
          have hlow := nuT_low 2 (pk s j) (by have := HT.out; omega) (by have := HT.out; omega)
          have hat := pk_at s j hlow.1 hlow.2
          exact ⟨4, j + 1, _, rfl, by omega, by omega, by omega, HR.next hb1 hbuf2 hb2 hwB hbB (by rw [List.length_append]; omega) hL3 hg3 HT.out (by decide) (by decide)⟩
      · as_aux_lemma =>
        obtain ⟨rfl, hT⟩ := hcl
        have hT' : nuT 2 (pk s j) = 7 := by rw [hr']; exact hT
        have HT := Lib.hid hT'
        have HR' := Lib.hid hr'
        clear hT hT'
        go_wp2_with (first | (go_at_call 26; refine (peek_lx HL).mono ?_; rintro e w1 ⟨rfl, hb1⟩; have hB1 := LB.on ⟨HL, HWB⟩ hb1; have hbuf1 := HR.bf.old hb1; rw [HR'.out]) | (go_at_call 51; refine (wrune_any B acc _ (by omega) (by omega) _ hbuf1 (by omega)).mono ?_; rintro e w2 ⟨⟨v2, rfl⟩, hbuf2, hb2, hk2⟩; have hL2 := hB1.lx.kept hbuf1 hb2 h2B hk2) | (go_at_call 27; refine (next_any hL2 hs).mono ?_; intro e w3 hnx; unfold NxPost at hnx; obtain ⟨rfl, hL3, hb3, hg3⟩ := hnx))
        go_roundg k
        case measure => omega
        case rel =>
          have hlow := nuT_low 2 (pk s j) (by have := HT.out; omega) (by have := HT.out; omega)
          have hat := pk_at s j hlow.1 hlow.2
          exact ⟨7, j + 1, _, rfl, by omega, by omega, by omega, HR.next hb1 hbuf2 hb2 hwB hbB (by rw [List.length_append]; omega) hL3 hg3 HT.out (by decide) (by decide)⟩
      · as_aux_lemma =>
        obtain ⟨rfl, hT⟩ := hcl
        have hT' : nuT 2 (pk s j) = 7 := by rw [hr']; exact hT
        have HT := Lib.hid hT'
        have HR' := Lib.hid hr'
        clear hT hT'
        go_wp2_with (first | (go_at_call 26; refine (peek_lx HL).mono ?_; rintro e w1 ⟨rfl, hb1⟩; have hB1 := LB.on ⟨HL, HWB⟩ hb1; have hbuf1 := HR.bf.old hb1; rw [HR'.out]) | (go_at_call 51; refine (wrune_any B acc _ (by omega) (by omega) _ hbuf1 (by omega)).mono ?_; rintro e w2 ⟨⟨v2, rfl⟩, hbuf2, hb2, hk2⟩; have hL2 := hB1.lx.kept hbuf1 hb2 h2B hk2) | (go_at_call 27; refine (next_any hL2 hs).mono ?_; intro e w3 hnx; unfold NxPost at hnx; obtain ⟨rfl, hL3, hb3, hg3⟩ := hnx))
        go_roundg k
        case measure => omega
        case rel =>
          have hlow := nuT_low 2 (pk s j) (by have := HT.out; omega) (by have := HT.out; omega)
          have hat := pk_at s j hlow.1 hlow.2
          exact ⟨7, j + 1, _, rfl, by omega, by omega, by omega, HR.next hb1 hbuf2 hb2 hwB hbB (by rw [List.length_append]; omega) hL3 hg3 HT.out (by decide) (by decide)⟩
      · as_aux_lemma =>
        obtain ⟨rfl, hT⟩ := hcl
        have hT' : nuT 2 (pk s j) = 3 := by rw [hr']; exact hT
        have HT := Lib.hid hT'
        have HR' := Lib.hid hr'
        clear hT hT'
        go_wp2_with (first | (go_at_call 26; refine (peek_lx HL).mono ?_; rintro e w1 ⟨rfl, hb1⟩; have hB1 := LB.on ⟨HL, HWB⟩ hb1; have hbuf1 := HR.bf.old hb1; rw [HR'.out]) | (go_at_call 27; refine (next_any hB1.lx hs).mono ?_; intro e w3 hnx; unfold NxPost at hnx; obtain ⟨rfl, hL3, hb3, hg3⟩ := hnx))
        go_roundg k
        case measure => omega
        case rel =>
          have hlow := nuT_low 2 (pk s j) (by have := HT.out; omega) (by have := HT.out; omega)
          have hat := pk_at s j hlow.1 hlow.2
          exact ⟨3, j + 1, _, rfl, by omega, by omega, by omega, HR.next hb1 hbuf1 (Below.refl _ _) hwB hbB (by omega) hL3 hg3 HT.out (by decide) (by decide)⟩
      · as_aux_lemma =>
        obtain ⟨h1, h2, hT⟩ := hcl
        have e46 : (r == 46) = false := by simp; omega
        have e69 : (r == 69) = false := by simp; omega
        have e95 : (r == 95) = false := by simp; omega
        have e101 : (r == 101) = false := by simp; omega
        have n95 : (r != 95) = true := by simp; omega
        have hT' : nuT 2 (pk s j) = 2 := by rw [hr']; exact hT
        have HT := Lib.hid hT'
        have HR' := Lib.hid hr'
        clear hT hT'
        go_wp2_with (first | (go_at_call 26; refine (peek_lx HL).mono ?_; rintro e w1 ⟨rfl, hb1⟩; have hB1 := LB.on ⟨HL, HWB⟩ hb1; have hbuf1 := HR.bf.old hb1; rw [HR'.out]) | (go_at_call 51; refine (wrune_any B acc _ (by omega) (by omega) _ hbuf1 (by omega)).mono ?_; rintro e w2 ⟨⟨v2, rfl⟩, hbuf2, hb2, hk2⟩; have hL2 := hB1.lx.kept hbuf1 hb2 h2B hk2) | (go_at_call 27; refine (next_any hL2 hs).mono ?_; intro e w3 hnx; unfold NxPost at hnx; obtain ⟨rfl, hL3, hb3, hg3⟩ := hnx))
        go_roundg k
        case measure => omega
        case rel =>
          have hlow := nuT_low 2 (pk s j) (by have := HT.out; omega) (by have := HT.out; omega)
          have hat := pk_at s j hlow.1 hlow.2
          exact ⟨2, j + 1, _, rfl, by omega, by omega, by omega, HR.next hb1 hbuf2 hb2 hwB hbB (by rw [List.length_append]; omega) hL3 hg3 HT.out (by decide) (by decide)⟩
      · as_aux_lemma =>
        obtain ⟨h1, g46, g101, g69, g95, hT⟩ := hcl
        have e46 : (r == 46) = false := by simpa using g46
        have e101 : (r == 101) = false := by simpa using g101
        have e69 : (r == 69) = false := by simpa using g69
        have e95 : (r == 95) = false := by simpa using g95
        clear g46 g101 g69 g95
        have hT' : nuT 2 (pk s j) = 11 := by rw [hr']; exact hT
        have HT := Lib.hid hT'
        have HR' := Lib.hid hr'
        clear hT hT'
        go_wp2_with (first | (go_at_call 26; refine (peek_lx HL).mono ?_; rintro e w1 ⟨rfl, hb1⟩; have hB1 := LB.on ⟨HL, HWB⟩ hb1; have hbuf1 := HR.bf.old hb1; rw [HR'.out]) | (go_at_call 52; refine (bstr_any B _ _ hbuf1).mono ?_; rintro e w3 ⟨rfl, m3, hw3⟩; have hB3 := hB1.on (bel_dn hw3); clear hw3) | (go_at_call 34; refine (emitFull_any _ _ _ _ hB3.lx hc).mono ?_; rintro e w4 ⟨⟨v4, rfl⟩, hL4, hb4⟩; have hB4 := hB3.to hL4 hb4) | (go_at_call 28; refine (reset_any hB4.lx).mono ?_; rintro e w5 ⟨⟨v5, rfl⟩, hL5, hb5⟩; have hB5 := hB4.to hL5 hb5))
        (try rw [Exit.noGoto_ret])
        go_ret
        exact rd_some (by rw [← HR.st.out]; exact num_stop s 2 j hj HT.out) hB5
      · as_aux_lemma =>
        obtain ⟨h1, g46, g101, g69, g95, hT⟩ := hcl
        have e46 : (r == 46) = false := by simpa using g46
        have e101 : (r == 101) = false := by simpa using g101
        have e69 : (r == 69) = false := by simpa using g69
        have e95 : (r == 95) = false := by simpa using g95
        clear g46 g101 g69 g95
        have h2 : 48 ≤ r := by omega
        have hT' : nuT 2 (pk s j) = 11 := by rw [hr']; exact hT
        have HT := Lib.hid hT'
        have HR' := Lib.hid hr'
        clear hT hT'
        go_wp2_with (first | (go_at_call 26; refine (peek_lx HL).mono ?_; rintro e w1 ⟨rfl, hb1⟩; have hB1 := LB.on ⟨HL, HWB⟩ hb1; have hbuf1 := HR.bf.old hb1; rw [HR'.out]) | (go_at_call 52; refine (bstr_any B _ _ hbuf1).mono ?_; rintro e w3 ⟨rfl, m3, hw3⟩; have hB3 := hB1.on (bel_dn hw3); clear hw3) | (go_at_call 34; refine (emitFull_any _ _ _ _ hB3.lx hc).mono ?_; rintro e w4 ⟨⟨v4, rfl⟩, hL4, hb4⟩; have hB4 := hB3.to hL4 hb4) | (go_at_call 28; refine (reset_any hB4.lx).mono ?_; rintro e w5 ⟨⟨v5, rfl⟩, hL5, hb5⟩; have hB5 := hB4.to hL5 hb5))
        (try rw [Exit.noGoto_ret])
        go_ret
        exact rd_some (by rw [← HR.st.out]; exact num_stop s 2 j hj HT.out) hB5
    · -- state 3
      have hcl := nuC3 (pk s j)
      obtain ⟨r, hr'⟩ : ∃ r, pk s j = r := ⟨_, rfl⟩
      rw [hr'] at hcl hr he
      rcases hcl with hcl | hcl | hcl
      · as_aux_lemma =>
        obtain ⟨h1, h2, hT⟩ := hcl
        have e95 : (r == 95) = false := by simp; omega
        have n95 : (r != 95) = true := by simp; omega
        have hT' : nuT 3 (pk s j) = 2 := by rw [hr']; exact hT
        have HT := Lib.hid hT'
        have HR' := Lib.hid hr'
        clear hT hT'
        go_wp2_with (first | (go_at_call 26; refine (peek_lx HL).mono ?_; rintro e w1 ⟨rfl, hb1⟩; have hB1 := LB.on ⟨HL, HWB⟩ hb1; have hbuf1 := HR.bf.old hb1; rw [HR'.out]) | (go_at_call 51; refine (wrune_any B acc _ (by omega) (by omega) _ hbuf1 (by omega)).mono ?_; rintro e w2 ⟨⟨v2, rfl⟩, hbuf2, hb2, hk2⟩; have hL2 := hB1.lx.kept hbuf1 hb2 h2B hk2) | (go_at_call 27; refine (next_any hL2 hs).mono ?_; intro e w3 hnx; unfold NxPost at hnx; obtain ⟨rfl, hL3, hb3, hg3⟩ := hnx))
        go_roundg k
        case measure => omega
        case rel =>
          have hlow := nuT_low 3 (pk s j) (by have := HT.out; omega) (by have := HT.out; omega)
          have hat := pk_at s j hlow.1 hlow.2
          exact ⟨2, j + 1, _, rfl, by omega, by omega, by omega, HR.next hb1 hbuf2 hb2 hwB hbB (by rw [List.length_append]; omega) hL3 hg3 HT.out (by decide) (by decide)⟩
      · as_aux_lemma =>
        obtain ⟨h1, hT⟩ := hcl
        have hT' : nuT 3 (pk s j) = 12 := by rw [hr']; exact hT
        have HT := Lib.hid hT'
        have HR' := Lib.hid hr'
        clear hT hT'
        go_wp2_with (first | (go_at_call 26; refine (peek_lx HL).mono ?_; rintro e w1 ⟨rfl, hb1⟩; have hB1 := LB.on ⟨HL, HWB⟩ hb1; have hbuf1 := HR.bf.old hb1; rw [HR'.out]) | (go_at_call 40; refine (quote_any _ _).mono ?_; rintro e w2 ⟨⟨t2, rfl⟩, hb2⟩; have hB2 := hB1.on hb2; have hF' := answers_open hB2.lx.ans) | (go_at_call 32; refine (location_any (hB2.on (by repeat (first | exact Below.refl _ _ | apply Below.drew | (refine Below.alloc ?_ (by simp) _)))).lx).mono ?_; rintro e w3 ⟨⟨l3, k3, rfl⟩, hb3⟩; have hB3 := (hB2.on (by repeat (first | exact Below.refl _ _ | apply Below.drew | (refine Below.alloc ?_ (by simp) _)))).on hb3) | (go_at_call 33; refine (err_any _ _ _ hB3.lx).mono ?_; rintro e w4 ⟨⟨v4, rfl⟩, hb4⟩; have hB4 := hB3.on hb4))
        (try rw [Exit.noGoto_ret])
        go_ret
        exact rd_none (by rw [← HR.st.out]; exact num_fail s 3 j hj HT.out) hB4.be
      · as_aux_lemma =>
        obtain ⟨h1, hT⟩ := hcl
        have h2 : 48 ≤ r := by omega
        have hT' : nuT 3 (pk s j) = 12 := by rw [hr']; exact hT
        have HT := Lib.hid hT'
        have HR' := Lib.hid hr'
        clear hT hT'
        go_wp2_with (first | (go_at_call 26; refine (peek_lx HL).mono ?_; rintro e w1 ⟨rfl, hb1⟩; have hB1 := LB.on ⟨HL, HWB⟩ hb1; have hbuf1 := HR.bf.old hb1; rw [HR'.out]) | (go_at_call 40; refine (quote_any _ _).mono ?_; rintro e w2 ⟨⟨t2, rfl⟩, hb2⟩; have hB2 := hB1.on hb2; have hF' := answers_open hB2.lx.ans) | (go_at_call 32; refine (location_any (hB2.on (by repeat (first | exact Below.refl _ _ | apply Below.drew | (refine Below.alloc ?_ (by simp) _)))).lx).mono ?_; rintro e w3 ⟨⟨l3, k3, rfl⟩, hb3⟩; have hB3 := (hB2.on (by repeat (first | exact Below.refl _ _ | apply Below.drew | (refine Below.alloc ?_ (by simp) _)))).on hb3) | (go_at_call 33; refine (err_any _ _ _ hB3.lx).mono ?_; rintro e w4 ⟨⟨v4, rfl⟩, hb4⟩; have hB4 := hB3.on hb4))
        (try rw [Exit.noGoto_ret])
        go_ret
        exact rd_none (by rw [← HR.st.out]; exact num_fail s 3 j hj HT.out) hB4.be
    · -- state 4
      have hcl := nuC4 (pk s j)
      obtain ⟨r, hr'⟩ : ∃ r, pk s j = r := ⟨_, rfl⟩
      rw [hr'] at hcl hr he
      rcases hcl with hcl | hcl | hcl
      · as_aux_lemma =>
        obtain ⟨h1, h2, hT⟩ := hcl
        have e95 : (r == 95) = false := by simp; omega
        have n95 : (r != 95) = true := by simp; omega
        have hT' : nuT 4 (pk s j) = 5 := by rw [hr']; exact hT
        have HT := Lib.hid hT'
        have HR' := Lib.hid hr'
        clear hT hT'
        go_wp2_with (first | (go_at_call 26; refine (peek_lx HL).mono ?_; rintro e w1 ⟨rfl, hb1⟩; have hB1 := LB.on ⟨HL, HWB⟩ hb1; have hbuf1 := HR.bf.old hb1; rw [HR'.out]) | (go_at_call 51; refine (wrune_any B acc _ (by omega) (by omega) _ hbuf1 (by omega)).mono ?_; rintro e w2 ⟨⟨v2, rfl⟩, hbuf2, hb2, hk2⟩; have hL2 := hB1.lx.kept hbuf1 hb2 h2B hk2) | (go_at_call 27; refine (next_any hL2 hs).mono ?_; intro e w3 hnx; unfold NxPost at hnx; obtain ⟨rfl, hL3, hb3, hg3⟩ := hnx))
        go_roundg k
        case measure => omega
        case rel =>
          have hlow := nuT_low 4 (pk s j) (by have := HT.out; omega) (by have := HT.out; omega)
          have hat := pk_at s j hlow.1 hlow.2
          exact ⟨5, j + 1, _, rfl, by omega, by omega, by omega, HR.next hb1 hbuf2 hb2 hwB hbB (by rw [List.length_append]; omega) hL3 hg3 HT.out (by decide) (by decide)⟩
      · as_aux_lemma =>
        obtain ⟨h1, hT⟩ := hcl
        have hT' : nuT 4 (pk s j) = 12 := by rw [hr']; exact hT
        have HT := Lib.hid hT'
        have HR' := Lib.hid hr'
        clear hT hT'
        go_wp2_with (first | (go_at_call 26; refine (peek_lx HL).mono ?_; rintro e w1 ⟨rfl, hb1⟩; have hB1 := LB.on ⟨HL, HWB⟩ hb1; have hbuf1 := HR.bf.old hb1; rw [HR'.out]) | (go_at_call 40; refine (quote_any _ _).mono ?_; rintro e w2 ⟨⟨t2, rfl⟩, hb2⟩; have hB2 := hB1.on hb2; have hF' := answers_open hB2.lx.ans) | (go_at_call 32; refine (location_any (hB2.on (by repeat (first | exact Below.refl _ _ | apply Below.drew | (refine Below.alloc ?_ (by simp) _)))).lx).mono ?_; rintro e w3 ⟨⟨l3, k3, rfl⟩, hb3⟩; have hB3 := (hB2.on (by repeat (first | exact Below.refl _ _ | apply Below.drew | (refine Below.alloc ?_ (by simp) _)))).on hb3) | (go_at_call 33; refine (err_any _ _ _ hB3.lx).mono ?_; rintro e w4 ⟨⟨v4, rfl⟩, hb4⟩; have hB4 := hB3.on hb4))
        (try rw [Exit.noGoto_ret])
        go_ret
        exact rd_none (by rw [← HR.st.out]; exact num_fail s 4 j hj HT.out) hB4.be
      · as_aux_lemma =>
        obtain ⟨h1, hT⟩ := hcl
        have h2 : 48 ≤ r := by omega
        have hT' : nuT 4 (pk s j) = 12 := by rw [hr']; exact hT
        have HT := Lib.hid hT'
        have HR' := Lib.hid hr'
        clear hT hT'
        go_wp2_with (first | (go_at_call 26; refine (peek_lx HL).mono ?_; rintro e w1 ⟨rfl, hb1⟩; have hB1 := LB.on ⟨HL, HWB⟩ hb1; have hbuf1 := HR.bf.old hb1; rw [HR'.out]) | (go_at_call 40; refine (quote_any _ _).mono ?_; rintro e w2 ⟨⟨t2, rfl⟩, hb2⟩; have hB2 := hB1.on hb2; have hF' := answers_open hB2.lx.ans) | (go_at_call 32; refine (location_any (hB2.on (by repeat (first | exact Below.refl _ _ | apply Below.drew | (refine Below.alloc ?_ (by simp) _)))).lx).mono ?_; rintro e w3 ⟨⟨l3, k3, rfl⟩, hb3⟩; have hB3 := (hB2.on (by repeat (first | exact Below.refl _ _ | apply Below.drew | (refine Below.alloc ?_ (by simp) _)))).on hb3) | (go_at_call 33; refine (err_any _ _ _ hB3.lx).mono ?_; rintro e w4 ⟨⟨v4, rfl⟩, hb4⟩; have hB4 := hB3.on hb4))
        (try rw [Exit.noGoto_ret])
        go_ret
        exact rd_none (by rw [← HR.st.out]; exact num_fail s 4 j hj HT.out) hB4.be
    · -- state 5
      have hcl := nuC5 (pk s j)
      obtain ⟨r, hr'⟩ : ∃ r, pk s j = r := ⟨_, rfl⟩
      rw [hr'] at hcl hr he
      rcases hcl with hcl | hcl | hcl | hcl | hcl | hcl
      · as_aux_lemma =>
        obtain ⟨rfl, hT⟩ := hcl
        have hT' : nuT 5 (pk s j) = 7 := by rw [hr']; exact hT
        have HT := Lib.hid hT'
        have HR' := Lib.hid hr'
        clear hT hT'
        go_wp2_with (first | (go_at_call 26; refine (peek_lx HL).mono ?_; rintro e w1 ⟨rfl, hb1⟩; have hB1 := LB.on ⟨HL, HWB⟩ hb1; have hbuf1 := HR.bf.old hb1; rw [HR'.out]) | (go_at_call 51; refine (wrune_any B acc _ (by omega) (by omega) _ hbuf1 (by omega)).mono ?_; rintro e w2 ⟨⟨v2, rfl⟩, hbuf2, hb2, hk2⟩; have hL2 := hB1.lx.kept hbuf1 hb2 h2B hk2) | (go_at_call 27; refine (next_any hL2 hs).mono ?_; intro e w3 hnx; unfold NxPost at hnx; obtain ⟨rfl, hL3, hb3, hg3⟩ := hnx))
        go_roundg k
        case measure => omega
        case rel =>
          have hlow := nuT_low 5 (pk s j) (by have := HT.out; omega) (by have := HT.out; omega)
          have hat := pk_at s j hlow.1 hlow.2
          exact ⟨7, j + 1, _, rfl, by omega, by omega, by omega, HR.next hb1 hbuf2 hb2 hwB hbB (by rw [List.length_append]; omega) hL3 hg3 HT.out (by decide) (by decide)⟩
      · as_aux_lemma =>
        obtain ⟨rfl, hT⟩ := hcl
        have hT' : nuT 5 (pk s j) = 7 := by rw [hr']; exact hT
        have HT := Lib.hid hT'
        have HR' := Lib.hid hr'
        clear hT hT'
        go_wp2_with (first | (go_at_call 26; refine (peek_lx HL).mono ?_; rintro e w1 ⟨rfl, hb1⟩; have hB1 := LB.on ⟨HL, HWB⟩ hb1; have hbuf1 := HR.bf.old hb1; rw [HR'.out]) | (go_at_call 51; refine (wrune_any B acc _ (by omega) (by omega) _ hbuf1 (by omega)).mono ?_; rintro e w2 ⟨⟨v2, rfl⟩, hbuf2, hb2, hk2⟩; have hL2 := hB1.lx.kept hbuf1 hb2 h2B hk2) | (go_at_call 27; refine (next_any hL2 hs).mono ?_; intro e w3 hnx; unfold NxPost at hnx; obtain ⟨rfl, hL3, hb3, hg3⟩ := hnx))
        go_roundg k
        case measure => omega
        case rel =>
          have hlow := nuT_low 5 (pk s j) (by have := HT.out; omega) (by have := HT.out; omega)
          have hat := pk_at s j hlow.1 hlow.2
          exact ⟨7, j + 1, _, rfl, by omega, by omega, by omega, HR.next hb1 hbuf2 hb2 hwB hbB (by rw [List.length_append]; omega) hL3 hg3 HT.out (by decide) (by decide)⟩
      · as_aux_lemma =>
        obtain ⟨rfl, hT⟩ := hcl
        have hT' : nuT 5 (pk s j) = 6 := by rw [hr']; exact hT
        have HT := Lib.hid hT'
        have HR' := Lib.hid hr'
        clear hT hT'
        go_wp2_with (first | (go_at_call 26; refine (peek_lx HL).mono ?_; rintro e w1 ⟨rfl, hb1⟩; have hB1 := LB.on ⟨HL, HWB⟩ hb1; have hbuf1 := HR.bf.old hb1; rw [HR'.out]) | (go_at_call 27; refine (next_any hB1.lx hs).mono ?_; intro e w3 hnx; unfold NxPost at hnx; obtain ⟨rfl, hL3, hb3, hg3⟩ := hnx))
        go_roundg k
        case measure => omega
        case rel =>
          have hlow := nuT_low 5 (pk s j) (by have := HT.out; omega) (by have := HT.out; omega)
          have hat := pk_at s j hlow.1 hlow.2
          exact ⟨6, j + 1, _, rfl, by omega, by omega, by omega, HR.next hb1 hbuf1 (Below.refl _ _) hwB hbB (by omega) hL3 hg3 HT.out (by decide) (by decide)⟩
      · as_aux_lemma =>
        obtain ⟨h1, h2, hT⟩ := hcl
        have e69 : (r == 69) = false := by simp; omega
        have e95 : (r == 95) = false := by simp; omega
        have e101 : (r == 101) = false := by simp; omega
        have n95 : (r != 95) = true := by simp; omega
        have hT' : nuT 5 (pk s j) = 5 := by rw [hr']; exact hT
        have HT := Lib.hid hT'
        have HR' := Lib.hid hr'
        clear hT hT'
        go_wp2_with (first | (go_at_call 26; refine (peek_lx HL).mono ?_; rintro e w1 ⟨rfl, hb1⟩; have hB1 := LB.on ⟨HL, HWB⟩ hb1; have hbuf1 := HR.bf.old hb1; rw [HR'.out]) | (go_at_call 51; refine (wrune_any B acc _ (by omega) (by omega) _ hbuf1 (by omega)).mono ?_; rintro e w2 ⟨⟨v2, rfl⟩, hbuf2, hb2, hk2⟩; have hL2 := hB1.lx.kept hbuf1 hb2 h2B hk2) | (go_at_call 27; refine (next_any hL2 hs).mono ?_; intro e w3 hnx; unfold NxPost at hnx; obtain ⟨rfl, hL3, hb3, hg3⟩ := hnx))
        go_roundg k
        case measure => omega
        case rel =>
          have hlow := nuT_low 5 (pk s j) (by have := HT.out; omega) (by have := HT.out; omega)
          have hat := pk_at s j hlow.1 hlow.2
          exact ⟨5, j + 1, _, rfl, by omega, by omega, by omega, HR.next hb1 hbuf2 hb2 hwB hbB (by rw [List.length_append]; omega) hL3 hg3 HT.out (by decide) (by decide)⟩
      · as_aux_lemma =>
        obtain ⟨h1, g101, g69, g95, hT⟩ := hcl
        have e101 : (r == 101) = false := by simpa using g101
        have e69 : (r == 69) = false := by simpa using g69
        have e95 : (r == 95) = false := by simpa using g95
        clear g101 g69 g95
        have hT' : nuT 5 (pk s j) = 11 := by rw [hr']; exact hT
        have HT := Lib.hid hT'
        have HR' := Lib.hid hr'
        clear hT hT'
        go_wp2_with (first | (go_at_call 26; refine (peek_lx HL).mono ?_; rintro e w1 ⟨rfl, hb1⟩; have hB1 := LB.on ⟨HL, HWB⟩ hb1; have hbuf1 := HR.bf.old hb1; rw [HR'.out]) | (go_at_call 52; refine (bstr_any B _ _ hbuf1).mono ?_; rintro e w3 ⟨rfl, m3, hw3⟩; have hB3 := hB1.on (bel_dn hw3); clear hw3) | (go_at_call 34; refine (emitFull_any _ _ _ _ hB3.lx hc).mono ?_; rintro e w4 ⟨⟨v4, rfl⟩, hL4, hb4⟩; have hB4 := hB3.to hL4 hb4) | (go_at_call 28; refine (reset_any hB4.lx).mono ?_; rintro e w5 ⟨⟨v5, rfl⟩, hL5, hb5⟩; have hB5 := hB4.to hL5 hb5))
        (try rw [Exit.noGoto_ret])
        go_ret
        exact rd_some (by rw [← HR.st.out]; exact num_stop s 5 j hj HT.out) hB5
      · as_aux_lemma =>
        obtain ⟨h1, g101, g69, g95, hT⟩ := hcl
        have e101 : (r == 101) = false := by simpa using g101
        have e69 : (r == 69) = false := by simpa using g69
        have e95 : (r == 95) = false := by simpa using g95
        clear g101 g69 g95
        have h2 : 48 ≤ r := by omega
        have hT' : nuT 5 (pk s j) = 11 := by rw [hr']; exact hT
        have HT := Lib.hid hT'
        have HR' := Lib.hid hr'
        clear hT hT'
        go_wp2_with (first | (go_at_call 26; refine (peek_lx HL).mono ?_; rintro e w1 ⟨rfl, hb1⟩; have hB1 := LB.on ⟨HL, HWB⟩ hb1; have hbuf1 := HR.bf.old hb1; rw [HR'.out]) | (go_at_call 52; refine (bstr_any B _ _ hbuf1).mono ?_; rintro e w3 ⟨rfl, m3, hw3⟩; have hB3 := hB1.on (bel_dn hw3); clear hw3) | (go_at_call 34; refine (emitFull_any _ _ _ _ hB3.lx hc).mono ?_; rintro e w4 ⟨⟨v4, rfl⟩, hL4, hb4⟩; have hB4 := hB3.to hL4 hb4) | (go_at_call 28; refine (reset_any hB4.lx).mono ?_; rintro e w5 ⟨⟨v5, rfl⟩, hL5, hb5⟩; have hB5 := hB4.to hL5 hb5))
        (try rw [Exit.noGoto_ret])
        go_ret
        exact rd_some (by rw [← HR.st.out]; exact num_stop s 5 j hj HT.out) hB5
    · -- state 6
      have hcl := nuC6 (pk s j)
      obtain ⟨r, hr'⟩ : ∃ r, pk s j = r := ⟨_, rfl⟩
      rw [hr'] at hcl hr he
      rcases hcl with hcl | hcl | hcl
      · as_aux_lemma =>
        obtain ⟨h1, h2, hT⟩ := hcl
        have e95 : (r == 95) = false := by simp; omega
        have n95 : (r != 95) = true := by simp; omega
        have hT' : nuT 6 (pk s j) = 5 := by rw [hr']; exact hT
        have HT := Lib.hid hT'
        have HR' := Lib.hid hr'
        clear hT hT'
        go_wp2_with (first | (go_at_call 26; refine (peek_lx HL).mono ?_; rintro e w1 ⟨rfl, hb1⟩; have hB1 := LB.on ⟨HL, HWB⟩ hb1; have hbuf1 := HR.bf.old hb1; rw [HR'.out]) | (go_at_call 51; refine (wrune_any B acc _ (by omega) (by omega) _ hbuf1 (by omega)).mono ?_; rintro e w2 ⟨⟨v2, rfl⟩, hbuf2, hb2, hk2⟩; have hL2 := hB1.lx.kept hbuf1 hb2 h2B hk2) | (go_at_call 27; refine (next_any hL2 hs).mono ?_; intro e w3 hnx; unfold NxPost at hnx; obtain ⟨rfl, hL3, hb3, hg3⟩ := hnx))
        go_roundg k
        case measure => omega
        case rel =>
          have hlow := nuT_low 6 (pk s j) (by have := HT.out; omega) (by have := HT.out; omega)
          have hat := pk_at s j hlow.1 hlow.2
          exact ⟨5, j + 1, _, rfl, by omega, by omega, by omega, HR.next hb1 hbuf2 hb2 hwB hbB (by rw [List.length_append]; omega) hL3 hg3 HT.out (by decide) (by decide)⟩
      · as_aux_lemma =>
        obtain ⟨h1, hT⟩ := hcl
        have hT' : nuT 6 (pk s j) = 12 := by rw [hr']; exact hT
        have HT := Lib.hid hT'
        have HR' := Lib.hid hr'
        clear hT hT'
        go_wp2_with (first | (go_at_call 26; refine (peek_lx HL).mono ?_; rintro e w1 ⟨rfl, hb1⟩; have hB1 := LB.on ⟨HL, HWB⟩ hb1; have hbuf1 := HR.bf.old hb1; rw [HR'.out]) | (go_at_call 40; refine (quote_any _ _).mono ?_; rintro e w2 ⟨⟨t2, rfl⟩, hb2⟩; have hB2 := hB1.on hb2; have hF' := answers_open hB2.lx.ans) | (go_at_call 32; refine (location_any (hB2.on (by repeat (first | exact Below.refl _ _ | apply Below.drew | (refine Below.alloc ?_ (by simp) _)))).lx).mono ?_; rintro e w3 ⟨⟨l3, k3, rfl⟩, hb3⟩; have hB3 := (hB2.on (by repeat (first | exact Below.refl _ _ | apply Below.drew | (refine Below.alloc ?_ (by simp) _)))).on hb3) | (go_at_call 33; refine (err_any _ _ _ hB3.lx).mono ?_; rintro e w4 ⟨⟨v4, rfl⟩, hb4⟩; have hB4 := hB3.on hb4))
        (try rw [Exit.noGoto_ret])
        go_ret
        exact rd_none (by rw [← HR.st.out]; exact num_fail s 6 j hj HT.out) hB4.be
      · as_aux_lemma =>
        obtain ⟨h1, hT⟩ := hcl
        have h2 : 48 ≤ r := by omega
        have hT' : nuT 6 (pk s j) = 12 := by rw [hr']; exact hT
        have HT := Lib.hid hT'
        have HR' := Lib.hid hr'
        clear hT hT'
        go_wp2_with (first | (go_at_call 26; refine (peek_lx HL).mono ?_; rintro e w1 ⟨rfl, hb1⟩; have hB1 := LB.on ⟨HL, HWB⟩ hb1; have hbuf1 := HR.bf.old hb1; rw [HR'.out]) | (go_at_call 40; refine (quote_any _ _).mono ?_; rintro e w2 ⟨⟨t2, rfl⟩, hb2⟩; have hB2 := hB1.on hb2; have hF' := answers_open hB2.lx.ans) | (go_at_call 32; refine (location_any (hB2.on (by repeat (first | exact Below.refl _ _ | apply Below.drew | (refine Below.alloc ?_ (by simp) _)))).lx).mono ?_; rintro e w3 ⟨⟨l3, k3, rfl⟩, hb3⟩; have hB3 := (hB2.on (by repeat (first | exact Below.refl _ _ | apply Below.drew | (refine Below.alloc ?_ (by simp) _)))).on hb3) | (go_at_call 33; refine (err_any _ _ _ hB3.lx).mono ?_; rintro e w4 ⟨⟨v4, rfl⟩, hb4⟩; have hB4 := hB3.on hb4))
        (try rw [Exit.noGoto_ret])
        go_ret
        exact rd_none (by rw [← HR.st.out]; exact num_fail s 6 j hj HT.out) hB4.be
    · -- state 7
      have hcl := nuC7 (pk s j)
      obtain ⟨r, hr'⟩ : ∃ r, pk s j = r := ⟨_, rfl⟩
      rw [hr'] at hcl hr he
      rcases hcl with hcl | hcl | hcl | hcl | hcl
      · as_aux_lemma =>
        obtain ⟨rfl, hT⟩ := hcl
        have hT' : nuT 7 (pk s j) = 8 := by rw [hr']; exact hT
        have HT := Lib.hid hT'
        have HR' := Lib.hid hr'
        clear hT hT'
        go_wp2_with (first | (go_at_call 26; refine (peek_lx HL).mono ?_; rintro e w1 ⟨rfl, hb1⟩; have hB1 := LB.on ⟨HL, HWB⟩ hb1; have hbuf1 := HR.bf.old hb1; rw [HR'.out]) | (go_at_call 51; refine (wrune_any B acc _ (by omega) (by omega) _ hbuf1 (by omega)).mono ?_; rintro e w2 ⟨⟨v2, rfl⟩, hbuf2, hb2, hk2⟩; have hL2 := hB1.lx.kept hbuf1 hb2 h2B hk2) | (go_at_call 27; refine (next_any hL2 hs).mono ?_; intro e w3 hnx; unfold NxPost at hnx; obtain ⟨rfl, hL3, hb3, hg3⟩ := hnx))
        go_roundg k
        case measure => omega
        case rel =>
          have hlow := nuT_low 7 (pk s j) (by have := HT.out; omega) (by have := HT.out; omega)
          have hat := pk_at s j hlow.1 hlow.2
          exact ⟨8, j + 1, _, rfl, by omega, by omega, by omega, HR.next hb1 hbuf2 hb2 hwB hbB (by rw [List.length_append]; omega) hL3 hg3 HT.out (by decide) (by decide)⟩
      · as_aux_lemma =>
        obtain ⟨rfl, hT⟩ := hcl
        have hT' : nuT 7 (pk s j) = 8 := by rw [hr']; exact hT
        have HT := Lib.hid hT'
        have HR' := Lib.hid hr'
        clear hT hT'
        go_wp2_with (first | (go_at_call 26; refine (peek_lx HL).mono ?_; rintro e w1 ⟨rfl, hb1⟩; have hB1 := LB.on ⟨HL, HWB⟩ hb1; have hbuf1 := HR.bf.old hb1; rw [HR'.out]) | (go_at_call 51; refine (wrune_any B acc _ (by omega) (by omega) _ hbuf1 (by omega)).mono ?_; rintro e w2 ⟨⟨v2, rfl⟩, hbuf2, hb2, hk2⟩; have hL2 := hB1.lx.kept hbuf1 hb2 h2B hk2) | (go_at_call 27; refine (next_any hL2 hs).mono ?_; intro e w3 hnx; unfold NxPost at hnx; obtain ⟨rfl, hL3, hb3, hg3⟩ := hnx))
        go_roundg k
        case measure => omega
        case rel =>
          have hlow := nuT_low 7 (pk s j) (by have := HT.out; omega) (by have := HT.out; omega)
          have hat := pk_at s j hlow.1 hlow.2
          exact ⟨8, j + 1, _, rfl, by omega, by omega, by omega, HR.next hb1 hbuf2 hb2 hwB hbB (by rw [List.length_append]; omega) hL3 hg3 HT.out (by decide) (by decide)⟩
      · as_aux_lemma =>
        obtain ⟨h1, h2, hT⟩ := hcl
        have e43 : (r == 43) = false := by simp; omega
        have e45 : (r == 45) = false := by simp; omega
        have e95 : (r == 95) = false := by simp; omega
        have n95 : (r != 95) = true := by simp; omega
        have hT' : nuT 7 (pk s j) = 9 := by rw [hr']; exact hT
        have HT := Lib.hid hT'
        have HR' := Lib.hid hr'
        clear hT hT'
        go_wp2_with (first | (go_at_call 26; refine (peek_lx HL).mono ?_; rintro e w1 ⟨rfl, hb1⟩; have hB1 := LB.on ⟨HL, HWB⟩ hb1; have hbuf1 := HR.bf.old hb1; rw [HR'.out]) | (go_at_call 51; refine (wrune_any B acc _ (by omega) (by omega) _ hbuf1 (by omega)).mono ?_; rintro e w2 ⟨⟨v2, rfl⟩, hbuf2, hb2, hk2⟩; have hL2 := hB1.lx.kept hbuf1 hb2 h2B hk2) | (go_at_call 27; refine (next_any hL2 hs).mono ?_; intro e w3 hnx; unfold NxPost at hnx; obtain ⟨rfl, hL3, hb3, hg3⟩ := hnx))
        go_roundg k
        case measure => omega
        case rel =>
          have hlow := nuT_low 7 (pk s j) (by have := HT.out; omega) (by have := HT.out; omega)
          have hat := pk_at s j hlow.1 hlow.2
          exact ⟨9, j + 1, _, rfl, by omega, by omega, by omega, HR.next hb1 hbuf2 hb2 hwB hbB (by rw [List.length_append]; omega) hL3 hg3 HT.out (by decide) (by decide)⟩
      · as_aux_lemma =>
        obtain ⟨h1, g43, g45, hT⟩ := hcl
        have e43 : (r == 43) = false := by simpa using g43
        have e45 : (r == 45) = false := by simpa using g45
        clear g43 g45
        have hT' : nuT 7 (pk s j) = 12 := by rw [hr']; exact hT
        have HT := Lib.hid hT'
        have HR' := Lib.hid hr'
        clear hT hT'
        go_wp2_with (first | (go_at_call 26; refine (peek_lx HL).mono ?_; rintro e w1 ⟨rfl, hb1⟩; have hB1 := LB.on ⟨HL, HWB⟩ hb1; have hbuf1 := HR.bf.old hb1; rw [HR'.out]) | (go_at_call 40; refine (quote_any _ _).mono ?_; rintro e w2 ⟨⟨t2, rfl⟩, hb2⟩; have hB2 := hB1.on hb2; have hF' := answers_open hB2.lx.ans) | (go_at_call 32; refine (location_any (hB2.on (by repeat (first | exact Below.refl _ _ | apply Below.drew | (refine Below.alloc ?_ (by simp) _)))).lx).mono ?_; rintro e w3 ⟨⟨l3, k3, rfl⟩, hb3⟩; have hB3 := (hB2.on (by repeat (first | exact Below.refl _ _ | apply Below.drew | (refine Below.alloc ?_ (by simp) _)))).on hb3) | (go_at_call 33; refine (err_any _ _ _ hB3.lx).mono ?_; rintro e w4 ⟨⟨v4, rfl⟩, hb4⟩; have hB4 := hB3.on hb4))
        (try rw [Exit.noGoto_ret])
        go_ret
        exact rd_none (by rw [← HR.st.out]; exact num_fail s 7 j hj HT.out) hB4.be
      · as_aux_lemma =>
        obtain ⟨h1, g43, g45, hT⟩ := hcl
        have e43 : (r == 43) = false := by simpa using g43
        have e45 : (r == 45) = false := by simpa using g45
        clear g43 g45
        have h2 : 48 ≤ r := by omega
        have hT' : nuT 7 (pk s j) = 12 := by rw [hr']; exact hT
        have HT := Lib.hid hT'
        have HR' := Lib.hid hr'
        clear hT hT'
        go_wp2_with (first | (go_at_call 26; refine (peek_lx HL).mono ?_; rintro e w1 ⟨rfl, hb1⟩; have hB1 := LB.on ⟨HL, HWB⟩ hb1; have hbuf1 := HR.bf.old hb1; rw [HR'.out]) | (go_at_call 40; refine (quote_any _ _).mono ?_; rintro e w2 ⟨⟨t2, rfl⟩, hb2⟩; have hB2 := hB1.on hb2; have hF' := answers_open hB2.lx.ans) | (go_at_call 32; refine (location_any (hB2.on (by repeat (first | exact Below.refl _ _ | apply Below.drew | (refine Below.alloc ?_ (by simp) _)))).lx).mono ?_; rintro e w3 ⟨⟨l3, k3, rfl⟩, hb3⟩; have hB3 := (hB2.on (by repeat (first | exact Below.refl _ _ | apply Below.drew | (refine Below.alloc ?_ (by simp) _)))).on hb3) | (go_at_call 33; refine (err_any _ _ _ hB3.lx).mono ?_; rintro e w4 ⟨⟨v4, rfl⟩, hb4⟩; have hB4 := hB3.on hb4))
        (try rw [Exit.noGoto_ret])
        go_ret
        exact rd_none (by rw [← HR.st.out]; exact num_fail s 7 j hj HT.out) hB4.be
    · -- state 8
      have hcl := nuC8 (pk s j)
      obtain ⟨r, hr'⟩ : ∃ r, pk s j = r := ⟨_, rfl⟩
      rw [hr'] at hcl hr he
      rcases hcl with hcl | hcl | hcl
      · as_aux_lemma =>
        obtain ⟨h1, h2, hT⟩ := hcl
        have e95 : (r == 95) = false := by simp; omega
        have n95 : (r != 95) = true := by simp; omega
        have hT' : nuT 8 (pk s j) = 9 := by rw [hr']; exact hT
        have HT := Lib.hid hT'
        have HR' := Lib.hid hr'
        clear hT hT'
        go_wp2_with (first | (go_at_call 26; refine (peek_lx HL).mono ?_; rintro e w1 ⟨rfl, hb1⟩; have hB1 := LB.on ⟨HL, HWB⟩ hb1; have hbuf1 := HR.bf.old hb1; rw [HR'.out]) | (go_at_call 51; refine (wrune_any B acc _ (by omega) (by omega) _ hbuf1 (by omega)).mono ?_; rintro e w2 ⟨⟨v2, rfl⟩, hbuf2, hb2, hk2⟩; have hL2 := hB1.lx.kept hbuf1 hb2 h2B hk2) | (go_at_call 27; refine (next_any hL2 hs).mono ?_; intro e w3 hnx; unfold NxPost at hnx; obtain ⟨rfl, hL3, hb3, hg3⟩ := hnx))
        go_roundg k
        case measure => omega
        case rel =>
          have hlow := nuT_low 8 (pk s j) (by have := HT.out; omega) (by have := HT.out; omega)
          have hat := pk_at s j hlow.1 hlow.2
          exact ⟨9, j + 1, _, rfl, by omega, by omega, by omega, HR.next hb1 hbuf2 hb2 hwB hbB (by rw [List.length_append]; omega) hL3 hg3 HT.out (by decide) (by decide)⟩
      · as_aux_lemma =>
        obtain ⟨h1, hT⟩ := hcl
        have hT' : nuT 8 (pk s j) = 12 := by rw [hr']; exact hT
        have HT := Lib.hid hT'
        have HR' := Lib.hid hr'
        clear hT hT'
        go_wp2_with (first | (go_at_call 26; refine (peek_lx HL).mono ?_; rintro e w1 ⟨rfl, hb1⟩; have hB1 := LB.on ⟨HL, HWB⟩ hb1; have hbuf1 := HR.bf.old hb1; rw [HR'.out]) | (go_at_call 40; refine (quote_any _ _).mono ?_; rintro e w2 ⟨⟨t2, rfl⟩, hb2⟩; have hB2 := hB1.on hb2; have hF' := answers_open hB2.lx.ans) | (go_at_call 32; refine (location_any (hB2.on (by repeat (first | exact Below.refl _ _ | apply Below.drew | (refine Below.alloc ?_ (by simp) _)))).lx).mono ?_; rintro e w3 ⟨⟨l3, k3, rfl⟩, hb3⟩; have hB3 := (hB2.on (by repeat (first | exact Below.refl _ _ | apply Below.drew | (refine Below.alloc ?_ (by simp) _)))).on hb3) | (go_at_call 33; refine (err_any _ _ _ hB3.lx).mono ?_; rintro e w4 ⟨⟨v4, rfl⟩, hb4⟩; have hB4 := hB3.on hb4))
        (try rw [Exit.noGoto_ret])
        go_ret
        exact rd_none (by rw [← HR.st.out]; exact num_fail s 8 j hj HT.out) hB4.be
      · as_aux_lemma =>
        obtain ⟨h1, hT⟩ := hcl
        have h2 : 48 ≤ r := by omega
        have hT' : nuT 8 (pk s j) = 12 := by rw [hr']; exact hT
        have HT := Lib.hid hT'
        have HR' := Lib.hid hr'
        clear hT hT'
        go_wp2_with (first | (go_at_call 26; refine (peek_lx HL).mono ?_; rintro e w1 ⟨rfl, hb1⟩; have hB1 := LB.on ⟨HL, HWB⟩ hb1; have hbuf1 := HR.bf.old hb1; rw [HR'.out]) | (go_at_call 40; refine (quote_any _ _).mono ?_; rintro e w2 ⟨⟨t2, rfl⟩, hb2⟩; have hB2 := hB1.on hb2; have hF' := answers_open hB2.lx.ans) | (go_at_call 32; refine (location_any (hB2.on (by repeat (first | exact Below.refl _ _ | apply Below.drew | (refine Below.alloc ?_ (by simp) _)))).lx).mono ?_; rintro e w3 ⟨⟨l3, k3, rfl⟩, hb3⟩; have hB3 := (hB2.on (by repeat (first | exact Below.refl _ _ | apply Below.drew | (refine Below.alloc ?_ (by simp) _)))).on hb3) | (go_at_call 33; refine (err_any _ _ _ hB3.lx).mono ?_; rintro e w4 ⟨⟨v4, rfl⟩, hb4⟩; have hB4 := hB3.on hb4))
        (try rw [Exit.noGoto_ret])
        go_ret
        exact rd_none (by rw [← HR.st.out]; exact num_fail s 8 j hj HT.out) hB4.be
    · -- state 9
      have hcl := nuC9 (pk s j)
      obtain ⟨r, hr'⟩ : ∃ r, pk s j = r := ⟨_, rfl⟩
      rw [hr'] at hcl hr he
      rcases hcl with hcl | hcl | hcl | hcl
      · as_aux_lemma =>
        obtain ⟨rfl, hT⟩ := hcl
        have hT' : nuT 9 (pk s j) = 10 := by rw [hr']; exact hT
        have HT := Lib.hid hT'
        have HR' := Lib.hid hr'
        clear hT hT'
        go_wp2_with (first | (go_at_call 26; refine (peek_lx HL).mono ?_; rintro e w1 ⟨rfl, hb1⟩; have hB1 := LB.on ⟨HL, HWB⟩ hb1; have hbuf1 := HR.bf.old hb1; rw [HR'.out]) | (go_at_call 27; refine (next_any hB1.lx hs).mono ?_; intro e w3 hnx; unfold NxPost at hnx; obtain ⟨rfl, hL3, hb3, hg3⟩ := hnx))
        go_roundg k
        case measure => omega
        case rel =>
          have hlow := nuT_low 9 (pk s j) (by have := HT.out; omega) (by have := HT.out; omega)
          have hat := pk_at s j hlow.1 hlow.2
          exact ⟨10, j + 1, _, rfl, by omega, by omega, by omega, HR.next hb1 hbuf1 (Below.refl _ _) hwB hbB (by omega) hL3 hg3 HT.out (by decide) (by decide)⟩
      · as_aux_lemma =>
        obtain ⟨h1, h2, hT⟩ := hcl
        have e95 : (r == 95) = false := by simp; omega
        have n95 : (r != 95) = true := by simp; omega
        have hT' : nuT 9 (pk s j) = 9 := by rw [hr']; exact hT
        have HT := Lib.hid hT'
        have HR' := Lib.hid hr'
        clear hT hT'
        go_wp2_with (first | (go_at_call 26; refine (peek_lx HL).mono ?_; rintro e w1 ⟨rfl, hb1⟩; have hB1 := LB.on ⟨HL, HWB⟩ hb1; have hbuf1 := HR.bf.old hb1; rw [HR'.out]) | (go_at_call 51; refine (wrune_any B acc _ (by omega) (by omega) _ hbuf1 (by omega)).mono ?_; rintro e w2 ⟨⟨v2, rfl⟩, hbuf2, hb2, hk2⟩; have hL2 := hB1.lx.kept hbuf1 hb2 h2B hk2) | (go_at_call 27; refine (next_any hL2 hs).mono ?_; intro e w3 hnx; unfold NxPost at hnx; obtain ⟨rfl, hL3, hb3, hg3⟩ := hnx))
        go_roundg k
        case measure => omega
        case rel =>
          have hlow := nuT_low 9 (pk s j) (by have := HT.out; omega) (by have := HT.out; omega)
          have hat := pk_at s j hlow.1 hlow.2
          exact ⟨9, j + 1, _, rfl, by omega, by omega, by omega, HR.next hb1 hbuf2 hb2 hwB hbB (by rw [List.length_append]; omega) hL3 hg3 HT.out (by decide) (by decide)⟩
      · as_aux_lemma =>
        obtain ⟨h1, g95, hT⟩ := hcl
        have e95 : (r == 95) = false := by simpa using g95
        clear g95
        have hT' : nuT 9 (pk s j) = 11 := by rw [hr']; exact hT
        have HT := Lib.hid hT'
        have HR' := Lib.hid hr'
        clear hT hT'
        go_wp2_with (first | (go_at_call 26; refine (peek_lx HL).mono ?_; rintro e w1 ⟨rfl, hb1⟩; have hB1 := LB.on ⟨HL, HWB⟩ hb1; have hbuf1 := HR.bf.old hb1; rw [HR'.out]) | (go_at_call 52; refine (bstr_any B _ _ hbuf1).mono ?_; rintro e w3 ⟨rfl, m3, hw3⟩; have hB3 := hB1.on (bel_dn hw3); clear hw3) | (go_at_call 34; refine (emitFull_any _ _ _ _ hB3.lx hc).mono ?_; rintro e w4 ⟨⟨v4, rfl⟩, hL4, hb4⟩; have hB4 := hB3.to hL4 hb4) | (go_at_call 28; refine (reset_any hB4.lx).mono ?_; rintro e w5 ⟨⟨v5, rfl⟩, hL5, hb5⟩; have hB5 := hB4.to hL5 hb5))
        (try rw [Exit.noGoto_ret])
        go_ret
        exact rd_some (by rw [← HR.st.out]; exact num_stop s 9 j hj HT.out) hB5
      · as_aux_lemma =>
        obtain ⟨h1, g95, hT⟩ := hcl
        have e95 : (r == 95) = false := by simpa using g95
        clear g95
        have h2 : 48 ≤ r := by omega
        have hT' : nuT 9 (pk s j) = 11 := by rw [hr']; exact hT
        have HT := Lib.hid hT'
        have HR' := Lib.hid hr'
        clear hT hT'
        go_wp2_with (first | (go_at_call 26; refine (peek_lx HL).mono ?_; rintro e w1 ⟨rfl, hb1⟩; have hB1 := LB.on ⟨HL, HWB⟩ hb1; have hbuf1 := HR.bf.old hb1; rw [HR'.out]) | (go_at_call 52; refine (bstr_any B _ _ hbuf1).mono ?_; rintro e w3 ⟨rfl, m3, hw3⟩; have hB3 := hB1.on (bel_dn hw3); clear hw3) | (go_at_call 34; refine (emitFull_any _ _ _ _ hB3.lx hc).mono ?_; rintro e w4 ⟨⟨v4, rfl⟩, hL4, hb4⟩; have hB4 := hB3.to hL4 hb4) | (go_at_call 28; refine (reset_any hB4.lx).mono ?_; rintro e w5 ⟨⟨v5, rfl⟩, hL5, hb5⟩; have hB5 := hB4.to hL5 hb5))
        (try rw [Exit.noGoto_ret])
        go_ret
        exact rd_some (by rw [← HR.st.out]; exact num_stop s 9 j hj HT.out) hB5
    · -- state 10
      have hcl := nuC10 (pk s j)
      obtain ⟨r, hr'⟩ : ∃ r, pk s j = r := ⟨_, rfl⟩
      rw [hr'] at hcl hr he
      rcases hcl with hcl | hcl | hcl
      · as_aux_lemma =>
        obtain ⟨h1, h2, hT⟩ := hcl
        have e95 : (r == 95) = false := by simp; omega
        have n95 : (r != 95) = true := by simp; omega
        have hT' : nuT 10 (pk s j) = 9 := by rw [hr']; exact hT
        have HT := Lib.hid hT'
        have HR' := Lib.hid hr'
        clear hT hT'
        go_wp2_with (first | (go_at_call 26; refine (peek_lx HL).mono ?_; rintro e w1 ⟨rfl, hb1⟩; have hB1 := LB.on ⟨HL, HWB⟩ hb1; have hbuf1 := HR.bf.old hb1; rw [HR'.out]) | (go_at_call 51; refine (wrune_any B acc _ (by omega) (by omega) _ hbuf1 (by omega)).mono ?_; rintro e w2 ⟨⟨v2, rfl⟩, hbuf2, hb2, hk2⟩; have hL2 := hB1.lx.kept hbuf1 hb2 h2B hk2) | (go_at_call 27; refine (next_any hL2 hs).mono ?_; intro e w3 hnx; unfold NxPost at hnx; obtain ⟨rfl, hL3, hb3, hg3⟩ := hnx))
        go_roundg k
        case measure => omega
        case rel =>
          have hlow := nuT_low 10 (pk s j) (by have := HT.out; omega) (by have := HT.out; omega)
          have hat := pk_at s j hlow.1 hlow.2
          exact ⟨9, j + 1, _, rfl, by omega, by omega, by omega, HR.next hb1 hbuf2 hb2 hwB hbB (by rw [List.length_append]; omega) hL3 hg3 HT.out (by decide) (by decide)⟩
      · as_aux_lemma =>
        obtain ⟨h1, hT⟩ := hcl
        have hT' : nuT 10 (pk s j) = 12 := by rw [hr']; exact hT
        have HT := Lib.hid hT'
        have HR' := Lib.hid hr'
        clear hT hT'
        go_wp2_with (first | (go_at_call 26; refine (peek_lx HL).mono ?_; rintro e w1 ⟨rfl, hb1⟩; have hB1 := LB.on ⟨HL, HWB⟩ hb1; have hbuf1 := HR.bf.old hb1; rw [HR'.out]) | (go_at_call 40; refine (quote_any _ _).mono ?_; rintro e w2 ⟨⟨t2, rfl⟩, hb2⟩; have hB2 := hB1.on hb2; have hF' := answers_open hB2.lx.ans) | (go_at_call 32; refine (location_any (hB2.on (by repeat (first | exact Below.refl _ _ | apply Below.drew | (refine Below.alloc ?_ (by simp) _)))).lx).mono ?_; rintro e w3 ⟨⟨l3, k3, rfl⟩, hb3⟩; have hB3 := (hB2.on (by repeat (first | exact Below.refl _ _ | apply Below.drew | (refine Below.alloc ?_ (by simp) _)))).on hb3) | (go_at_call 33; refine (err_any _ _ _ hB3.lx).mono ?_; rintro e w4 ⟨⟨v4, rfl⟩, hb4⟩; have hB4 := hB3.on hb4))
        (try rw [Exit.noGoto_ret])
        go_ret
        exact rd_none (by rw [← HR.st.out]; exact num_fail s 10 j hj HT.out) hB4.be
      · as_aux_lemma =>
        obtain ⟨h1, hT⟩ := hcl
        have h2 : 48 ≤ r := by omega
        have hT' : nuT 10 (pk s j) = 12 := by rw [hr']; exact hT
        have HT := Lib.hid hT'
        have HR' := Lib.hid hr'
        clear hT hT'
        go_wp2_with (first | (go_at_call 26; refine (peek_lx HL).mono ?_; rintro e w1 ⟨rfl, hb1⟩; have hB1 := LB.on ⟨HL, HWB⟩ hb1; have hbuf1 := HR.bf.old hb1; rw [HR'.out]) | (go_at_call 40; refine (quote_any _ _).mono ?_; rintro e w2 ⟨⟨t2, rfl⟩, hb2⟩; have hB2 := hB1.on hb2; have hF' := answers_open hB2.lx.ans) | (go_at_call 32; refine (location_any (hB2.on (by repeat (first | exact Below.refl _ _ | apply Below.drew | (refine Below.alloc ?_ (by simp) _)))).lx).mono ?_; rintro e w3 ⟨⟨l3, k3, rfl⟩, hb3⟩; have hB3 := (hB2.on (by repeat (first | exact Below.refl _ _ | apply Below.drew | (refine Below.alloc ?_ (by simp) _)))).on hb3) | (go_at_call 33; refine (err_any _ _ _ hB3.lx).mono ?_; rintro e w4 ⟨⟨v4, rfl⟩, hb4⟩; have hB4 := hB3.on hb4))
        (try rw [Exit.noGoto_ret])
        go_ret
        exact rd_none (by rw [← HR.st.out]; exact num_fail s 10 j hj HT.out) hB4.be
end Go.Proofs.YtiicdalodfjgaaaGreatFmt
