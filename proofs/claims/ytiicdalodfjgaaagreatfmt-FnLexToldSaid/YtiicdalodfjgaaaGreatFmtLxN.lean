/- The parser's lexer: runes of names and of operators; names. -/
import Derived.Test.YtiicdalodfjgaaaGreatFmtLxM
namespace Go.Proofs.YtiicdalodfjgaaaGreatFmt
open Go.RowKit Go.Extern.Stop Go.Stop Go.Extern
variable {F : Interp} {s : ByteArray} {b p ts c : Nat} {w : World}

def upB (r : Int) : Bool := decide (65 ≤ r) && decide (r ≤ 90)
def loB (r : Int) : Bool := decide (97 ≤ r) && decide (r ≤ 122)
def idF (r : Int) : Bool := upB r || loB r || r == 95
def idR (r : Int) : Bool := idF r || nuB r
theorem up_any (r : Int) (w : World) : Calls Tryz.prog 56 #[.int .i32 r] w fun e w' => e = .returned (.bool (upB r)) ∧ w = w' := by
  go_enter Tryz.func56, Tryz.ntmps56
  go_wp2
  all_goals
    go_ret
    refine ⟨ret_bool ?_, rfl⟩
    rw [Bool.eq_iff_iff]
    simp [upB]
    try omega
theorem lo_any (r : Int) (w : World) : Calls Tryz.prog 57 #[.int .i32 r] w fun e w' => e = .returned (.bool (loB r)) ∧ w = w' := by
  go_enter Tryz.func57, Tryz.ntmps57
  go_wp2
  all_goals
    go_ret
    refine ⟨ret_bool ?_, rfl⟩
    rw [Bool.eq_iff_iff]
    simp [loB]
    try omega
theorem nu_any (r : Int) (w : World) : Calls Tryz.prog 76 #[.int .i32 r] w fun e w' => e = .returned (.bool (nuB r)) ∧ w = w' := by
  go_enter Tryz.func76, Tryz.ntmps76
  go_wp2
  all_goals
    go_ret
    refine ⟨ret_bool ?_, rfl⟩
    rw [Bool.eq_iff_iff]
    simp [nuB]
    try omega
theorem first_any (r : Int) (w : World) : Calls Tryz.prog 36 #[.int .i32 r] w fun e w' => e = .returned (.bool (idF r)) ∧ w = w' := by
  go_enter Tryz.func36, Tryz.ntmps36
  go_wp2_with (first | (go_at_call 56; refine (up_any _ _).mono ?_; rintro e w' ⟨rfl, rfl⟩) | (go_at_call 57; refine (lo_any _ _).mono ?_; rintro e w' ⟨rfl, rfl⟩))
  all_goals
    go_ret
    refine ⟨ret_bool ?_, rfl⟩
    simp_all [idF]
theorem rest_any (r : Int) (w : World) : Calls Tryz.prog 58 #[.int .i32 r] w fun e w' => e = .returned (.bool (idR r)) ∧ w = w' := by
  go_enter Tryz.func58, Tryz.ntmps58
  go_wp2_with (first | (go_at_call 36; refine (first_any _ _).mono ?_; rintro e w' ⟨rfl, rfl⟩) | (go_at_call 76; refine (nu_any _ _).mono ?_; rintro e w' ⟨rfl, rfl⟩))
  all_goals
    go_ret
    refine ⟨ret_bool ?_, rfl⟩
    simp_all [idR]
theorem kind_any (s : ByteArray) (w : World) : Calls Tryz.prog 59 #[.string s] w fun e w' => (∃ k : Int, e = .returned (.int .i64 k)) ∧ w = w' := by
  go_enter Tryz.func59, Tryz.ntmps59
  go_wp2
  all_goals
    go_ret
    exact ⟨⟨_, rfl⟩, rfl⟩
def symR (r : Int) : Bool := r == 33 || r == 36 || r == 58 || r == 126 || r == 43 || r == 45 || r == 38 || r == 124 || r == 94 || r == 61 || r == 60 || r == 62 || r == 42 || r == 47 || r == 37
theorem sym_any (r : Int) (w : World) : Calls Tryz.prog 38 #[.int .i32 r] w fun e w' => e = .returned (.bool (symR r)) ∧ w = w' := by
  go_enter Tryz.func38, Tryz.ntmps38
  go_wp2
  all_goals
    go_ret
    refine ⟨ret_bool ?_, rfl⟩
    simp_all [symR]
theorem idF_pk (s : ByteArray) (p : Nat) : idF (pk s p) = (decide (p < s.size) && letB (gb s p)) := by
  by_cases h : p < s.size
  · by_cases hl : gb s p < 128
    · rw [pk_low s p h hl, Bool.eq_iff_iff]
      unfold idF upB loB letB
      simp [h]
      omega
    · have := pk_high s p h (by omega)
      rw [Bool.eq_iff_iff]
      unfold idF upB loB letB
      simp [h]
      omega
  · rw [pk_end s p h, Bool.eq_iff_iff]
    simp [idF, upB, loB, h]
theorem idR_pk (s : ByteArray) (p : Nat) : idR (pk s p) = (decide (p < s.size) && idB (gb s p)) := by
  unfold idR idB
  rw [idF_pk]
  by_cases h : p < s.size
  · have : nuB (pk s p) = digB (gb s p) := by
      by_cases hl : gb s p < 128
      · rw [pk_low s p h hl]; rfl
      · have := pk_high s p h (by omega)
        rw [Bool.eq_iff_iff]
        unfold digB nuB
        simp
        omega
    rw [this]
    simp [h]
  · rw [pk_end s p h]
    simp [h, nuB]
theorem symR_pk (s : ByteArray) (p : Nat) : symR (pk s p) = (decide (p < s.size) && opB (gb s p)) := by
  by_cases h : p < s.size
  · by_cases hl : gb s p < 128
    · rw [pk_low s p h hl, Bool.eq_iff_iff]
      unfold symR opB opl
      simp [h]
      omega
    · have := pk_high s p h (by omega)
      rw [Bool.eq_iff_iff]
      unfold symR opB opl
      simp [h]
      omega
  · rw [pk_end s p h, Bool.eq_iff_iff]
    simp [symR, h]
theorem idB_low (x : Nat) (h : idB x = true) : x < 128 := by
  unfold idB letB digB nuB at h
  simp at h
  omega
set_option linter.unusedSimpArgs false in
set_option maxRecDepth 100000 in
set_option maxHeartbeats 6400000 in
theorem ident_any (h : LxL F s b p ts c w) (hs : s.size ≤ 2000) (hc : c ≤ 100000) (hf : idF (pk s p) = true) :
    Calls Tryz.prog 37 #[.pointer (some ⟨b, 0, none⟩)] w fun e w' => (∃ v, e = .returned v) ∧ LxL F s b (scan s idB p) (scan s idB p) (c + 1) w' ∧ Below b w w' := by
  have lb := h.lt
  have hp := h.lep
  go_enter Tryz.func37, Tryz.ntmps37
  go_wp2_with (first | (go_at_call 26; refine (peek_lx h).mono ?_; rintro e w1 ⟨rfl, hb1⟩) | (go_at_call 36; refine (first_any _ _).mono ?_; rintro e w2 ⟨rfl, rfl⟩))
  have h1 := h.below hb1
  have hB1 : Below b w w1 := hb1.mono (Nat.le_of_lt lb)
  clear hb1
  go_loopg [2] (s.size + 1 - p) (fun k r wr => ∃ j : Nat, r = .int .i32 (pk s j) ∧ p ≤ j ∧ s.size - j < k ∧ Hid (scan s idB j = scan s idB p) ∧ LxL F s b j ts c wr ∧ Below b w wr)
  case atStart => exact ⟨p, rfl, Nat.le_refl _, by omega, Lib.hid rfl, h1, hB1⟩
  case round =>
    clear h1 hB1 hf
    obtain ⟨j, rfl, hpj, hk, HS, HL, hB⟩ := hrel
    obtain ⟨k, rfl⟩ : ∃ m, gk = m + 1 := ⟨gk - 1, by omega⟩
    have hj := HL.lep
    cases hid : idR (pk s j) with
    | true =>
      have hid' := hid
      rw [idR_pk] at hid'
      simp only [Bool.and_eq_true, decide_eq_true_eq] at hid'
      obtain ⟨hlt, hib⟩ := hid'
      have h128 := idB_low _ hib
      have HN : Hid (nx s j = j + 1) := Lib.hid (nx_low s j hlt h128)
      have HST : Hid (scan s idB (j + 1) = scan s idB p) := Lib.hid (by rw [← HS.out, scan_step s idB j hlt hib])
      have tA : (pk s j != -1) = true := by
        have : pk s j ≠ -1 := fun e => by rw [pk_low s j hlt h128] at e; omega
        simpa using this
      have hnx := next_any HL hs
      unfold NxPost at hnx
      rw [HN.out] at hnx
      obtain ⟨r, hr⟩ : ∃ x, pk s j = x := ⟨_, rfl⟩
      rw [hr] at hid hnx tA ⊢
      clear hr hib
      go_wp2_with (first | (go_at_call 58; refine (rest_any _ _).mono ?_; rintro e w2 ⟨rfl, rfl⟩) | (go_at_call 27; refine hnx.mono ?_; rintro e w3 ⟨rfl, hL3, hb3, hg3⟩) | (go_at_call 26; refine (peek_lx hL3).mono ?_; rintro e w4 ⟨rfl, hb4⟩))
      go_roundg k
      case measure => omega
      case rel => exact ⟨j + 1, rfl, by omega, by omega, HST, hL3.below hb4, (hB.trans hb3).trans (hb4.mono (Nat.le_of_lt hL3.lt))⟩
    | false =>
      have HE : Hid (j = scan s idB p) := Lib.hid (by
        rw [← HS.out, scan_stop s idB j]
        rw [idR_pk] at hid
        simpa using hid)
      have hts := HL.tsp
      have hd : Below wr.heap.size wr wr.drew := below_drewN (Below.refl _ wr) 1
      have HLd := HL.below hd
      have S0 : wr.drew.cell? ⟨b, 2, none⟩ = some (.string s) ∧ wr.drew.cell? ⟨b, 6, none⟩ = some (.int .i64 ts) ∧ wr.drew.cell? ⟨b, 10, none⟩ = some (.int .i64 j) := ⟨HLd.c2, HLd.c6, HLd.c10⟩
      have q0 : (0 : Int) ≤ (ts : Int) := by omega
      have q1 : (ts : Int) ≤ (j : Int) := by omega
      have q2 : (j : Int) ≤ (s.size : Int) := by omega
      obtain ⟨r, hr⟩ : ∃ x, pk s j = x := ⟨_, rfl⟩
      rw [hr] at hid ⊢
      clear hr
      go_wp2_with (first | (go_at_call 58; refine (rest_any _ _).mono ?_; rintro e w2 ⟨rfl, rfl⟩))
      · refine region_last' (by rfl) (by kernel_rfl) (by kernel_rfl) ?_
        simp only [List.pop_toArray, List.dropLast_cons_cons, List.dropLast_singleton, List.size_toArray, List.length_cons, List.length_nil]
        have SS : ((fun w' => w'.cell? ⟨b, 2, none⟩ = some (.string s) ∧ w'.cell? ⟨b, 6, none⟩ = some (.int .i64 ts) ∧ w'.cell? ⟨b, 10, none⟩ = some (.int .i64 j))) wr.drew := S0
        refine wpAny_of_held (S := (fun w' => w'.cell? ⟨b, 2, none⟩ = some (.string s) ∧ w'.cell? ⟨b, 6, none⟩ = some (.int .i64 ts) ∧ w'.cell? ⟨b, 10, none⟩ = some (.int .i64 j))) _ _ _ _ ?_
        refine wpAnyH_take (i := 0) (v := ?v0a) rfl (by kernel_rfl) (by kernel_rfl) (by kernel_rfl) (fun _ _ _ h => h) (Or.inl ⟨by rfl, ?y0a⟩) SS ?r0a
        case y0a =>
          intro w' hSw
          (try dsimp only at hSw)
          go_simp
          all_goals (with_reducible rfl)
        (try simp only [Act.put, List.setIfInBounds_toArray, List.set_cons_zero, List.set_cons_succ])
        refine wpAnyH_take (i := 1) (v := ?v1a) rfl (by kernel_rfl) (by kernel_rfl) (by kernel_rfl) (fun _ _ _ h => h) (Or.inl ⟨by rfl, ?y1a⟩) SS ?r1a
        case y1a =>
          intro w' hSw
          (try dsimp only at hSw)
          go_simp
          all_goals (with_reducible rfl)
        (try simp only [Act.put, List.setIfInBounds_toArray, List.set_cons_zero, List.set_cons_succ])
        refine wpAnyH_take (i := 2) (v := ?v2a) rfl (by kernel_rfl) (by kernel_rfl) (by kernel_rfl) (fun _ _ _ h => h) (Or.inl ⟨by rfl, ?y2a⟩) SS ?r2a
        case y2a =>
          intro w' hSw
          (try dsimp only at hSw)
          go_simp
          all_goals (with_reducible rfl)
        (try simp only [Act.put, List.setIfInBounds_toArray, List.set_cons_zero, List.set_cons_succ])
        refine wpAnyH_take (i := 3) (v := ?v3a) rfl (by kernel_rfl) (by kernel_rfl) (by kernel_rfl) (fun _ _ _ h => h) (Or.inl ⟨by rfl, ?y3a⟩) SS ?r3a
        case y3a =>
          intro w' hSw
          (try dsimp only at hSw)
          go_simp
          all_goals (with_reducible rfl)
        (try simp only [Act.put, List.setIfInBounds_toArray, List.set_cons_zero, List.set_cons_succ])
        refine wpAnyH_take (i := 4) (v := ?v4a) rfl (by kernel_rfl) (by kernel_rfl) (by kernel_rfl) (fun _ _ _ h => h) (Or.inl ⟨by rfl, ?y4a⟩) SS ?r4a
        case y4a =>
          intro w' hSw
          (try dsimp only at hSw)
          go_simp
          all_goals (with_reducible rfl)
        (try simp only [Act.put, List.setIfInBounds_toArray, List.set_cons_zero, List.set_cons_succ])
        refine wpAnyH_take (i := 5) (v := ?v5a) rfl (by kernel_rfl) (by kernel_rfl) (by kernel_rfl) (fun _ _ _ h => h) (Or.inl ⟨by rfl, ?y5a⟩) SS ?r5a
        case y5a =>
          intro w' hSw
          (try dsimp only at hSw)
          go_simp
          all_goals (with_reducible rfl)
        (try simp only [Act.put, List.setIfInBounds_toArray, List.set_cons_zero, List.set_cons_succ])
        refine wpAnyH_take (i := 6) (v := ?v6a) rfl (by kernel_rfl) (by kernel_rfl) (by kernel_rfl) (fun _ _ _ h => h) (Or.inl ⟨by rfl, ?y6a⟩) SS ?r6a
        case y6a =>
          intro w' hSw
          (try dsimp only at hSw)
          go_simp
          all_goals (with_reducible rfl)
        (try simp only [Act.put, List.setIfInBounds_toArray, List.set_cons_zero, List.set_cons_succ])
        refine wpAnyH_take (i := 7) (v := ?v7a) rfl (by kernel_rfl) (by kernel_rfl) (by kernel_rfl) (fun _ _ _ h => h) (Or.inl ⟨by rfl, ?y7a⟩) SS ?r7a
        case y7a =>
          intro w' hSw
          (try dsimp only at hSw)
          go_simp
          all_goals (with_reducible rfl)
        (try simp only [Act.put, List.setIfInBounds_toArray, List.set_cons_zero, List.set_cons_succ])
        refine wpAnyH_take (i := 8) (v := ?v8a) rfl (by kernel_rfl) (by kernel_rfl) (by kernel_rfl) (fun _ _ _ h => h) (Or.inl ⟨by rfl, ?y8a⟩) SS ?r8a
        case y8a =>
          intro w' hSw
          (try dsimp only at hSw)
          go_simp
          all_goals (with_reducible rfl)
        (try simp only [Act.put, List.setIfInBounds_toArray, List.set_cons_zero, List.set_cons_succ])
        refine wpAnyH_take (i := 9) (v := ?v9a) rfl (by kernel_rfl) (by kernel_rfl) (by kernel_rfl) (fun _ _ _ h => h) (Or.inl ⟨by rfl, ?y9a⟩) SS ?r9a
        case y9a =>
          intro w' hSw
          (try dsimp only at hSw)
          go_simp
          all_goals (with_reducible rfl)
        (try simp only [Act.put, List.setIfInBounds_toArray, List.set_cons_zero, List.set_cons_succ])
        refine wpAnyH_take (i := 10) (v := ?v10a) rfl (by kernel_rfl) (by kernel_rfl) (by kernel_rfl) (fun _ _ _ h => h) (Or.inl ⟨by rfl, ?y10a⟩) SS ?r10a
        case y10a =>
          intro w' hSw
          (try dsimp only at hSw)
          go_simp
          all_goals (with_reducible rfl)
        (try simp only [Act.put, List.setIfInBounds_toArray, List.set_cons_zero, List.set_cons_succ])
        refine wpAnyH_take (i := 11) (v := ?v11a) rfl (by kernel_rfl) (by kernel_rfl) (by kernel_rfl) (fun _ _ _ h => h) (Or.inl ⟨by rfl, ?y11a⟩) SS ?r11a
        case y11a =>
          intro w' hSw
          (try dsimp only at hSw)
          go_simp
          all_goals (with_reducible rfl)
        (try simp only [Act.put, List.setIfInBounds_toArray, List.set_cons_zero, List.set_cons_succ])
        refine wpAnyH_take (i := 12) (v := ?v12a) rfl (by kernel_rfl) (by kernel_rfl) (by kernel_rfl) (fun _ _ _ h => h) (Or.inl ⟨by rfl, ?y12a⟩) SS ?r12a
        case y12a =>
          intro w' hSw
          (try dsimp only at hSw)
          go_simp
          all_goals (with_reducible rfl)
        (try simp only [Act.put, List.setIfInBounds_toArray, List.set_cons_zero, List.set_cons_succ])
        refine wpAnyH_take (i := 13) (v := ?v13a) rfl (by kernel_rfl) (by kernel_rfl) (by kernel_rfl) (fun _ _ _ h => h) (Or.inl ⟨by rfl, ?y13a⟩) SS ?r13a
        case y13a =>
          intro w' hSw
          (try dsimp only at hSw)
          go_simp
          all_goals (with_reducible rfl)
        (try simp only [Act.put, List.setIfInBounds_toArray, List.set_cons_zero, List.set_cons_succ])
        refine wpAnyH_take (i := 14) (v := ?v14a) rfl (by kernel_rfl) (by kernel_rfl) (by kernel_rfl) (fun _ _ _ h => h) (Or.inl ⟨by rfl, ?y14a⟩) SS ?r14a
        case y14a =>
          intro w' hSw
          (try dsimp only at hSw)
          go_simp
          all_goals (with_reducible rfl)
        (try simp only [Act.put, List.setIfInBounds_toArray, List.set_cons_zero, List.set_cons_succ])
        refine wpAnyH_ready (rs := [15]) (by kernel_rfl) (by simp) (AllReadyH.cons rfl (fun K hK => ?_) AllReadyH.nil)
        go_simp
        go_at_call 59
        refine (kind_any _ _).mono ?_
        rintro e w2 ⟨⟨kk, rfl⟩, rfl⟩
        refine hK.out _ _ SS (fun _ => ?_)
        clear hK
        refine wpAnyH_done (by kernel_rfl) ?_ _
        unfold endQ wpOp
        show (if _ then _ else _)
        rw [if_pos (by rfl)]
        left
        go_simp
        go_at_call 30
        refine (emit_any kk HLd hc).mono ?_
        rintro e w1 ⟨⟨v, rfl⟩, hL1, hb1⟩
        go_wp2_with fail
        go_end0
        rw [← HE.out]
        exact ⟨⟨_, rfl⟩, hL1, (hB.trans (hd.mono (Nat.le_of_lt HL.lt))).trans hb1⟩
      · refine region_last' (by rfl) (by kernel_rfl) (by kernel_rfl) ?_
        simp only [List.pop_toArray, List.dropLast_cons_cons, List.dropLast_singleton, List.size_toArray, List.length_cons, List.length_nil]
        have SS : ((fun w' => w'.cell? ⟨b, 2, none⟩ = some (.string s) ∧ w'.cell? ⟨b, 6, none⟩ = some (.int .i64 ts) ∧ w'.cell? ⟨b, 10, none⟩ = some (.int .i64 j))) wr.drew := S0
        refine wpAny_of_held (S := (fun w' => w'.cell? ⟨b, 2, none⟩ = some (.string s) ∧ w'.cell? ⟨b, 6, none⟩ = some (.int .i64 ts) ∧ w'.cell? ⟨b, 10, none⟩ = some (.int .i64 j))) _ _ _ _ ?_
        refine wpAnyH_take (i := 0) (v := ?v0b) rfl (by kernel_rfl) (by kernel_rfl) (by kernel_rfl) (fun _ _ _ h => h) (Or.inl ⟨by rfl, ?y0b⟩) SS ?r0b
        case y0b =>
          intro w' hSw
          (try dsimp only at hSw)
          go_simp
          all_goals (with_reducible rfl)
        (try simp only [Act.put, List.setIfInBounds_toArray, List.set_cons_zero, List.set_cons_succ])
        refine wpAnyH_take (i := 1) (v := ?v1b) rfl (by kernel_rfl) (by kernel_rfl) (by kernel_rfl) (fun _ _ _ h => h) (Or.inl ⟨by rfl, ?y1b⟩) SS ?r1b
        case y1b =>
          intro w' hSw
          (try dsimp only at hSw)
          go_simp
          all_goals (with_reducible rfl)
        (try simp only [Act.put, List.setIfInBounds_toArray, List.set_cons_zero, List.set_cons_succ])
        refine wpAnyH_take (i := 2) (v := ?v2b) rfl (by kernel_rfl) (by kernel_rfl) (by kernel_rfl) (fun _ _ _ h => h) (Or.inl ⟨by rfl, ?y2b⟩) SS ?r2b
        case y2b =>
          intro w' hSw
          (try dsimp only at hSw)
          go_simp
          all_goals (with_reducible rfl)
        (try simp only [Act.put, List.setIfInBounds_toArray, List.set_cons_zero, List.set_cons_succ])
        refine wpAnyH_take (i := 3) (v := ?v3b) rfl (by kernel_rfl) (by kernel_rfl) (by kernel_rfl) (fun _ _ _ h => h) (Or.inl ⟨by rfl, ?y3b⟩) SS ?r3b
        case y3b =>
          intro w' hSw
          (try dsimp only at hSw)
          go_simp
          all_goals (with_reducible rfl)
        (try simp only [Act.put, List.setIfInBounds_toArray, List.set_cons_zero, List.set_cons_succ])
        refine wpAnyH_take (i := 4) (v := ?v4b) rfl (by kernel_rfl) (by kernel_rfl) (by kernel_rfl) (fun _ _ _ h => h) (Or.inl ⟨by rfl, ?y4b⟩) SS ?r4b
        case y4b =>
          intro w' hSw
          (try dsimp only at hSw)
          go_simp
          all_goals (with_reducible rfl)
        (try simp only [Act.put, List.setIfInBounds_toArray, List.set_cons_zero, List.set_cons_succ])
        refine wpAnyH_take (i := 5) (v := ?v5b) rfl (by kernel_rfl) (by kernel_rfl) (by kernel_rfl) (fun _ _ _ h => h) (Or.inl ⟨by rfl, ?y5b⟩) SS ?r5b
        case y5b =>
          intro w' hSw
          (try dsimp only at hSw)
          go_simp
          all_goals (with_reducible rfl)
        (try simp only [Act.put, List.setIfInBounds_toArray, List.set_cons_zero, List.set_cons_succ])
        refine wpAnyH_take (i := 6) (v := ?v6b) rfl (by kernel_rfl) (by kernel_rfl) (by kernel_rfl) (fun _ _ _ h => h) (Or.inl ⟨by rfl, ?y6b⟩) SS ?r6b
        case y6b =>
          intro w' hSw
          (try dsimp only at hSw)
          go_simp
          all_goals (with_reducible rfl)
        (try simp only [Act.put, List.setIfInBounds_toArray, List.set_cons_zero, List.set_cons_succ])
        refine wpAnyH_take (i := 7) (v := ?v7b) rfl (by kernel_rfl) (by kernel_rfl) (by kernel_rfl) (fun _ _ _ h => h) (Or.inl ⟨by rfl, ?y7b⟩) SS ?r7b
        case y7b =>
          intro w' hSw
          (try dsimp only at hSw)
          go_simp
          all_goals (with_reducible rfl)
        (try simp only [Act.put, List.setIfInBounds_toArray, List.set_cons_zero, List.set_cons_succ])
        refine wpAnyH_take (i := 8) (v := ?v8b) rfl (by kernel_rfl) (by kernel_rfl) (by kernel_rfl) (fun _ _ _ h => h) (Or.inl ⟨by rfl, ?y8b⟩) SS ?r8b
        case y8b =>
          intro w' hSw
          (try dsimp only at hSw)
          go_simp
          all_goals (with_reducible rfl)
        (try simp only [Act.put, List.setIfInBounds_toArray, List.set_cons_zero, List.set_cons_succ])
        refine wpAnyH_take (i := 9) (v := ?v9b) rfl (by kernel_rfl) (by kernel_rfl) (by kernel_rfl) (fun _ _ _ h => h) (Or.inl ⟨by rfl, ?y9b⟩) SS ?r9b
        case y9b =>
          intro w' hSw
          (try dsimp only at hSw)
          go_simp
          all_goals (with_reducible rfl)
        (try simp only [Act.put, List.setIfInBounds_toArray, List.set_cons_zero, List.set_cons_succ])
        refine wpAnyH_take (i := 10) (v := ?v10b) rfl (by kernel_rfl) (by kernel_rfl) (by kernel_rfl) (fun _ _ _ h => h) (Or.inl ⟨by rfl, ?y10b⟩) SS ?r10b
        case y10b =>
          intro w' hSw
          (try dsimp only at hSw)
          go_simp
          all_goals (with_reducible rfl)
        (try simp only [Act.put, List.setIfInBounds_toArray, List.set_cons_zero, List.set_cons_succ])
        refine wpAnyH_take (i := 11) (v := ?v11b) rfl (by kernel_rfl) (by kernel_rfl) (by kernel_rfl) (fun _ _ _ h => h) (Or.inl ⟨by rfl, ?y11b⟩) SS ?r11b
        case y11b =>
          intro w' hSw
          (try dsimp only at hSw)
          go_simp
          all_goals (with_reducible rfl)
        (try simp only [Act.put, List.setIfInBounds_toArray, List.set_cons_zero, List.set_cons_succ])
        refine wpAnyH_take (i := 12) (v := ?v12b) rfl (by kernel_rfl) (by kernel_rfl) (by kernel_rfl) (fun _ _ _ h => h) (Or.inl ⟨by rfl, ?y12b⟩) SS ?r12b
        case y12b =>
          intro w' hSw
          (try dsimp only at hSw)
          go_simp
          all_goals (with_reducible rfl)
        (try simp only [Act.put, List.setIfInBounds_toArray, List.set_cons_zero, List.set_cons_succ])
        refine wpAnyH_take (i := 13) (v := ?v13b) rfl (by kernel_rfl) (by kernel_rfl) (by kernel_rfl) (fun _ _ _ h => h) (Or.inl ⟨by rfl, ?y13b⟩) SS ?r13b
        case y13b =>
          intro w' hSw
          (try dsimp only at hSw)
          go_simp
          all_goals (with_reducible rfl)
        (try simp only [Act.put, List.setIfInBounds_toArray, List.set_cons_zero, List.set_cons_succ])
        refine wpAnyH_take (i := 14) (v := ?v14b) rfl (by kernel_rfl) (by kernel_rfl) (by kernel_rfl) (fun _ _ _ h => h) (Or.inl ⟨by rfl, ?y14b⟩) SS ?r14b
        case y14b =>
          intro w' hSw
          (try dsimp only at hSw)
          go_simp
          all_goals (with_reducible rfl)
        (try simp only [Act.put, List.setIfInBounds_toArray, List.set_cons_zero, List.set_cons_succ])
        refine wpAnyH_ready (rs := [15]) (by kernel_rfl) (by simp) (AllReadyH.cons rfl (fun K hK => ?_) AllReadyH.nil)
        go_simp
        go_at_call 59
        refine (kind_any _ _).mono ?_
        rintro e w2 ⟨⟨kk, rfl⟩, rfl⟩
        refine hK.out _ _ SS (fun _ => ?_)
        clear hK
        refine wpAnyH_done (by kernel_rfl) ?_ _
        unfold endQ wpOp
        show (if _ then _ else _)
        rw [if_pos (by rfl)]
        left
        go_simp
        go_at_call 30
        refine (emit_any kk HLd hc).mono ?_
        rintro e w1 ⟨⟨v, rfl⟩, hL1, hb1⟩
        go_wp2_with fail
        go_end0
        rw [← HE.out]
        exact ⟨⟨_, rfl⟩, hL1, (hB.trans (hd.mono (Nat.le_of_lt HL.lt))).trans hb1⟩
end Go.Proofs.YtiicdalodfjgaaaGreatFmt
