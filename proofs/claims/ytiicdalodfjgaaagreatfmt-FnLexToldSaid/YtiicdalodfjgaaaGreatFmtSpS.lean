/- The reference's lexer: operators. -/
import Derived.Test.YtiicdalodfjgaaaGreatFmtPp
import Derived.Test.YtiicdalodfjgaaaGreatFmtSpO
import Derived.Test.YtiicdalodfjgaaaGreatFmtSpH
import Derived.Test.YtiicdalodfjgaaaGreatFmtSpG
import Derived.Deep.DeepCutAuto
namespace Go.Proofs.YtiicdalodfjgaaaGreatFmt
open Go.RowKit

theorem SpL.c0 {s : ByteArray} {b p : Nat} {st : Int} {w : World} (h : SpL s b p st w) : w.cell? ⟨b, 0, none⟩ = some (.string s) := by
  obtain ⟨tv, cv, wd, co, n1, n2, xs1, xs2, hI⟩ := h
  have := blk_cell hI.blk 0
  simpa using this
theorem SpL.c1 {s : ByteArray} {b p : Nat} {st : Int} {w : World} (h : SpL s b p st w) : w.cell? ⟨b, 1, none⟩ = some (.int .i64 p) := by
  obtain ⟨tv, cv, wd, co, n1, n2, xs1, xs2, hI⟩ := h
  have := blk_cell hI.blk 1
  simpa using this
theorem SpL.c2 {s : ByteArray} {b p : Nat} {st : Int} {w : World} (h : SpL s b p st w) : w.cell? ⟨b, 2, none⟩ = some (.int .i64 st) := by
  obtain ⟨tv, cv, wd, co, n1, n2, xs1, xs2, hI⟩ := h
  have := blk_cell hI.blk 2
  simpa using this
/-- whether the run goes on at j, having begun at p. -/
def goB (s : ByteArray) (p j : Nat) : Bool := decide (j < s.size) && (opB (gb s j) && !(decide (p < j) && cmB s j))
def trL : List ByteArray := [⟨#[43]⟩, ⟨#[45]⟩, ⟨#[126]⟩, ⟨#[33]⟩, ⟨#[36]⟩]
theorem one_list (s : ByteArray) (k : Nat) (h : k < s.size) : (s.extract k (k + 1)).toList = [UInt8.ofNat (gb s k)] := by
  rw [ByteArray.toList_eq]
  apply List.ext_getElem?
  intro i
  match i with
  | 0 => rw [ext_get s k (k + 1) 0 (by omega) (by omega)]; rfl
  | i + 1 => rw [List.getElem?_eq_none (by rw [ext_len s k (k + 1) (by omega)]; omega), List.getElem?_eq_none (by simp)]
theorem hasL_one (l : List Nat) (hl : ∀ c ∈ l, c < 256) (s : ByteArray) (k : Nat) (h : k < s.size) : hasL (l.map (fun c => ⟨#[UInt8.ofNat c]⟩)) (s.extract k (k + 1)) = l.any (fun c => c == gb s k) := by
  unfold hasL
  rw [List.any_map, one_list s k h]
  have : ∀ c ∈ l, ((fun x : ByteArray => x.toList == [UInt8.ofNat (gb s k)]) ∘ (fun c => ⟨#[UInt8.ofNat c]⟩)) c = (c == gb s k) := by
    intro c hc
    have h1 := hl c hc
    have h2 := gb_lt s k
    simp only [Function.comp, ByteArray.toList_eq]
    rw [Bool.eq_iff_iff]
    simp only [beq_iff_eq]
    constructor
    · intro e
      have e2 := congrArg (fun l => l.map UInt8.toNat) e
      simp at e2
      omega
    · intro e
      rw [e]
  clear hl
  induction l with
  | nil => rfl
  | cons a l ih =>
    rw [List.any_cons, List.any_cons, this a (by simp), ih (fun c hc => this c (by simp [hc]))]
theorem trL_eq : trL = [43, 45, 126, 33, 36].map (fun c => ⟨#[UInt8.ofNat c]⟩) := rfl
theorem trL_has (s : ByteArray) (k : Nat) (h : k < s.size) : hasL trL (s.extract k (k + 1)) = trimB (gb s k) := by
  rw [trL_eq, hasL_one _ (by decide) s k h]
  unfold trimB
  rw [Bool.eq_iff_iff]
  simp
  omega
def SgPost (s : ByteArray) (b : Nat) (r : Int × Nat) (w : World) (e : Ending) (w' : World) : Prop :=
  (∃ v, e = .returned v) ∧ SpL s b r.2 r.1 w' ∧ Below b w w'
abbrev trC : Array Value := #[.string ⟨#[43]⟩, .string ⟨#[45]⟩, .string ⟨#[126]⟩, .string ⟨#[33]⟩, .string ⟨#[36]⟩]
theorem trC_at (i : Nat) (h : i < 5) : trC[i]? = some (.string (trL.getD i ⟨#[]⟩)) :=
  match i, h with
  | 0, _ => rfl
  | 1, _ => rfl
  | 2, _ => rfl
  | 3, _ => rfl
  | 4, _ => rfl

set_option maxRecDepth 100000 in
set_option maxHeartbeats 6400000 in
theorem sign_any (s : ByteArray) (b p : Nat) (w : World) (h : SpL s b p 1 w) (hp : p < s.size) (hop : opB (gb s p) = true) (hs : s.size ≤ 2000) :
    Calls Tryz.prog 22 #[.pointer (some ⟨b, 0, none⟩)] w fun e w' => SgPost s b (sgS s p) w e w' := by
  have HL := h
  obtain ⟨r, hr⟩ : ∃ r, sgS s p = r := ⟨_, rfl⟩
  rw [hr]
  obtain ⟨W, hW⟩ : ∃ W, scp s (runC s) (p + 1) = W := ⟨_, rfl⟩
  obtain ⟨E, hE⟩ : ∃ E, trimN s (p + 1) W = E := ⟨_, rfl⟩
  have HRS : Hid ((if 1 < E - p ∧ E < W then ((1 : Int), p + 1) else if E - p = 1 then (1, E) else if hasL sgL (s.extract p E) = true then (1, E) else (0, p)) = r) := Lib.hid (by
    rw [← hr]
    unfold sgS
    rw [hW, hE])
  have hWb := scp_facts s (runC s) _ (p + 1) rfl (by omega)
  rw [hW] at hWb
  have hEb := trimN_bounds s (p + 1) W hWb.1
  rw [hE] at hEb
  have HW := Lib.hid hW
  have HE := Lib.hid hE
  clear hr hW hE
  have hp0 : (0 : Int) ≤ (p : Int) := Int.natCast_nonneg _
  have hc1 := HL.c1
  go_enter Tryz.func22, Tryz.ntmps22
  go_wp2_with fail
  clear hc1
  go_loopw [2] (fun i wr => ∃ j : Nat, i = .int .i64 j ∧ p ≤ j ∧ Hid (j = p ∨ scp s (runC s) j = W) ∧ j ≤ s.size ∧ Below w.heap.size w wr) (fun i _ => s.size - (intOf i).toNat)
  case atStart => exact ⟨p, rfl, Nat.le_refl _, Lib.hid (.inl rfl), by omega, Below.refl _ _⟩
  case round =>
    obtain ⟨j, rfl, hpj, HS, hj, hB⟩ := hrel
    have HL2 := HL.below hB
    have c0 := HL2.c0
    have c1 := HL2.c1
    have hgb : ∀ h : j < s.size, (s[j]'h).toNat = gb s j := fun h => (gb_in s j h).symm
    go_upto_region 1 with (fail)
    go_cut [74] (fun v wx => v = .bool (goB s p j) ∧ Below w.heap.size w wx)
    case first => as_aux_lemma =>
      by_cases a1 : j < s.size
      · have Hop := fun w => op_any (gb s j) w
        obtain ⟨ob, hob⟩ : ∃ x, opB (gb s j) = x := ⟨_, rfl⟩
        rw [hob] at Hop
        have hsz : w.heap.size ≤ wr.heap.size := hB.size
        cases ob with
        | false =>
          have HF : Hid (false = goB s p j) := Lib.hid (by unfold goB; rw [hob]; simp)
          clear hob
          go_wp2_with (go_at_call 21; refine (Hop _).mono ?_; rintro e w1 ⟨rfl, hb1⟩)
          go_meet
          exact ⟨by rw [← HF.out], hB.trans (hb1.mono hsz)⟩
        | true =>
          by_cases a2 : p < j
          · have t2 : (p : Int) < (j : Int) := by omega
            by_cases a3 : gb s j = 47
            · have t3 : ((gb s j : Int) == 47) = true := by simp; omega
              by_cases a4 : j + 1 < s.size
              · have hgb1 : ∀ h : j + 1 < s.size, (s[j + 1]'h).toNat = gb s (j + 1) := fun h => (gb_in s (j + 1) h).symm
                by_cases a5 : gb s (j + 1) = 47
                · have t5 : ((gb s (j + 1) : Int) == 47) = true := by simp; omega
                  have HF : Hid (false = goB s p j) := Lib.hid (by unfold goB cmB; rw [hob]; simp [a1, a2, a3, a5])
                  clear hob a3 a5
                  go_wp2_with (go_at_call 21; refine (Hop _).mono ?_; rintro e w1 ⟨rfl, hb1⟩; have c01 := (HL2.below hb1).c0; have c11 := (HL2.below hb1).c1)
                  go_meet
                  exact ⟨by rw [← HF.out], hB.trans (hb1.mono hsz)⟩
                · have t5 : ((gb s (j + 1) : Int) == 47) = false := by simp; omega
                  by_cases a6 : gb s (j + 1) = 42
                  · have t6 : ((gb s (j + 1) : Int) == 42) = true := by simp; omega
                    have HF : Hid (false = goB s p j) := Lib.hid (by unfold goB cmB; rw [hob]; simp [a1, a2, a3, a6])
                    clear hob a3 a5 a6
                    go_wp2_with (go_at_call 21; refine (Hop _).mono ?_; rintro e w1 ⟨rfl, hb1⟩; have c01 := (HL2.below hb1).c0; have c11 := (HL2.below hb1).c1)
                    go_meet
                    exact ⟨by rw [← HF.out], hB.trans (hb1.mono hsz)⟩
                  · have t6 : ((gb s (j + 1) : Int) == 42) = false := by simp; omega
                    have HF : Hid (true = goB s p j) := Lib.hid (by unfold goB cmB; rw [hob]; simp [a1, a5, a6])
                    clear hob a3 a5 a6
                    go_wp2_with (go_at_call 21; refine (Hop _).mono ?_; rintro e w1 ⟨rfl, hb1⟩; have c01 := (HL2.below hb1).c0; have c11 := (HL2.below hb1).c1)
                    go_meet
                    exact ⟨by rw [← HF.out], hB.trans (hb1.mono hsz)⟩
              · have HF : Hid (true = goB s p j) := Lib.hid (by unfold goB cmB; rw [hob, gb_out s (j + 1) a4]; simp [a1])
                clear hob a3
                go_wp2_with (go_at_call 21; refine (Hop _).mono ?_; rintro e w1 ⟨rfl, hb1⟩; have c01 := (HL2.below hb1).c0; have c11 := (HL2.below hb1).c1)
                go_meet
                exact ⟨by rw [← HF.out], hB.trans (hb1.mono hsz)⟩
            · have t3 : ((gb s j : Int) == 47) = false := by simp; omega
              have HF : Hid (true = goB s p j) := Lib.hid (by unfold goB cmB; rw [hob]; simp [a1, a3])
              clear hob a3
              go_wp2_with (go_at_call 21; refine (Hop _).mono ?_; rintro e w1 ⟨rfl, hb1⟩; have c01 := (HL2.below hb1).c0; have c11 := (HL2.below hb1).c1)
              go_meet
              exact ⟨by rw [← HF.out], hB.trans (hb1.mono hsz)⟩
          · have t2 : decide ((p : Int) < (j : Int)) = false := by simp; omega
            have HF : Hid (true = goB s p j) := Lib.hid (by unfold goB; rw [hob]; simp [a1, a2])
            clear hob
            go_wp2_with (go_at_call 21; refine (Hop _).mono ?_; rintro e w1 ⟨rfl, hb1⟩; have c01 := (HL2.below hb1).c0; have c11 := (HL2.below hb1).c1)
            go_meet
            exact ⟨by rw [← HF.out], hB.trans (hb1.mono hsz)⟩
      · have HF : Hid (false = goB s p j) := Lib.hid (by unfold goB; simp [a1])
        go_wp2_with fail
        go_meet
        exact ⟨by rw [← HF.out], hB⟩
    case rest =>
      obtain ⟨rfl, hB'⟩ := hcut
      clear hB HL2 c0 c1 hgb
      cases hg : goB s p j with
      | true =>
        have hg' := hg
        unfold goB at hg'
        simp only [Bool.and_eq_true, decide_eq_true_eq, Bool.not_eq_true', Bool.and_eq_false_iff, decide_eq_false_iff_not] at hg'
        have HN : Hid (j + 1 = p ∨ scp s (runC s) (j + 1) = W) := Lib.hid (.inr (by
          rcases HS.out with e | e
          · rw [e]; exact HW.out
          · by_cases hpj' : p < j
            · rw [← scp_step s (runC s) j hg'.1 (by
                unfold runC
                rw [hg'.2.1, hg'.2.2.resolve_left (fun h => h hpj')]
                rfl)]
              exact e
            · rw [show j = p by omega]; exact HW.out))
        have hlt := hg'.1
        clear hg'
        go_wp2_with fail
        go_roundw
        case rel => exact ⟨j + 1, rfl, by omega, HN, by omega, hB'⟩
        case measure => simp [intOf]; omega
      | false =>
        have hjW : j = W := by
          have hjp : j ≠ p := by
            intro e
            rw [e] at hg
            unfold goB at hg
            rw [hop] at hg
            simp at hg
            omega
          have e := HS.out.resolve_left hjp
          have hst : ¬ (j < s.size ∧ runC s j = true) := by
            rintro ⟨g1, g2⟩
            unfold goB at hg
            unfold runC at g2
            simp only [Bool.and_eq_true, Bool.not_eq_true'] at g2
            rw [g2.1, g2.2] at hg
            simp at hg
            omega
          rw [scp_stop s (runC s) j hst] at e
          exact e
        subst hjW
        clear HS hg
        go_wp2_with fail
        go_loopw [2] (fun i wr2 => ∃ e : Nat, i = .int .i64 e ∧ p + 1 ≤ e ∧ e ≤ j ∧ Hid (trimN s (p + 1) e = E) ∧ Below w.heap.size w wr2) (fun i _ => (intOf i).toNat)
        case atStart => exact ⟨j, rfl, by omega, Nat.le_refl _, HE, hB'⟩
        case round =>
          obtain ⟨e, rfl, he1, he2, HT, hB2⟩ := hrel
          have HL3 := HL.below hB2
          have c0 := HL3.c0
          have c1 := HL3.c1
          have hsz : w.heap.size ≤ wr.heap.size := hB2.size
          have hw1 : IntKind.i64.wrap ((p : Int) + 1) = (p : Int) + 1 := IntWalk.i64_in _ (by omega)
          go_upto_region 4 with (fail)
          go_cut [96] (fun v wx => v = .bool (decide (p + 1 < e) && trimB (gb s (e - 1))) ∧ Below w.heap.size w wx)
          case first =>
            by_cases a1 : p + 1 < e
            · obtain ⟨q, hq⟩ : ∃ q, q = e - 1 := ⟨_, rfl⟩
              have hal : ∀ o, Below w.heap.size w (wr.alloc o) := fun o => hB2.trans (Below.mono ((Below.refl _ _).alloc (Nat.le_refl _) _) hsz)
              have c02 := fun o => (HL.below (hal o)).c0
              have c12 := fun o => (HL.below (hal o)).c1
              have hH : hasL trL (s.extract q e) = trimB (gb s (e - 1)) := by
                have := trL_has s (e - 1) (by omega)
                rw [← hq] at this ⊢
                rwa [show q + 1 = e by omega] at this
              have H18 := has_any trL (s.extract q e) wr.heap.size 5 5 (wr.alloc (.cells trC 9)) rfl (by omega) (fun i hi => by rw [cell_of_row _ _ i trC 9 (0, 0) (heap_alloc_new wr _)]; exact trC_at i hi)
              rw [hH] at H18
              have t1 : (p : Int) + 1 < (e : Int) := by omega
              have hw2 : IntKind.i64.wrap ((e : Int) - 1) = (q : Int) := by rw [IntWalk.i64_in _ (by omega)]; omega
              have g0 : (0 : Int) ≤ (q : Int) := by omega
              have g1 : (q : Int) ≤ (e : Int) := by omega
              have g2 : (e : Int) ≤ (s.size : Int) := by omega
              have HBB := Lib.hid hq
              clear hq hH
              obtain ⟨bb, hbb⟩ : ∃ x, trimB (gb s (e - 1)) = x := ⟨_, rfl⟩
              rw [hbb] at H18
              have H19 : Calls Tryz.prog 18 #[.slice (some ⟨wr.heap.size, 0, none⟩) 5 5, .string (s.extract q e)] (wr.alloc (Obj.cells #[.string ⟨#[43]⟩, .string ⟨#[45]⟩, .string ⟨#[126]⟩, .string ⟨#[33]⟩, .string ⟨#[36]⟩] 9)) fun e w' => e = .returned (.bool bb) ∧ Below w.heap.size w w' := H18.mono (by rintro e w1 ⟨rfl, rfl⟩; exact ⟨rfl, hal _⟩)
              clear H18
              go_wp2_with (go_at_call 18; refine H19.mono ?_; rintro ev w1 ⟨rfl, hb1⟩)
              go_meet
              exact ⟨by rw [decide_eq_true a1, hbb]; rfl, hb1⟩
            · have t1 : decide ((p : Int) + 1 < (e : Int)) = false := by simp; omega
              go_wp2_with fail
              go_meet
              exact ⟨by rw [decide_eq_false a1]; rfl, hB2⟩
          case rest =>
            obtain ⟨rfl, hB3⟩ := hcut
            clear hB2 HL3 c0 c1 hsz hw1
            cases hg : (decide (p + 1 < e) && trimB (gb s (e - 1))) with
            | true =>
              have hg' := hg
              simp only [Bool.and_eq_true, decide_eq_true_eq] at hg'
              have HN : Hid (trimN s (p + 1) (e - 1) = E) := Lib.hid (by
                have := trimN_step s (p + 1) (e - 1) ⟨by omega, hg'.2⟩
                rw [show e - 1 + 1 = e by omega] at this
                rw [← this]
                exact HT.out)
              have hlt := hg'.1
              clear hg'
              have hw2 : IntKind.i64.wrap ((e : Int) - 1) = ((e - 1 : Nat) : Int) := by rw [IntWalk.i64_in _ (by omega)]; omega
              go_wp2_with fail
              go_roundw
              case rel => exact ⟨e - 1, rfl, by omega, by omega, HN, hB3⟩
              case measure => simp [intOf]; omega
            | false =>
              have heE : e = E := by
                have hst : ¬ (p + 1 < e ∧ trimB (gb s (e - 1)) = true) := by
                  rintro ⟨g1, g2⟩
                  rw [decide_eq_true g1, g2] at hg
                  cases hg
                have := trimN_stop s (p + 1) e hst
                rw [← this]
                exact HT.out
              subst heE
              clear HT hg
              have HL4 := HL.below hB3
              have c0 := HL4.c0
              have c1 := HL4.c1
              have g1 : (p : Int) ≤ (e : Int) := by omega
              have g2 : (e : Int) ≤ (s.size : Int) := by omega
              have hp1 : (0 : Int) ≤ (p : Int) := Int.natCast_nonneg _
              go_wp2_with fail
              go_quiet (fail)
              have hBq : Below w.heap.size w (wc.drewN nq) := below_drewN hB3 nq
              generalize wc.drewN nq = w4 at hBq
              clear hB3 HL4 c0 c1 hB'
              have HL4 := HL.below hBq
              have hBb : Below b w w4 := hBq.mono (Nat.le_of_lt HL.lt)
              have c0 := HL4.c0
              have c1 := HL4.c1
              obtain ⟨t, ht⟩ : ∃ t, s.extract p e = t := ⟨_, rfl⟩
              have htz : t.size = e - p := by rw [← ht]; exact ext_size s p e (by omega)
              rw [ht] at HRS
              have hzi : (t.size : Int) = (e : Int) - (p : Int) := by omega
              rw [ht]
              clear ht
              have hw1 : IntKind.i64.wrap ((p : Int) + 1) = ((p + 1 : Nat) : Int) := by rw [IntWalk.i64_in _ (by omega)]; omega
              by_cases q1 : 1 < e - p
              · have t1 : (1 : Int) < (t.size : Int) := by omega
                by_cases q2 : e < j
                · have t2 : (e : Int) < (j : Int) := by omega
                  have HR : Hid ((1, p + 1) = r) := Lib.hid (by rw [← HRS.out, if_pos ⟨q1, q2⟩])
                  go_upto_region 8 with (fail)
                  go_cut [] (fun wx => SpL s b p 1 wx ∧ Below b w wx)
                  case first => as_aux_lemma =>
                    obtain ⟨tv, cv, wd, co, n1, n2, xs1, xs2, hI⟩ := HL4
                    have c5 := blk_cell hI.blk 5
                    simp at c5
                    have z5 := blk_thaw hI.blk 5
                    cases wd with
                    | true =>
                      go_wp2_with fail
                      go_meet
                      exact ⟨⟨_, _, _, _, _, _, _, _, hI.setWd _⟩, below_set hBb _ _⟩
                    | false =>
                      cases hq : (t.toList == [58, 58]) with
                      | true =>
                        go_wp2_with fail
                        go_meet
                        exact ⟨⟨_, _, _, _, _, _, _, _, hI.setWd _⟩, below_set hBb _ _⟩
                      | false =>
                        go_wp2_with fail
                        go_meet
                        exact ⟨⟨_, _, _, _, _, _, _, _, hI.setWd _⟩, below_set hBb _ _⟩
                  case rest =>
                    obtain ⟨HL5, hB5⟩ := hcut
                    clear hBq HL4 hBb c0 c1
                    go_upto_region 9 with (fail)
                    go_cut [] (fun wx => SpL s b p 1 wx ∧ Below b w wx)
                    case first => as_aux_lemma =>
                      obtain ⟨tv, cv, wd, co, n1, n2, xs1, xs2, hI⟩ := HL5
                      have c6 := blk_cell hI.blk 6
                      simp at c6
                      have z6 := blk_thaw hI.blk 6
                      cases co with
                      | true =>
                        go_wp2_with fail
                        go_meet
                        exact ⟨⟨_, _, _, _, _, _, _, _, hI.setCo _⟩, below_set hB5 _ _⟩
                      | false =>
                        cases hq : (t.toList == [58, 58]) with
                        | true =>
                          go_wp2_with fail
                          go_meet
                          exact ⟨⟨_, _, _, _, _, _, _, _, hI.setCo _⟩, below_set hB5 _ _⟩
                        | false =>
                          go_wp2_with fail
                          go_meet
                          exact ⟨⟨_, _, _, _, _, _, _, _, hI.setCo _⟩, below_set hB5 _ _⟩
                    case rest =>
                      obtain ⟨HL6, hB6⟩ := hcut
                      have c0 := HL6.c0
                      have c1 := HL6.c1
                      go_wp2_with fail
                      refine (put_any s b p 1 5 (p + 1) _ HL6 (by omega) (by omega) hs).mono ?_
                      rintro e w7 ⟨⟨v, rfl⟩, hL7, hb7⟩
                      go_wp2_with fail
                      (try simp only [Exit.inBlock, Exit.then]); refine bodyPost_ret (results_none rfl _ _ _) rfl ?_
                      unfold SgPost
                      rw [← HR.out]
                      exact ⟨⟨_, rfl⟩, hL7, hB6.trans hb7⟩
                · have t2 : decide ((e : Int) < (j : Int)) = false := by simp; omega
                  have t3 : ((t.size : Int) == 1) = false := by simp; omega
                  have HRT : Hid ((if hasL sgL t = true then ((1 : Int), e) else (0, p)) = r) := Lib.hid (by have h0 := HRS.out; rw [if_neg (fun h => q2 h.2), if_neg (by omega)] at h0; exact h0)
                  clear HRS
                  go_wp2_with (go_at_call 46; refine (signs_any _).mono ?_; rintro e w5 ⟨rfl, rfl⟩)
                  have hal : Below w4.heap.size w4 (w4.alloc (.cells sgC 9)) := (Below.refl _ _).alloc (Nat.le_refl _) _
                  have HL5 := HL4.below hal
                  have hB5 : Below b w (w4.alloc (.cells sgC 9)) := hBb.trans (hal.mono (Nat.le_of_lt HL4.lt))
                  have hcell : ∀ i, i < 13 → (w4.alloc (.cells sgC 9)).cell? ⟨w4.heap.size, i, none⟩ = some (.string (sgL.getD i ⟨#[]⟩)) := fun i hi => by
                    rw [cell_of_row _ _ i sgC 9 (0, 0) (heap_alloc_new w4 _)]
                    exact sgC_at i hi
                  go_loopw [154] (fun i wr3 => ∃ k : Nat, i = .int .i64 k ∧ Hid (hasL sgL t = hasL (sgL.drop k) t) ∧ k ≤ 13 ∧ wr3 = w4.alloc (.cells sgC 9)) (fun i _ => 13 - (intOf i).toNat)
                  case atStart => exact ⟨0, rfl, Lib.hid rfl, by omega, rfl⟩
                  case round =>
                    obtain ⟨k, rfl, HS, hk, rfl⟩ := hrel
                    by_cases hlt : k < 13
                    · have hc := hcell k hlt
                      obtain ⟨x, hx⟩ : ∃ x, sgL.getD k ⟨#[]⟩ = x := ⟨_, rfl⟩
                      rw [hx] at hc
                      have HD : Hid (sgL.drop k = x :: sgL.drop (k + 1)) := Lib.hid (by rw [← hx]; exact hasL_drop sgL k hlt)
                      clear hcell hx
                      have h15 : (k : Int) < 13 := by omega
                      have h00 : (0 : Int) ≤ (k : Int) := by omega
                      cases ee : (x.toList == t.toList) with
                      | true =>
                        have HF : Hid ((1, e) = r) := Lib.hid (by
                          rw [← HRT.out, if_pos]
                          rw [HS.out, HD.out]
                          unfold hasL
                          rw [List.any_cons, ee]
                          rfl)
                        go_wp2_with fail
                        refine (put_any s b p 1 5 e _ HL5 (by omega) (by omega) hs).mono ?_
                        rintro ev w7 ⟨⟨v, rfl⟩, hL7, hb7⟩
                        go_wp2_with fail
                        (try simp only [Exit.inBlock, Exit.then]); refine bodyPost_ret (results_none rfl _ _ _) rfl ?_
                        unfold SgPost
                        rw [← HF.out]
                        exact ⟨⟨_, rfl⟩, hL7, hB5.trans hb7⟩
                      | false =>
                        have HF : Hid (hasL sgL t = hasL (sgL.drop (k + 1)) t) := Lib.hid (by rw [HS.out, HD.out]; unfold hasL; rw [List.any_cons, ee]; rfl)
                        go_wp2_with fail
                        go_roundw
                        case rel => exact ⟨k + 1, rfl, HF, by omega, trivial⟩
                        case measure => simp [intOf]; omega
                    · have hk13 : k = 13 := by omega
                      subst hk13
                      have HF : Hid ((0, p) = r) := Lib.hid (by
                        have h0 := HRT.out
                        rw [if_neg] at h0
                        · exact h0
                        · intro hh
                          rw [HS.out, show sgL.drop 13 = [] from rfl] at hh
                          cases hh)
                      go_wp2_with fail
                      refine (stop_any s b p 1 0 _ HL5).mono ?_
                      rintro ev w7 ⟨⟨v, rfl⟩, hL7, hb7⟩
                      go_wp2_with fail
                      go_end0
                      unfold SgPost
                      rw [← HF.out]
                      exact ⟨⟨_, rfl⟩, hL7, hB5.trans hb7⟩
              · have t1 : decide ((1 : Int) < (t.size : Int)) = false := by simp; omega
                have t3 : ((t.size : Int) == 1) = true := by simp; omega
                have HR : Hid ((1, e) = r) := Lib.hid (by rw [← HRS.out, if_neg (fun h => q1 h.1), if_pos (by omega)])
                go_wp2_with fail
                refine (put_any s b p 1 5 e _ HL4 (by omega) (by omega) hs).mono ?_
                rintro ev w7 ⟨⟨v, rfl⟩, hL7, hb7⟩
                go_wp2_with fail
                (try simp only [Exit.inBlock, Exit.then]); refine bodyPost_ret (results_none rfl _ _ _) rfl ?_
                unfold SgPost
                rw [← HR.out]
                exact ⟨⟨_, rfl⟩, hL7, hBb.trans hb7⟩
end Go.Proofs.YtiicdalodfjgaaaGreatFmt
