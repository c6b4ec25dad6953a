/- The bytes of which operators are made. -/
import Derived.Test.YtiicdalodfjgaaaGreatFmtSpB
namespace Go.Proofs.YtiicdalodfjgaaaGreatFmt
open Go.RowKit

abbrev opC : Array Value := #[.int .u8 33, .int .u8 36, .int .u8 58, .int .u8 126, .int .u8 43, .int .u8 45, .int .u8 38, .int .u8 124, .int .u8 94, .int .u8 61, .int .u8 60, .int .u8 62, .int .u8 42, .int .u8 47, .int .u8 37]
theorem conv78 (w : World) : (convert 78 78 (.slice (some ⟨w.heap.size, 0, none⟩) 15 15)).run Tryz.prog (w.alloc (.cells opC 5)) = .ok (.slice (some ⟨w.heap.size, 0, none⟩) 15 15) (w.alloc (.cells opC 5 (15, 16))) := by
  have hsh : (w.alloc (.cells opC 5)).shape? w.heap.size = some (5, 15) := by
    have : (w.alloc (.cells opC 5)).heap[w.heap.size]? = some (.cells opC 5) := by
      show (w.heap.push (.cells opC 5))[w.heap.size]? = _
      simp
    unfold World.shape?
    rw [this]
    rfl
  have hfr : (w.alloc (.cells opC 5)).freeze ⟨w.heap.size, 15, none⟩ 1 = w.alloc (.cells opC 5 (15, 16)) := by
    have hm : ∀ (a : Array Obj) (x : Obj) (f : Obj → Obj), (a.push x).modify a.size f = a.push (f x) := by
      intro a x f
      apply Array.ext
      · simp
      · intro i h1 h2
        simp only [Array.getElem_modify, Array.getElem_push]
        by_cases h : a.size = i
        · subst h
          simp
        · have hi : i < a.size := by simp at h1; omega
          simp [h, hi]
    unfold World.freeze
    rw [if_neg (by decide)]
    show ({ w.alloc (.cells opC 5) with heap := (w.heap.push (.cells opC 5)).modify w.heap.size _ } : World) = _
    rw [hm]
    rfl
  simp [convert, run_underlying Tryz.underlying78, run_underlying Tryz.underlying5, markStringish, hsh]
  exact hfr
theorem opC_at (i : Nat) (h : i < 15) : opC[i]? = some (.int .u8 ((opl.getD i 0 : Nat) : Int)) :=
  match i, h with
  | 0, _ => rfl
  | 1, _ => rfl
  | 2, _ => rfl
  | 3, _ => rfl
  | 4, _ => rfl
  | 5, _ => rfl
  | 6, _ => rfl
  | 7, _ => rfl
  | 8, _ => rfl
  | 9, _ => rfl
  | 10, _ => rfl
  | 11, _ => rfl
  | 12, _ => rfl
  | 13, _ => rfl
  | 14, _ => rfl
theorem opl_drop : ∀ i : Fin 15, opl.drop i.1 = opl.getD i.1 0 :: opl.drop (i.1 + 1) := by decide

set_option maxRecDepth 100000 in
set_option maxHeartbeats 1600000 in
theorem op_any (c : Nat) (w : World) : Calls Tryz.prog 21 #[.int .u8 c] w fun e w' => e = .returned (.bool (opB c)) ∧ Below w.heap.size w w' := by
  have hcell : ∀ i, i < 15 → (w.alloc (.cells opC 5 (15, 16))).cell? ⟨w.heap.size, i, none⟩ = some (.int .u8 (opl.getD i 0)) := fun i hi => by
    rw [cell_of_row _ _ i opC 5 (15, 16) (heap_alloc_new w _)]
    exact opC_at i hi
  have hcv := conv78 w
  have hbw : Below w.heap.size w (w.alloc (.cells opC 5 (15, 16))) := (Below.refl _ _).alloc (Nat.le_refl _) _
  go_enter Tryz.func21, Tryz.ntmps21
  go_wp2_with fail
  generalize hw1 : w.alloc _ = w1
  rw [show w.alloc (.cells opC 5 (15, 16)) = w1 from hw1] at hcell hbw
  go_loopw [8] (fun i wr => ∃ j : Nat, i = .int .i64 j ∧ Hid (opB c = (opl.drop j).contains c) ∧ j ≤ 15 ∧ wr = w1) (fun i _ => 15 - (intOf i).toNat)
  case atStart => exact ⟨0, rfl, Lib.hid rfl, by omega, rfl⟩
  case round =>
    obtain ⟨j, rfl, HS, hj, rfl⟩ := hrel
    by_cases hlt : j < 15
    · have hc := hcell j hlt
      obtain ⟨x, hx⟩ : ∃ x, opl.getD j 0 = x := ⟨_, rfl⟩
      rw [hx] at hc
      have HD : Hid (opl.drop j = x :: opl.drop (j + 1)) := Lib.hid (by rw [← hx]; exact opl_drop ⟨j, hlt⟩)
      clear hcell hx
      have h15 : (j : Int) < 15 := by omega
      have h00 : (0 : Int) ≤ (j : Int) := by omega
      by_cases e : x = c
      · have t : ((x : Int) == (c : Int)) = true := by simp; omega
        have HF : Hid (true = opB c) := Lib.hid (by rw [HS.out, HD.out, e]; simp)
        go_wp2_with fail
        go_ret
        exact ⟨ret_bool HF.out, hbw⟩
      · have t : ((x : Int) == (c : Int)) = false := by simp; omega
        have HF : Hid (opB c = (opl.drop (j + 1)).contains c) := Lib.hid (by rw [HS.out, HD.out, List.contains_cons, show (c == x) = false by simpa using fun h => e h.symm, Bool.false_or])
        go_wp2_with fail
        go_roundw
        case rel => exact ⟨j + 1, rfl, HF, by omega, trivial⟩
        case measure => simp [intOf]; omega
    · have h15 : j = 15 := by omega
      subst h15
      have HF : Hid (false = opB c) := Lib.hid (by rw [HS.out]; rfl)
      go_wp2_with fail
      go_ret
      exact ⟨ret_bool HF.out, hbw⟩
end Go.Proofs.YtiicdalodfjgaaaGreatFmt
