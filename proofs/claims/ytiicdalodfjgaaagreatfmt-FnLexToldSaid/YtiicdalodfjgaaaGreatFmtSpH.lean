/- Whether a text is in a list of texts that lies in one row of memory. -/
import Derived.Test.YtiicdalodfjgaaaGreatFmtSpB
namespace Go.Proofs.YtiicdalodfjgaaaGreatFmt
open Go.RowKit

theorem hasL_drop (l : List ByteArray) (j : Nat) (h : j < l.length) : l.drop j = l.getD j ⟨#[]⟩ :: l.drop (j + 1) := by
  rw [List.drop_eq_getElem_cons h]
  simp [h]

set_option maxRecDepth 100000 in
set_option maxHeartbeats 1600000 in
theorem has_any (l : List ByteArray) (t : ByteArray) (g n cap : Nat) (w : World) (hn : l.length = n) (hb : n ≤ 1000) (hcell : ∀ i, i < n → w.cell? ⟨g, i, none⟩ = some (.string (l.getD i ⟨#[]⟩))) :
    Calls Tryz.prog 18 #[.slice (some ⟨g, 0, none⟩) n cap, .string t] w fun e w' => e = .returned (.bool (hasL l t)) ∧ w = w' := by
  go_enter Tryz.func18, Tryz.ntmps18
  go_wp2_with fail
  go_loopw [9] (fun i wr => ∃ j : Nat, i = .int .i64 j ∧ Hid (hasL l t = hasL (l.drop j) t) ∧ j ≤ n ∧ wr = w) (fun i _ => n - (intOf i).toNat)
  case atStart => exact ⟨0, rfl, Lib.hid rfl, by omega, rfl⟩
  case round =>
    obtain ⟨j, rfl, HS, hj, rfl⟩ := hrel
    by_cases hlt : j < n
    · have hc := hcell j hlt
      obtain ⟨x, hx⟩ : ∃ x, l.getD j ⟨#[]⟩ = x := ⟨_, rfl⟩
      rw [hx] at hc
      have HD : Hid (l.drop j = x :: l.drop (j + 1)) := Lib.hid (by rw [← hx]; exact hasL_drop l j (by omega))
      clear hcell hx
      have h15 : (j : Int) < (n : Int) := by omega
      have h00 : (0 : Int) ≤ (j : Int) := by omega
      cases e : (x.toList == t.toList) with
      | true =>
        have HF : Hid (true = hasL l t) := Lib.hid (by rw [HS.out, HD.out]; unfold hasL; rw [List.any_cons, e]; rfl)
        go_wp2_with fail
        go_ret
        exact ⟨ret_bool HF.out, rfl⟩
      | false =>
        have HF : Hid (hasL l t = hasL (l.drop (j + 1)) t) := Lib.hid (by rw [HS.out, HD.out]; unfold hasL; rw [List.any_cons, e]; rfl)
        go_wp2_with fail
        go_roundw
        case rel => exact ⟨j + 1, rfl, HF, by omega, trivial⟩
        case measure => simp [intOf]; omega
    · have HF : Hid (false = hasL l t) := Lib.hid (by rw [HS.out, List.drop_eq_nil_of_le (by omega)]; rfl)
      go_wp2_with fail
      go_ret
      exact ⟨ret_bool HF.out, rfl⟩
end Go.Proofs.YtiicdalodfjgaaaGreatFmt
