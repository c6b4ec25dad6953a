/- The reference's Unescape: what it comes to, and its walk. -/
import Derived.Test.YtiicdalodfjgaaaGreatFmtUnA
import Derived.Deep.LoopGhost
import Derived.Laws.Concat
import Derived.Lib.Strings
namespace Go.Proofs.YtiicdalodfjgaaaGreatFmt
open Go.RowKit

/-- the number of the second half of a pair, j being the place of the first half's last figure; or -1. -/
def lowV (s : ByteArray) (n : Int) (j : Nat) : Int := if n < 56320 ∧ j + 2 < s.size ∧ gb s (j + 1) = 92 ∧ gb s (j + 2) = 117 then fourV s (j + 3) else -1
def pairV (n l : Int) : Int := 65536 + (n - 55296) * 1024 + l - 56320
/-- what the reference comes to from a place on. -/
def uS (s : ByteArray) : Nat → Nat → List UInt8 → List UInt8 × Int
  | 0, _, _ => ([], 0)
  | f + 1, i, out =>
    if i < s.size then
      if gb s i ≠ 92 then uS s f (i + 1) (out ++ [UInt8.ofNat (gb s i)])
      else if s.size ≤ i + 1 then ([], 2)
      else if (plainE (gb s (i + 1))).isSome then uS s f (i + 2) (out ++ bl (lookS (gb s (i + 1))))
      else if gb s (i + 1) ≠ 117 then ([], 2)
      else if fourV s (i + 2) < 0 then ([], 2)
      else if 55296 ≤ fourV s (i + 2) ∧ fourV s (i + 2) < 57344 then
        if lowV s (fourV s (i + 2)) (i + 5) < 56320 ∨ 57344 ≤ lowV s (fourV s (i + 2)) (i + 5) then ([], 0)
        else uS s f (i + 12) (out ++ Lib.encodeRune (pairV (fourV s (i + 2)) (lowV s (fourV s (i + 2)) (i + 5))))
      else uS s f (i + 6) (out ++ Lib.encodeRune (fourV s (i + 2)))
    else (out, 1)
theorem lowV_no (s : ByteArray) (n : Int) (k : Nat) (h : ¬ (n < 56320 ∧ k + 7 < s.size ∧ gb s (k + 6) = 92 ∧ gb s (k + 7) = 117)) : lowV s n (k + 5) = -1 := by
  unfold lowV
  rw [if_neg h]
theorem lowV_yes (s : ByteArray) (n : Int) (k : Nat) (h : n < 56320 ∧ k + 7 < s.size ∧ gb s (k + 6) = 92 ∧ gb s (k + 7) = 117) : lowV s n (k + 5) = fourV s (k + 8) := by
  unfold lowV
  rw [if_pos h]
theorem uS_step (s : ByteArray) (f i : Nat) (out : List UInt8) (h : i < s.size) : uS s (f + 1) i out =
      if gb s i ≠ 92 then uS s f (i + 1) (out ++ [UInt8.ofNat (gb s i)])
      else if s.size ≤ i + 1 then ([], 2)
      else if (plainE (gb s (i + 1))).isSome then uS s f (i + 2) (out ++ bl (lookS (gb s (i + 1))))
      else if gb s (i + 1) ≠ 117 then ([], 2)
      else if fourV s (i + 2) < 0 then ([], 2)
      else if 55296 ≤ fourV s (i + 2) ∧ fourV s (i + 2) < 57344 then
        if lowV s (fourV s (i + 2)) (i + 5) < 56320 ∨ 57344 ≤ lowV s (fourV s (i + 2)) (i + 5) then ([], 0)
        else uS s f (i + 12) (out ++ Lib.encodeRune (pairV (fourV s (i + 2)) (lowV s (fourV s (i + 2)) (i + 5))))
      else uS s f (i + 6) (out ++ Lib.encodeRune (fourV s (i + 2))) := by
  rw [uS, if_pos h]
def unesc (s : ByteArray) : List UInt8 × Int := if utfB s = true then uS s (s.size + 1) 0 [] else ([], 0)

theorem str_app (a b : List UInt8) : (⟨a.toArray⟩ : ByteArray) ++ (⟨b.toArray⟩ : ByteArray) = ⟨(a ++ b).toArray⟩ := by
  apply ByteArray.ext
  rw [ByteArray.data_append]
  simp
theorem str_ba (a : List UInt8) (b : ByteArray) : (⟨a.toArray⟩ : ByteArray) ++ b = ⟨(a ++ bl b).toArray⟩ := by
  rw [← str_app]
theorem str_byte (s : ByteArray) (k : Nat) (out : List UInt8) (h : k < s.size) : Value.string ((⟨out.toArray⟩ : ByteArray) ++ s.extract k (k + 1)) = .string ⟨(out ++ [UInt8.ofNat (gb s k)]).toArray⟩ := by
  rw [str_ba]
  have e : bl (s.extract k (k + 1)) = [UInt8.ofNat (gb s k)] := by
    unfold bl
    rw [Lib.extract_data]
    have := drop_bl s k h
    unfold bl at this
    rw [this]
    simp
  rw [e]
theorem lookS_size (c : Nat) : (lookS c).size ≤ 1 := by
  unfold lookS
  split
  · exact Nat.le_refl 1
  · exact Nat.zero_le 1
theorem fourV_fits (s : ByteArray) (i : Nat) (h : 0 ≤ fourV s i) : i + 4 ≤ s.size := by
  unfold fourV at h
  split at h
  · assumption
  · omega
theorem str_enc (out : List UInt8) (n : Int) : (⟨out.toArray⟩ : ByteArray) ++ Utf8.encode n = ⟨(out ++ Lib.encodeRune n).toArray⟩ := by
  rw [str_ba, ← encode_eq]
theorem enc_size (n : Int) : (Lib.encodeRune n).length ≤ 4 := by
  have := encode_size_le n
  rw [← encode_eq]
  exact this
def SpPost (s : ByteArray) (w : World) (e : Ending) (w' : World) : Prop := e = .returned (.tuple #[.string ⟨(unesc s).1.toArray⟩, .int .i64 (unesc s).2]) ∧ Below w.heap.size w w'

theorem lay0 (w : World) : (Instr.mapUpdate 108 (.map (some w.heap.size)) (.int .u8 34) (.string ⟨#[34]⟩)).run Tryz.prog (w.alloc (.map #[] 0)) = .ok () (w.alloc (.map (tab 1) 1)) := lay_plain w 0 34 34 rfl (by omega)
theorem lay1 (w : World) : (Instr.mapUpdate 108 (.map (some w.heap.size)) (.int .u8 39) (.string ⟨#[39]⟩)).run Tryz.prog (w.alloc (.map (tab 1) 1)) = .ok () (w.alloc (.map (tab 2) 2)) := lay_plain w 1 39 39 rfl (by omega)
theorem lay2 (w : World) : (Instr.mapUpdate 108 (.map (some w.heap.size)) (.int .u8 92) (.string ⟨#[92]⟩)).run Tryz.prog (w.alloc (.map (tab 2) 2)) = .ok () (w.alloc (.map (tab 3) 3)) := lay_plain w 2 92 92 rfl (by omega)
theorem lay3 (w : World) : (Instr.mapUpdate 108 (.map (some w.heap.size)) (.int .u8 47) (.string ⟨#[47]⟩)).run Tryz.prog (w.alloc (.map (tab 3) 3)) = .ok () (w.alloc (.map (tab 4) 4)) := lay_plain w 3 47 47 rfl (by omega)
theorem lay4 (w : World) : (Instr.mapUpdate 108 (.map (some w.heap.size)) (.int .u8 98) (.string ⟨#[8]⟩)).run Tryz.prog (w.alloc (.map (tab 4) 4)) = .ok () (w.alloc (.map (tab 5) 5)) := lay_plain w 4 98 8 rfl (by omega)
theorem lay5 (w : World) : (Instr.mapUpdate 108 (.map (some w.heap.size)) (.int .u8 102) (.string ⟨#[12]⟩)).run Tryz.prog (w.alloc (.map (tab 5) 5)) = .ok () (w.alloc (.map (tab 6) 6)) := lay_plain w 5 102 12 rfl (by omega)
theorem lay6 (w : World) : (Instr.mapUpdate 108 (.map (some w.heap.size)) (.int .u8 110) (.string ⟨#[10]⟩)).run Tryz.prog (w.alloc (.map (tab 6) 6)) = .ok () (w.alloc (.map (tab 7) 7)) := lay_plain w 6 110 10 rfl (by omega)
theorem lay7 (w : World) : (Instr.mapUpdate 108 (.map (some w.heap.size)) (.int .u8 114) (.string ⟨#[13]⟩)).run Tryz.prog (w.alloc (.map (tab 7) 7)) = .ok () (w.alloc (.map (tab 8) 8)) := lay_plain w 7 114 13 rfl (by omega)
theorem lay8 (w : World) : (Instr.mapUpdate 108 (.map (some w.heap.size)) (.int .u8 116) (.string ⟨#[9]⟩)).run Tryz.prog (w.alloc (.map (tab 8) 8)) = .ok () (w.alloc (.map (tab 9) 9)) := lay_plain w 8 116 9 rfl (by omega)

set_option maxHeartbeats 2000000 in
set_option maxRecDepth 1000000 in
theorem spec_any (s : ByteArray) (w : World) (hs : s.size ≤ 20000) :
    Calls Tryz.prog 44 #[.string s] w fun e w' => SpPost s w e w' := by
  have hmm := @run_makeMap Tryz.prog
  have l0 := lay0 w; have l1 := lay1 w; have l2 := lay2 w; have l3 := lay3 w; have l4 := lay4 w; have l5 := lay5 w; have l6 := lay6 w; have l7 := lay7 w; have l8 := lay8 w
  have hbm : Below w.heap.size w (w.alloc (.map (tab 9) 9)) := (Below.refl _ _).alloc (Nat.le_refl _) _
  cases hu : utfB s with
  | false =>
    have HU : Hid (unesc s = ([], 0)) := Lib.hid (by unfold unesc; rw [if_neg (by rw [hu]; decide)])
    go_enter Tryz.func44, Tryz.ntmps44
    go_wp2_with (go_at_call 6; refine (utf_any _ hs _).mono ?_; rintro e w' ⟨rfl, hb⟩)
    go_ret2
    refine ⟨?_, hbm.trans (hb.mono (by simp))⟩
    rw [HU.out]
    rfl
  | true =>
    have HU : Hid (unesc s = uS s (s.size + 1) 0 []) := Lib.hid (by unfold unesc; rw [if_pos hu])
    go_enter Tryz.func44, Tryz.ntmps44
    go_wp2_with (go_at_call 6; refine (utf_any _ hs _).mono ?_; rintro e w' ⟨rfl, hb⟩)
    clear l0 l1 l2 l3 l4 l5 l6 l7 l8 hmm
    go_loopw [5, 6] (fun o i wr => ∃ (f k : Nat) (out : List UInt8), i = .int .i64 k ∧ o = .string ⟨out.toArray⟩ ∧ Hid (uS s f k out = unesc s) ∧ s.size < k + f ∧ k ≤ s.size ∧ out.length ≤ 4 * k ∧ wr.heap[w.heap.size]? = some (.map (tab 9) 9) ∧ Below w.heap.size w wr) (fun _ i _ => s.size - (intOf i).toNat)
    case atStart =>
      refine ⟨s.size + 1, 0, [], rfl, rfl, Lib.hid HU.out.symm, by omega, by omega, by simp, ?_, hbm.trans (hb.mono (by simp))⟩
      rw [hb.block _ (by simp)]
      exact (MapKept.heap_alloc w _).1
    case round =>
      obtain ⟨f, k, out, rfl, rfl, HF, hf, hk, ho, hm, hbw⟩ := hrel
      by_cases hlt : k < s.size
      · obtain ⟨f, rfl⟩ : ∃ m, f = m + 1 := ⟨f - 1, by omega⟩
        have hg0 : ∀ h : k < s.size, (s[k]'h).toNat = gb s k := fun h => (gb_in s k h).symm
        have HS := Lib.hid (uS_step s f k out hlt)
        by_cases c1 : gb s k = 92
        · by_cases c2 : k + 1 < s.size
          · have hg1 : ∀ h : k + 1 < s.size, (s[k + 1]'h).toNat = gb s (k + 1) := fun h => (gb_in s (k + 1) h).symm
            have hlook := look_plain wr w.heap.size hm (gb s (k + 1))
            have c1b : ((gb s k : Int) != 92) = false := by simp; omega
            have HC1 := Lib.hid c1
            clear c1
            cases hp : (plainE (gb s (k + 1))).isSome with
            | true =>
              have HP := Lib.hid hp
              rw [hp] at hlook
              have hls := lookS_size (gb s (k + 1))
              clear hp
              go_wp2_with fail
              go_roundw
              case rel =>
                refine ⟨f, k + 2, out ++ bl (lookS (gb s (k + 1))), rfl, by rw [str_ba], Lib.hid ?_, by omega, by omega, ?_, hm, hbw⟩
                · rw [← HF.out, HS.out, if_neg (by have := HC1.out; omega), if_neg (by omega), if_pos HP.out]
                · rw [List.length_append, bl_len]; omega
              case measure => simp [intOf]; omega
            | false =>
              have HP := Lib.hid hp
              rw [hp] at hlook
              clear hp
              by_cases c3 : gb s (k + 1) = 117
              · have c3b : ((gb s (k + 1) : Int) != 117) = false := by simp; omega
                have HC3 := Lib.hid c3
                clear c3
                obtain ⟨n, hn⟩ : ∃ n, fourV s (k + 2) = n := ⟨_, rfl⟩
                have hfr := fourV_range s (k + 2)
                rw [hn] at hfr
                have h4 := fun w => four_any s (k + 2) hs (by omega) w
                rw [hn] at h4
                have HN := Lib.hid hn
                clear hn
                have H4 := h4
                clear h4
                by_cases c4 : n < 0
                · go_wp2_with (go_at_call 68; refine (H4 _).mono ?_; rintro e w' ⟨rfl, rfl⟩)
                  go_ret2
                  refine ⟨?_, hbw⟩
                  rw [← HF.out, HS.out, if_neg (by have := HC1.out; omega), if_neg (by omega), if_neg (by rw [HP.out]; decide), if_neg (by have := HC3.out; omega), HN.out, if_pos (by omega)]
                  rfl
                · by_cases c5 : 55296 ≤ n ∧ n < 57344
                  · obtain ⟨c5a, c5b⟩ := c5
                    have hg6 : ∀ h : k + 1 + 4 + 1 < s.size, (s[k + 1 + 4 + 1]'h).toNat = gb s (k + 6) := fun h => (gb_in s (k + 6) h).symm
                    have hg7 : ∀ h : k + 1 + 4 + 2 < s.size, (s[k + 1 + 4 + 2]'h).toNat = gb s (k + 7) := fun h => (gb_in s (k + 7) h).symm
                    by_cases d1 : n < 56320
                    · by_cases d2 : k + 7 < s.size
                      · by_cases d3 : gb s (k + 6) = 92
                        · have d3b : ((gb s (k + 6) : Int) == 92) = true := by simp; omega
                          by_cases d4 : gb s (k + 7) = 117
                          · have d4b : ((gb s (k + 7) : Int) == 117) = true := by simp; omega
                            have HL0 := Lib.hid (lowV_yes s n k ⟨d1, d2, d3, d4⟩)
                            clear d3 d4
                            obtain ⟨m, hmm⟩ : ∃ m, fourV s (k + 8) = m := ⟨_, rfl⟩
                            have hmr := fourV_range s (k + 8)
                            rw [hmm] at hmr
                            have h8 := fun w => four_any s (k + 8) hs (by omega) w
                            rw [hmm] at h8
                            have hfit8 : 0 ≤ m → k + 12 ≤ s.size := fun h0 => by
                              have := fourV_fits s (k + 8) (by rw [hmm]; exact h0)
                              omega
                            have HFT := Lib.hid hfit8
                            have hes := encode_size_le (65536 + (n - 55296) * 1024 + m - 56320)
                            clear hfit8
                            have HL : Hid (lowV s n (k + 5) = m) := Lib.hid (by rw [HL0.out, hmm])
                            have H8 := h8
                            clear hmm h8 HL0
                            by_cases e1 : m < 56320
                            · go_wp2_with fail
                              refine (H4 _).mono ?_
                              rintro e w' ⟨rfl, rfl⟩
                              go_wp2_with fail
                              refine (H8 _).mono ?_
                              rintro e w' ⟨rfl, rfl⟩
                              go_wp2_with fail
                              go_ret2
                              refine ⟨?_, hbw⟩
                              rw [← HF.out, HS.out, if_neg (by have := HC1.out; omega), if_neg (by omega), if_neg (by rw [HP.out]; decide), if_neg (by have := HC3.out; omega), HN.out, if_neg (by omega), if_pos ⟨c5a, c5b⟩, HL.out, if_pos (by omega)]
                              rfl
                            by_cases e2 : 57344 ≤ m
                            · go_wp2_with fail
                              refine (H4 _).mono ?_
                              rintro e w' ⟨rfl, rfl⟩
                              go_wp2_with fail
                              refine (H8 _).mono ?_
                              rintro e w' ⟨rfl, rfl⟩
                              go_wp2_with fail
                              go_ret2
                              refine ⟨?_, hbw⟩
                              rw [← HF.out, HS.out, if_neg (by have := HC1.out; omega), if_neg (by omega), if_neg (by rw [HP.out]; decide), if_neg (by have := HC3.out; omega), HN.out, if_neg (by omega), if_pos ⟨c5a, c5b⟩, HL.out, if_pos (by omega)]
                              rfl
                            · go_wp2_with fail
                              refine (H4 _).mono ?_
                              rintro e w' ⟨rfl, rfl⟩
                              go_wp2_with fail
                              refine (H8 _).mono ?_
                              rintro e w' ⟨rfl, rfl⟩
                              go_wp2_with fail
                              go_roundw
                              case rel =>
                                have hft := HFT.out (by omega)
                                refine ⟨f, k + 12, out ++ Lib.encodeRune (65536 + (n - 55296) * 1024 + m - 56320), rfl, by rw [str_enc], Lib.hid ?_, by omega, by omega, ?_, hm, hbw⟩
                                · rw [← HF.out, HS.out, if_neg (by have := HC1.out; omega), if_neg (by omega), if_neg (by rw [HP.out]; decide), if_neg (by have := HC3.out; omega), HN.out, if_neg (by omega), if_pos ⟨c5a, c5b⟩, HL.out, if_neg (by omega)]
                                  rfl
                                · have := enc_size (65536 + (n - 55296) * 1024 + m - 56320)
                                  rw [List.length_append]; omega
                              case measure =>
                                have hft := HFT.out (by omega)
                                simp [intOf]; omega
                          · have d4b : ((gb s (k + 7) : Int) == 117) = false := by simp; omega
                            have HL : Hid (lowV s n (k + 5) = -1) := Lib.hid (lowV_no s n k (fun h => d4 h.2.2.2))
                            clear d3 d4
                            go_wp2_with (go_at_call 68; refine (H4 _).mono ?_; rintro e w' ⟨rfl, rfl⟩)
                            go_ret2
                            refine ⟨?_, hbw⟩
                            rw [← HF.out, HS.out, if_neg (by have := HC1.out; omega), if_neg (by omega), if_neg (by rw [HP.out]; decide), if_neg (by have := HC3.out; omega), HN.out, if_neg (by omega), if_pos ⟨c5a, c5b⟩, HL.out, if_pos (by omega)]
                            rfl
                        · have d3b : ((gb s (k + 6) : Int) == 92) = false := by simp; omega
                          have HL : Hid (lowV s n (k + 5) = -1) := Lib.hid (lowV_no s n k (fun h => d3 h.2.2.1))
                          clear d3
                          go_wp2_with (go_at_call 68; refine (H4 _).mono ?_; rintro e w' ⟨rfl, rfl⟩)
                          go_ret2
                          refine ⟨?_, hbw⟩
                          rw [← HF.out, HS.out, if_neg (by have := HC1.out; omega), if_neg (by omega), if_neg (by rw [HP.out]; decide), if_neg (by have := HC3.out; omega), HN.out, if_neg (by omega), if_pos ⟨c5a, c5b⟩, HL.out, if_pos (by omega)]
                          rfl
                      · have d2b : s.size ≤ k + 7 := by omega
                        have HL : Hid (lowV s n (k + 5) = -1) := Lib.hid (lowV_no s n k (fun h => d2 h.2.1))
                        clear d2
                        go_wp2_with (go_at_call 68; refine (H4 _).mono ?_; rintro e w' ⟨rfl, rfl⟩)
                        go_ret2
                        refine ⟨?_, hbw⟩
                        rw [← HF.out, HS.out, if_neg (by have := HC1.out; omega), if_neg (by omega), if_neg (by rw [HP.out]; decide), if_neg (by have := HC3.out; omega), HN.out, if_neg (by omega), if_pos ⟨c5a, c5b⟩, HL.out, if_pos (by omega)]
                        rfl
                    · have d1b : 56320 ≤ n := by omega
                      have HL : Hid (lowV s n (k + 5) = -1) := Lib.hid (lowV_no s n k (fun h => d1 h.1))
                      clear d1
                      go_wp2_with (go_at_call 68; refine (H4 _).mono ?_; rintro e w' ⟨rfl, rfl⟩)
                      go_ret2
                      refine ⟨?_, hbw⟩
                      rw [← HF.out, HS.out, if_neg (by have := HC1.out; omega), if_neg (by omega), if_neg (by rw [HP.out]; decide), if_neg (by have := HC3.out; omega), HN.out, if_neg (by omega), if_pos ⟨c5a, c5b⟩, HL.out, if_pos (by omega)]
                      rfl
                  · have hfit := fourV_fits s (k + 2) (by rw [HN.out]; omega)
                    have hes := encode_size_le n
                    by_cases c5a : 55296 ≤ n
                    · have c5b : 57344 ≤ n := by omega
                      go_wp2_with (go_at_call 68; refine (H4 _).mono ?_; rintro e w' ⟨rfl, rfl⟩)
                      go_roundw
                      case rel =>
                        refine ⟨f, k + 6, out ++ Lib.encodeRune n, rfl, by rw [str_enc], Lib.hid ?_, by omega, by omega, ?_, hm, hbw⟩
                        · rw [← HF.out, HS.out, if_neg (by have := HC1.out; omega), if_neg (by omega), if_neg (by rw [HP.out]; decide), if_neg (by have := HC3.out; omega), HN.out, if_neg (by omega), if_neg (by omega)]
                        · have := enc_size n
                          rw [List.length_append]; omega
                      case measure => simp [intOf]; omega
                    · go_wp2_with (go_at_call 68; refine (H4 _).mono ?_; rintro e w' ⟨rfl, rfl⟩)
                      go_roundw
                      case rel =>
                        refine ⟨f, k + 6, out ++ Lib.encodeRune n, rfl, by rw [str_enc], Lib.hid ?_, by omega, by omega, ?_, hm, hbw⟩
                        · rw [← HF.out, HS.out, if_neg (by have := HC1.out; omega), if_neg (by omega), if_neg (by rw [HP.out]; decide), if_neg (by have := HC3.out; omega), HN.out, if_neg (by omega), if_neg (by omega)]
                        · have := enc_size n
                          rw [List.length_append]; omega
                      case measure => simp [intOf]; omega
              · have c3b : ((gb s (k + 1) : Int) != 117) = true := by simp; omega
                have HC3 := Lib.hid c3
                clear c3
                go_wp2_with fail
                go_ret2
                refine ⟨?_, hbw⟩
                rw [← HF.out, HS.out, if_neg (by have := HC1.out; omega), if_neg (by omega), if_neg (by rw [HP.out]; decide), if_pos HC3.out]
                rfl
          · have c1b : ((gb s k : Int) != 92) = false := by simp; omega
            have HC1 := Lib.hid c1
            clear c1
            go_wp2_with fail
            go_ret2
            refine ⟨?_, hbw⟩
            rw [← HF.out, HS.out, if_neg (by have := HC1.out; omega), if_pos (by omega)]
            rfl
        · have c1b : ((gb s k : Int) != 92) = true := by simp; omega
          have HC1 := Lib.hid c1
          clear c1
          go_wp2_with fail
          go_roundw
          case rel =>
            refine ⟨f, k + 1, out ++ [UInt8.ofNat (gb s k)], rfl, ?_, Lib.hid ?_, by omega, by omega, by simp; omega, hm, hbw⟩
            · rw [str_byte s k out hlt]
            · rw [← HF.out, HS.out, if_pos HC1.out]
          case measure => simp [intOf]; omega
      · have HE : Hid (uS s f k out = (out, 1)) := Lib.hid (by
          cases f with
          | zero => omega
          | succ f => unfold uS; rw [if_neg hlt])
        go_wp2
        go_ret2
        refine ⟨?_, hbw⟩
        rw [← HF.out, HE.out]
        rfl
end Go.Proofs.YtiicdalodfjgaaaGreatFmt
