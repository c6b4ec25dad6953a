/- The parser's lexer: a comment's lines: white space is stripped, the text is split. -/
import Derived.Test.YtiicdalodfjgaaaGreatFmtLxH
import Derived.Deep.LoopGhost
import Derived.Deep.DeepCutAuto
import Derived.Deep.CutBlock
namespace Go.Proofs.YtiicdalodfjgaaaGreatFmt
open Go.RowKit Go.Extern.Stop Go.Stop Go.Extern

/-- the runes of a text in memory. -/
theorem runes_mem (s : ByteArray) (hs : s.size ≤ 20000) (w : World) : ∃ (c : Nat) (w1 : World), (convert 9 38 (.string s)).run Tryz.prog w = .ok (.slice (some ⟨w.heap.size, 0, none⟩) (runesN s s.size 0).length c) w1 ∧ (runesN s s.size 0).length ≤ c ∧ c ≤ maxLen ∧ (∀ j, j < (runesN s s.size 0).length → w1.cell? ⟨w.heap.size, j, none⟩ = some (.int .i32 ((runesN s s.size 0).getD j 0))) ∧ Below w.heap.size w w1 := by
  have hl := runesN_len s s.size 0
  have hrn := runesN_eq s s.size 0 #[]
  have h46 : (Conv.runesFrom s s.size 0 #[]).size ≤ 70368744177664 := by rw [hrn]; simp; omega
  have hc1 := run_runes_of_string (P := Tryz.prog) w 9 38 21 s Tryz.u9 Tryz.u38 Tryz.u21 h46
  obtain ⟨c, hc⟩ : ∃ c, grownCap w (Conv.runesFrom s s.size 0 #[]).size 0 21 = c := ⟨_, rfl⟩
  rw [hc] at hc1
  rw [hrn] at hc1
  have hsz : (#[] ++ ((runesN s s.size 0).map (Value.int .i32)).toArray).size = (runesN s s.size 0).length := by simp
  rw [hsz] at hc1
  have hle : (runesN s s.size 0).length ≤ c := by
    rw [← hc]
    have := grownCap_ge w (Conv.runesFrom s s.size 0 #[]).size 0 21
    rw [hrn, hsz] at this
    rw [hrn, hsz]
    exact this
  have hmx : c ≤ maxLen := by
    rw [← hc]
    exact grownCap_le_maxLen w _ 0 21 (by unfold maxLen; omega)
  refine ⟨c, _, hc1, hle, hmx, ?_, (below_drewN (Below.refl _ _) 1).alloc (Nat.le_refl _) _⟩
  intro j hj
  have hcl : ∀ (x : World) (cs : Array Value), (x.alloc (.cells cs 21)).cell? ⟨x.heap.size, j, none⟩ = cs[j]? := fun x cs => by
    rw [blk_cell (heap_alloc_new x (.cells cs 21))]
  refine (hcl w.drew _).trans ?_
  rw [Array.getElem?_append_left (by simpa using hj)]
  simp [hj]
/-- it begins with a slash. -/
def Sl (x : ByteArray) : Prop := 0 < x.size ∧ gb x 0 = 47
theorem runes_pos (s : ByteArray) (h : 0 < s.size) : 0 < (runesN s s.size 0).length := by
  obtain ⟨m, hm⟩ : ∃ m, s.size = m + 1 := ⟨s.size - 1, by omega⟩
  rw [hm, runesN, if_pos h]
  simp
theorem runes_sl (s : ByteArray) (h : Sl s) : (runesN s s.size 0).getD 0 0 = 47 := by
  obtain ⟨h0, h1⟩ := h
  obtain ⟨m, hm⟩ : ∃ m, s.size = m + 1 := ⟨s.size - 1, by omega⟩
  have hd := (dec_low s 0 h0 (by omega)).1
  unfold dr at hd
  rw [hm, runesN, if_pos h0]
  simp only [List.getD_cons_zero]
  omega
theorem bytes_sl (zs : List Int) (hz : 0 < zs.length) (h : zs.getD 0 0 = 47) : Sl (runesBytes zs) := by
  cases zs with
  | nil => simp at hz
  | cons z zs =>
    have hz47 : z = 47 := by simpa using h
    subst hz47
    have hd : (runesBytes ((47 : Int) :: zs)).data.toList = Lib.encodeRune 47 ++ zs.flatMap Lib.encodeRune := by
      unfold runesBytes
      rw [foldl_data]
      simp
    have h47 : Lib.encodeRune 47 = [47] := by decide
    rw [h47] at hd
    have hsz : 0 < (runesBytes ((47 : Int) :: zs)).size := by
      have := congrArg List.length hd
      simp at this
      have e : (runesBytes ((47 : Int) :: zs)).data.size = (runesBytes ((47 : Int) :: zs)).size := rfl
      omega
    refine ⟨hsz, ?_⟩
    have hb := gb_bl _ 0 hsz
    unfold bl at hb
    rw [hd] at hb
    have h3 := congrArg UInt8.toNat (Option.some.inj hb)
    simp at h3
    have := gb_lt (runesBytes ((47 : Int) :: zs)) 0
    omega
theorem hw47 : hwR 47 = false := by decide
def StPost (s : ByteArray) (w : World) (e : Ending) (w' : World) : Prop := (∃ t : ByteArray, e = .returned (.string t) ∧ (Sl s → Sl t)) ∧ Below w.heap.size w w'
set_option maxRecDepth 100000 in
set_option maxHeartbeats 6400000 in
theorem strip_any (s : ByteArray) (m : Int) (w : World) (hs : s.size ≤ 20000) : Calls Tryz.prog 80 #[.string s, .int .i64 m] w fun e w' => StPost s w e w' := by
  obtain ⟨c, w1, hc1, hc2, hc3, hcell, hb1⟩ := runes_mem s hs w
  have hpos := runes_pos s
  have hsl := runes_sl s
  obtain ⟨zs, hzs⟩ : ∃ zs, runesN s s.size 0 = zs := ⟨_, rfl⟩
  rw [hzs] at hc1 hc2 hcell hpos hsl
  obtain ⟨n, hn⟩ : ∃ n, zs.length = n := ⟨_, rfl⟩
  rw [hn] at hc1 hc2 hcell hpos
  obtain ⟨g, hg⟩ : ∃ g, w.heap.size = g := ⟨_, rfl⟩
  rw [hg] at hc1 hcell
  have HN := Lib.hid hn
  have HG := Lib.hid hg
  have HSL := Lib.hid hsl
  unfold maxLen at hc3
  have HC := Lib.hid hcell
  clear hzs hn hg hcell hsl
  by_cases h0 : 0 < s.size
  case neg =>
    have h00 : s.size = 0 := by omega
    have t0 : ((s.size : Int) == 0) = true := by rw [h00]; rfl
    clear h00 hpos
    go_enter Tryz.func80, Tryz.ntmps80
    go_wp2_with fail
    go_ret
    exact ⟨⟨_, rfl, fun h => absurd h.1 h0⟩, hb1⟩
  have hp := hpos h0
  have t0 : ((s.size : Int) == 0) = false := beq_eq_false_iff_ne.2 (by omega)
  clear hpos
  go_enter Tryz.func80, Tryz.ntmps80
  go_upto_block 0 with (fail)
  clear hc1
  go_cut [6] (fun i wx => ∃ k : Nat, i = .int .i64 k ∧ k ≤ n ∧ Hid (zs.getD 0 0 = 47 → k = 0) ∧ w1 = wx)
  case first =>
    go_wp2_with fail
    go_loop [6] (fun i => ∃ k : Nat, i = .int .i64 k ∧ k ≤ n ∧ Hid (zs.getD 0 0 = 47 → k = 0)) (fun i => n - (intOf i).toNat)
    case atStart => exact ⟨0, rfl, Nat.zero_le _, Lib.hid (fun _ => rfl)⟩
    case round =>
      obtain ⟨k, rfl, hk, hf⟩ := hrel
      by_cases hlt : k < n
      · have hcl := HC.out k hlt
        obtain ⟨r, hr⟩ : ∃ r, zs.getD k 0 = r := ⟨_, rfl⟩
        rw [hr] at hcl
        have q1 : (k : Int) < (n : Int) := by omega
        have HR := Lib.hid hr
        clear hr
        cases hh : hwR r with
        | true =>
          by_cases hm : (k : Int) < m
          · go_wp2_with (go_at_call 70; refine (hw_any _ _).mono ?_; rintro e w' ⟨rfl, rfl⟩)
            go_round
            case rel =>
              refine ⟨k + 1, by go_num, by omega, Lib.hid (fun h => ?_)⟩
              have h1 := hf.out h
              subst h1
              have h2 := HR.out
              rw [h] at h2
              rw [← h2, hw47] at hh
              cases hh
            case measure => (simp [intOf]; try omega)
          · have q2 : decide ((k : Int) < m) = false := by simp; omega
            go_wp2_with (go_at_call 70; refine (hw_any _ _).mono ?_; rintro e w' ⟨rfl, rfl⟩)
            go_meet
            exact ⟨k, rfl, hk, hf, rfl⟩
        | false =>
          go_wp2_with (go_at_call 70; refine (hw_any _ _).mono ?_; rintro e w' ⟨rfl, rfl⟩)
          go_meet
          exact ⟨k, rfl, hk, hf, rfl⟩
      · have q1 : decide ((k : Int) < (n : Int)) = false := by simp; omega
        go_wp2_with fail
        go_meet
        exact ⟨k, rfl, hk, hf, rfl⟩
  case rest =>
    obtain ⟨k, rfl, hk, hf, rfl⟩ := hcut
    go_upto_block 2 with (fail)
    go_cut [7] (fun i wx => ∃ j : Nat, i = .int .i64 j ∧ k ≤ j ∧ j ≤ n ∧ Hid (zs.getD 0 0 = 47 → 1 ≤ j) ∧ w1 = wx)
    case first =>
      go_wp2_with fail
      go_loop [7] (fun i => ∃ j : Nat, i = .int .i64 j ∧ k ≤ j ∧ j ≤ n ∧ Hid (zs.getD 0 0 = 47 → 1 ≤ j)) (fun i => (intOf i).toNat)
      case atStart => exact ⟨n, rfl, hk, Nat.le_refl _, Lib.hid (fun _ => hp)⟩
      case round =>
        obtain ⟨j, rfl, hkj, hj, hfj⟩ := hrel
        by_cases hlt : k < j
        · obtain ⟨i, rfl⟩ : ∃ i, j = i + 1 := ⟨j - 1, by omega⟩
          have hcl := HC.out i (by omega)
          obtain ⟨r, hr⟩ : ∃ r, zs.getD i 0 = r := ⟨_, rfl⟩
          rw [hr] at hcl
          have q1 : (k : Int) < ((i + 1 : Nat) : Int) := by omega
          have hw1 : IntKind.i64.wrap (((i + 1 : Nat) : Int) - 1) = (i : Int) := by rw [IntWalk.i64_in _ (by omega)]; omega
          have q2 : (i : Int) < (n : Int) := by omega
          have q3 : (0 : Int) ≤ (i : Int) := by omega
          have HR := Lib.hid hr
          clear hr
          cases hh : hwR r with
          | true =>
            go_wp2_with (go_at_call 70; refine (hw_any _ _).mono ?_; rintro e w' ⟨rfl, rfl⟩)
            go_round
            case rel =>
              refine ⟨i, rfl, by omega, by omega, Lib.hid (fun h => ?_)⟩
              by_cases hi : i = 0
              · subst hi
                have h2 := HR.out
                rw [h] at h2
                rw [← h2, hw47] at hh
                cases hh
              · omega
            case measure => (simp [intOf]; try omega)
          | false =>
            go_wp2_with (go_at_call 70; refine (hw_any _ _).mono ?_; rintro e w' ⟨rfl, rfl⟩)
            go_meet
            exact ⟨i + 1, rfl, hkj, hj, hfj, rfl⟩
        · have q1 : decide ((k : Int) < (j : Int)) = false := by simp; omega
          go_wp2_with fail
          go_meet
          exact ⟨j, rfl, hkj, hj, hfj, rfl⟩
    case rest =>
      obtain ⟨j, rfl, hkj, hj, hfj, rfl⟩ := hcut
      have q1 : (0 : Int) ≤ (k : Int) := by omega
      have q2 : (k : Int) ≤ (j : Int) := by omega
      have q3 : (j : Int) ≤ (c : Int) := by omega
      have q4 : (j : Int) ≤ (n : Int) := by omega
      by_cases hck : c = k
      · obtain rfl : k = j := by omega
        obtain rfl : n = k := by omega
        obtain rfl : n = c := by omega
        have hcv := run_convert_runes (P := Tryz.prog) w1 38 9 21 ⟨g, 0, none⟩ 0 0 [] (Nat.le_refl _) Tryz.u38 Tryz.u21 Tryz.u9 (fun j hj => absurd hj (Nat.not_lt_zero _))
        go_wp2_with fail
        go_ret
        exact ⟨⟨_, rfl, fun h => by have := hf.out (HSL.out h); omega⟩, hb1⟩
      · have hcv := run_convert_runes (P := Tryz.prog) w1 38 9 21 ⟨g, k, none⟩ (j - k) (c - k) (zs.drop k) (by have := HN.out; simp; omega) Tryz.u38 Tryz.u21 Tryz.u9 (fun i hi => by
          have hi' : k + i < n := by have := HN.out; simp at hi; omega
          have := HC.out (k + i) hi'
          rw [show (⟨g, k, none⟩ : Addr).add i = ⟨g, k + i, none⟩ by unfold Addr.add; split <;> simp_all, this]
          simp [List.getD])
        go_wp2_with fail
        go_ret
        refine ⟨⟨_, rfl, fun h => ?_⟩, hb1⟩
        have h1 := HSL.out h
        have h2 := hf.out h1
        have h3 := hfj.out h1
        subst h2
        refine bytes_sl _ (by have := HN.out; simp; omega) ?_
        cases zs with
        | nil => have := HN.out; simp at this; omega
        | cons z zs =>
          obtain ⟨m', hm'⟩ : ∃ m', j - 0 = m' + 1 := ⟨j - 1, by omega⟩
          rw [hm']
          simpa using h1

/-- what has been split off so far of a text that begins with a slash. -/
structure LsI (n pos : Nat) (acc : List UInt8) (xs : List Value) : Prop where
  head : n = 0 → 0 < pos → ∃ rest, acc = 47 :: rest
  fst : 0 < n → ∃ t : ByteArray, xs[0]? = some (.string t) ∧ Sl t
  all : ∀ i, i < n → ∃ t : ByteArray, xs[i]? = some (.string t)
  len : xs.length = n
theorem sl_cons (rest : List UInt8) : Sl ⟨((47 : UInt8) :: rest).toArray⟩ := by
  refine ⟨by show 0 < ((47 : UInt8) :: rest).toArray.size; simp, ?_⟩
  unfold gb
  rw [dif_pos (show 0 < (⟨((47 : UInt8) :: rest).toArray⟩ : ByteArray).size by show 0 < ((47 : UInt8) :: rest).toArray.size; simp)]
  rfl
theorem LsI.cut {n pos pos' : Nat} {acc : List UInt8} {xs : List Value} {t : ByteArray} (h : LsI n pos acc xs) (hp : 0 < n ∨ 0 < pos) (ht : Sl ⟨acc.toArray⟩ → Sl t) : LsI (n + 1) pos' [] (xs ++ [.string t]) := by
  refine ⟨fun h0 => by omega, fun _ => ?_, fun i hi => ?_, by simp [h.len]⟩
  · by_cases hn : n = 0
    · obtain ⟨rest, hr⟩ := h.head hn (by omega)
      refine ⟨t, ?_, ht (by rw [hr]; exact sl_cons rest)⟩
      have : xs = [] := List.length_eq_zero_iff.1 (by rw [h.len, hn])
      subst this
      rfl
    · obtain ⟨t', h1, h2⟩ := h.fst (by omega)
      exact ⟨t', by rw [List.getElem?_append_left (by rw [h.len]; omega)]; exact h1, h2⟩
  · by_cases hn : i < n
    · obtain ⟨t', h1⟩ := h.all i hn
      exact ⟨t', by rw [List.getElem?_append_left (by rw [h.len]; omega)]; exact h1⟩
    · refine ⟨t, ?_⟩
      rw [List.getElem?_append_right (by rw [h.len]; omega), h.len, show i - n = 0 by omega]
      rfl
theorem enc47 : Lib.encodeRune 47 = [47] := by decide
theorem LsI.more {n pos pos' : Nat} {acc : List UInt8} {xs : List Value} {r : Nat} (h : LsI n pos acc xs) (ha : acc.length ≤ 4 * pos) (hr : pos = 0 → r = 47) : LsI n pos' (acc ++ Lib.encodeRune r) xs := by
  refine ⟨fun h0 _ => ?_, h.fst, h.all, h.len⟩
  by_cases hp : pos = 0
  · have : acc = [] := List.length_eq_zero_iff.1 (by omega)
    rw [this, hr hp]
    exact ⟨[], by rw [List.nil_append]; exact enc47⟩
  · obtain ⟨rest, hx⟩ := h.head h0 (by omega)
    rw [hx]
    exact ⟨rest ++ Lib.encodeRune r, rfl⟩
theorem size_toArray (acc : List UInt8) : (⟨acc.toArray⟩ : ByteArray).size = acc.length := rfl
/-- the lines of a text: a row of texts of its own, the first of which begins with a slash. -/
def LsPost (w : World) (e : Ending) (w' : World) : Prop :=
  (∃ (v : Value) (n : Nat) (xs : List Value), e = .returned v ∧ w'.ownsRow w.heap.size 9 1 v n xs ∧ 0 < n ∧ n ≤ 2001 ∧ (∃ t : ByteArray, xs[0]? = some (.string t) ∧ Sl t) ∧ (∀ i, i < n → ∃ t : ByteArray, xs[i]? = some (.string t))) ∧ Below w.heap.size w w'
def LsPost' (B : Nat) (w : World) (e : Ending) (w' : World) : Prop :=
  (∃ (v : Value) (n : Nat) (xs : List Value), e = .returned v ∧ w'.ownsRow B 9 1 v n xs ∧ 0 < n ∧ n ≤ 2001 ∧ (∃ t : ByteArray, xs[0]? = some (.string t) ∧ Sl t) ∧ (∀ i, i < n → ∃ t : ByteArray, xs[i]? = some (.string t))) ∧ Below B w w'

set_option maxRecDepth 100000 in
set_option maxHeartbeats 6400000 in
theorem split_any (s : ByteArray) (m : Int) (w : World) (hs : s.size ≤ 2000) (hsl : Sl s) : Calls Tryz.prog 62 #[.string s, .int .i64 m] w fun e w' => LsPost w e w' := by
  obtain ⟨i0, hi0, hz0, hz1, hz2⟩ := info_parts info9'
  unfold LsPost
  obtain ⟨B, hB⟩ : ∃ B, w.heap.size = B := ⟨_, rfl⟩
  rw [hB]
  suffices H : Calls Tryz.prog 62 #[.string s, .int .i64 m] w fun e w' => LsPost' B w e w' from H
  go_enter Tryz.func62, Tryz.ntmps62
  go_wp2_with fail
  go_loopw [5] (fun v wr => ∃ (pos n : Nat) (acc : List UInt8) (xs : List Value), Trio s B (B + 1) pos B acc v n xs wr ∧ n ≤ pos ∧ acc.length ≤ 4 * pos ∧ pos ≤ s.size ∧ LsI n pos acc xs ∧ Below B w wr) (fun _ wr => s.size - wr.iterPos (B + 1))
  case atStart =>
    have hf := Lib.fresh_isBuffer 88 5 w
    have hb1 : Below w.heap.size w (w.alloc (.cells #[.slice none 0 0, .int .i64 0, .int .i8 0] 88)) := (Below.refl _ _).alloc (Nat.le_refl _) _
    refine ⟨0, 0, [], [], ⟨?_, ?_, World.ownsRow_nil _ _ _ _⟩, Nat.le_refl _, Nat.zero_le _, Nat.zero_le _, ⟨fun _ h => by omega, fun h => by omega, fun i h => by omega, rfl⟩, ?_⟩
    · have := World.iter_heap (w.alloc (.cells #[.slice none 0 0, .int .i64 0, .int .i8 0] 88)) s 0
      rw [← hB]
      simpa using this
    · rw [← hB]
      exact Buf.old hf ((Below.refl _ _).alloc (Nat.le_refl _) _)
    · rw [← hB]
      exact hb1.alloc (by simp) _
  case round =>
    obtain ⟨pos, n, acc, xs, HT, hn, hacc, hpos, HS, hBw⟩ := hrel
    have hsz := size_toArray acc
    by_cases hlt : pos < s.size
    · have hnx : ∀ ty, (Instr.next (.pointer (some ⟨B + 1, 0, none⟩)) true ty).run Tryz.prog wr = _ := fun ty => Lib.run_next_any_at wr (B + 1) s pos ty HT.it hlt
      have hdw := dec_width s pos hlt
      have hdp := dec_pos s pos hlt
      have hdl := decode_le s pos
      have hr0 : pos = 0 → (Utf8.decode s pos).1 = 47 := fun h => by
        subst h
        have h1 := (dec_low s 0 hlt (by rw [hsl.2]; omega)).1
        unfold dr at h1
        rw [hsl.2] at h1
        exact h1
      have HT1 := HT.next (pos + dw s pos)
      have hB1 : Below B w (wr.iterAt (B + 1) s (pos + dw s pos)) := Lib.below_iterAt hBw (by omega) _ _
      obtain ⟨rr, hrr⟩ : ∃ x, (Utf8.decode s pos).1 = x := ⟨_, rfl⟩
      have hdw2 : (Utf8.decode s pos).2 = dw s pos := rfl
      rw [hrr, hdw2] at hnx
      rw [hrr] at hr0
      obtain ⟨x, hx⟩ : ∃ x, dw s pos = x := ⟨_, rfl⟩
      have hrl : rr ≤ 2147483647 := by rw [← hrr]; exact hdl
      rw [hx] at hnx HT1 hB1 hdw hdp
      generalize wr.iterAt (B + 1) s (pos + x) = w1 at *
      have hip := iter_pos HT
      clear hrr hx hdl HT hBw hdw2
      have he := enc_small rr
      have HR0 := Lib.hid hr0
      clear hr0
      by_cases e10 : rr = 10
      · have t : ((rr : Int) == 10) = true := by simp; omega
        have hpn : 0 < n ∨ 0 < pos := by
          by_cases h : pos = 0
          · have := HR0.out h; omega
          · right; omega
        have HSZ := Lib.hid hsz
        clear e10 hsz
        go_wp2_with (first | (go_at_call 52; refine (bstr_any B _ _ HT1.buf).mono ?_; rintro e w2 ⟨rfl, m2, hw2⟩; have HT2 := HT1.dn hw2; have hB2 := bdn hB1 hw2; clear hw2) | (go_at_call 80; refine (strip_any _ _ _ (by rw [HSZ.out]; omega)).mono ?_; rintro e w3 ⟨⟨t3, rfl, ht3⟩, hb3⟩; have HT3 := HT2.old hb3; have hB3 := hB2.trans (hb3.mono (by have := hB2.size; omega)); have HTT := Lib.hid ht3; clear ht3) | (at_builtin; (refine wpList_append_lies _ (by rfl) _ _ _ (by rfl) B 9 i0 _ 1 16 Tryz.underlying25 hi0 hz0 hz1 hz2 rfl (by omega) _ n xs (by rfl) (HT3.row.alloc _) ⟨w3.heap.size, 0, none⟩ 1 1 [.string t3] (by rfl) (by rfl) (World.news_of_block (cs := #[.string t3]) (t := 9) (fr := (0, 0)) (heap_alloc_new w3 _)) (by simp [Value.oneCell']) (by omega) (by unfold maxLen; omega) (by omega) (by have := hB3.size; simp; omega) (w3.heap.size + 1) (by simp) ?_); (intro gg cap w4 hown4 hgrow hat hlt4); (have HT4 := (HT3.old (below_alo _)).grew hgrow hown4); (have hB4 := (hB3.alloc (by have := hB3.size; omega) _).trans (grown_below hgrow (fun g hg => (ownBlock_ge HT3.row g hg).1) (by have := hB3.size; simp; omega)))) | (go_at_call 69; refine (breset_any B _ _ HT4.buf).mono ?_; rintro e w5 ⟨⟨v5, rfl⟩, hbuf5, hb5, hk5⟩; have HT5 := HT4.wrote hbuf5 hk5; have hB5 := hB4.trans hb5))
        go_roundw
        case rel => exact ⟨pos + x, n + 1, [], _, HT5, by omega, Nat.zero_le _, hdw.2, HS.cut hpn HTT.out, hB5⟩
        case measure => rw [iter_pos HT5, hip]; omega
      · have t : ((rr : Int) == 10) = false := by simp; omega
        clear e10 hsz
        go_wp2_with (first | (go_at_call 51; refine (wrune_any B acc rr (by omega) (by omega) _ HT1.buf (by omega)).mono ?_; rintro e w2 ⟨⟨v2, rfl⟩, hbuf2, hb2, hk2⟩; have HT2 := HT1.wrote hbuf2 hk2; have hB2 := hB1.trans hb2))
        go_roundw
        case rel => exact ⟨pos + x, n, _, xs, HT2, by omega, by rw [List.length_append]; omega, hdw.2, HS.more hacc HR0.out, hB2⟩
        case measure => rw [iter_pos HT2, hip]; omega
    · have hnx : ∀ ty, (Instr.next (.pointer (some ⟨B + 1, 0, none⟩)) true ty).run Tryz.prog wr = _ := fun ty => Lib.run_next_end_at wr (B + 1) s pos ty HT.it hlt
      have HSZ := Lib.hid hsz
      clear hsz
      have hpn : 0 < n ∨ 0 < pos := by
        right
        have := hsl.1
        omega
      go_wp2_with (first | (go_at_call 52; refine (bstr_any B _ _ HT.buf).mono ?_; rintro e w2 ⟨rfl, m2, hw2⟩; have HT2 := HT.dn hw2; have hB2 := bdn hBw hw2; clear hw2) | (go_at_call 80; refine (strip_any _ _ _ (by rw [HSZ.out]; omega)).mono ?_; rintro e w3 ⟨⟨t3, rfl, ht3⟩, hb3⟩; have HT3 := HT2.old hb3; have hB3 := hB2.trans (hb3.mono (by have := hB2.size; omega)); have HTT := Lib.hid ht3; clear ht3) | (at_builtin; (refine wpList_append_lies _ (by rfl) _ _ _ (by rfl) B 9 i0 _ 1 16 Tryz.underlying25 hi0 hz0 hz1 hz2 rfl (by omega) _ n xs (by rfl) (HT3.row.alloc _) ⟨w3.heap.size, 0, none⟩ 1 1 [.string t3] (by rfl) (by rfl) (World.news_of_block (cs := #[.string t3]) (t := 9) (fr := (0, 0)) (heap_alloc_new w3 _)) (by simp [Value.oneCell']) (by omega) (by unfold maxLen; omega) (by omega) (by have := hB3.size; simp; omega) (w3.heap.size + 1) (by simp) ?_); (intro gg cap w4 hown4 hgrow hat hlt4); (have HT4 := (HT3.old (below_alo _)).grew hgrow hown4); (have hB4 := (hB3.alloc (by have := hB3.size; omega) _).trans (grown_below hgrow (fun g hg => (ownBlock_ge HT3.row g hg).1) (by have := hB3.size; simp; omega)))))
      go_ret
      have HF := HS.cut (pos' := 0) hpn HTT.out
      exact ⟨⟨_, n + 1, _, rfl, hown4, by omega, by omega, HF.fst (by omega), HF.all⟩, hB4⟩
end Go.Proofs.YtiicdalodfjgaaaGreatFmt
