/- FnLex is proved: for every text the law answers true and the text reads as it did, where the listed package-level variables hold what the program's text lays (the card ties that); fmt's text is told by the model's own Lean function, and the law does not look at it. No further condition. -/
import Derived.Test.YtiicdalodfjgaaaGreatFmtSpU
import Derived.Deep.LoopGhost
import Derived.Test.YtiicdalodfjgaaaGreatFmtLxW
import Derived.Test.YtiicdalodfjgaaaGreatFmtRows
import Derived.Test.YtiicdalodfjgaaaGreatFmtSh
import Derived.ProofKit
import Derived.Stop.JoinedAt
import Derived.Stop.Texts
import Derived.Stop.JoinedTold
import Derived.Stop.LaidErr
import Derived.Lib.LaidTab
import Derived.Lib.LaidU8
import Derived.Lib.LaidIn
import Derived.Great.LaidInts
import Derived.SizedLaws
import Derived.Deep.DeepWitnessRef
import Derived.Deep.DeepWitnessRowRef
import Derived.Test.YtiicdalodfjgaaaGreatFmtTie
import Derived.Test.YtiicdalodfjgaaaGreatFmtCards
import Derived.SevenTiedAt
namespace Go.Proofs.YtiicdalodfjgaaaGreatFmt
open Go.RowKit

abbrev lx0 (s : ByteArray) (st : Int) : Array Value := #[.string s, .int .i64 0, .int .i64 st, .slice none 0 0, .slice none 0 0, .bool false, .bool false]
theorem spl_new (s : ByteArray) (st : Int) (w : World) : SpL s w.heap.size 0 st (w.alloc (.cells (lx0 s st) 27)) :=
  ⟨_, _, _, _, 0, 0, [], [], heap_alloc_new w _, World.ownsRow_nil _ _ _ _, World.ownsRow_nil _ _ _ _, fun g hg => (by cases hg), Nat.le_refl _, Nat.le_refl _⟩
def LfPost (s : ByteArray) (w : World) (e : Ending) (w' : World) : Prop :=
  (∃ (b q : Nat) (st : Int), e = .returned (.pointer (some ⟨b, 0, none⟩)) ∧ SpL s b q st w' ∧ (st = 0 ∨ st = slE s 0)) ∧ Below w.heap.size w w'
set_option maxRecDepth 100000 in
set_option maxHeartbeats 6400000 in
theorem lex_any (s : ByteArray) (w : World) (hs : s.size ≤ 2000) : Calls Tryz.prog 4 #[.string s] w fun e w' => LfPost s w e w' := by
  obtain ⟨r, hr⟩ : ∃ r, slE s 0 = r := ⟨_, rfl⟩
  have HR := Lib.hid hr
  have H6 := fun w => utf_any s (by omega) w
  unfold UtfPost at H6
  obtain ⟨ub, hub⟩ : ∃ x, utfB s = x := ⟨_, rfl⟩
  rw [hub] at H6
  clear hr hub
  have t40 : decide ((40000 : Int) < (s.size : Int)) = false := by simp; omega
  have hal : ∀ o, Below w.heap.size w (w.alloc o) := fun o => (Below.refl _ _).alloc (Nat.le_refl _) o
  have hS1 := spl_new s 1 w
  go_enter Tryz.func4, Tryz.ntmps4
  go_upto_region 2 with (fail)
  have hB1 := hal (.cells (lx0 s 1) 27)
  obtain ⟨b, hb⟩ : ∃ b, w.heap.size = b := ⟨_, rfl⟩
  have hb' : b ≤ w.heap.size := by omega
  rw [hb] at hS1
  rw [hb]
  generalize w.alloc (.cells (lx0 s 1) 27) = w1 at *
  have hB1b : Below b w w1 := hB1.mono hb'
  go_cut [14] (fun v wx => v = .bool (!ub) ∧ SpL s b 0 1 wx ∧ Below b w wx)
  case first =>
    go_wp2_with (go_at_call 6; refine (H6 _).mono ?_; rintro e w2 ⟨rfl, hb2⟩)
    go_meet
    exact ⟨rfl, hS1.below hb2, hB1b.trans (hb2.mono (Nat.le_of_lt hS1.lt))⟩
  case rest =>
    obtain ⟨rfl, HL2, HB2⟩ := hcut
    generalize wc = w2 at *
    clear hS1 hB1 hB1b H6
    go_upto_if 14 with (fail)
    go_cut [] (fun wx => ∃ st : Int, (st = 0 ∨ st = 1) ∧ SpL s b 0 st wx ∧ Below b w wx)
    case first =>
      obtain ⟨tv, cv, wd, co, n1, n2, xs1, xs2, hI⟩ := HL2
      have z2 := blk_thaw hI.blk 2
      have c2 := blk_cell hI.blk 2
      simp at c2
      cases ub with
      | true =>
        go_wp2_with fail
        go_meet
        exact ⟨1, .inr rfl, ⟨_, _, _, _, _, _, _, _, hI⟩, HB2⟩
      | false =>
        go_wp2_with fail
        go_meet
        exact ⟨0, .inl rfl, ⟨_, _, _, _, _, _, _, _, hI.setSt 0⟩, below_set HB2 _ _⟩
    case rest =>
      obtain ⟨st0, hst0, HL3, HB3⟩ := hcut
      generalize wc = w3 at *
      clear HL2 HB2
      go_wp2_with fail
      go_loopg [] (s.size + 2) (fun k wr => ∃ (j : Nat) (st : Int), SpL s b j st wr ∧ Below b w wr ∧ ((st = 1 ∧ Hid (slE s j = r) ∧ j ≤ s.size ∧ s.size - j < k) ∨ (st ≠ 1 ∧ (st = 0 ∨ st = r) ∧ 0 < k)))
      case atStart =>
        refine ⟨0, st0, HL3, HB3, ?_⟩
        rcases hst0 with rfl | rfl
        · exact .inr ⟨by decide, .inl rfl, by omega⟩
        · exact .inl ⟨rfl, HR, Nat.zero_le _, by omega⟩
      case round =>
        clear HL3 HB3 hst0
        obtain ⟨j, st, HL, HB, hcase⟩ := hrel
        have c1 := HL.c1
        have c2 := HL.c2
        have hk0 : 0 < gk := by rcases hcase with h | h <;> omega
        obtain ⟨d, rfl⟩ : ∃ m, gk = m + 1 := ⟨gk - 1, by omega⟩
        by_cases hlt : j < s.size
        · have t1 : (j : Int) < (s.size : Int) := by omega
          rcases hcase with ⟨rfl, HS, hj, hk⟩ | ⟨hne, hor, hk⟩
          · have HO := one_any s b j wr HL hlt hs
            go_wp2_with (go_at_call 7; refine HO.mono ?_; rintro e w4 ⟨⟨v, rfl⟩, ⟨st2, q, hL4, hst⟩, hb4⟩)
            go_roundg d
            case measure => omega
            case rel =>
              refine ⟨q, st2, hL4, HB.trans hb4, ?_⟩
              have hstep := slE_step s j hlt
              rcases hst with rfl | ⟨h1, h2⟩
              · exact .inr ⟨by decide, .inl rfl, by omega⟩
              · by_cases h3 : (sone s j).1 = 1
                · have hq := h2 h3
                  have hbd := sone_bounds s j hlt h3
                  rw [if_pos h3] at hstep
                  exact .inl ⟨by rw [h1, h3], Lib.hid (by rw [hq, ← hstep]; exact HS.out), by omega, by omega⟩
                · rw [if_neg h3] at hstep
                  exact .inr ⟨by rw [h1]; exact h3, .inr (by rw [h1, ← hstep]; exact HS.out), by omega⟩
          · have t2 : (st == 1) = false := by simpa using hne
            go_wp2_with fail
            go_ret
            exact ⟨⟨b, j, st, rfl, HL, by rw [HR.out]; exact hor⟩, by rw [hb]; exact HB⟩
        · have t1 : ¬ (j : Int) < (s.size : Int) := by omega
          go_wp2_with fail
          go_ret
          refine ⟨⟨b, j, st, rfl, HL, ?_⟩, by rw [hb]; exact HB⟩
          rcases hcase with ⟨rfl, HS, hj, hk⟩ | ⟨hne, hor, hk⟩
          · right
            rw [HR.out, ← HS.out, slE_end s j hlt]
          · rw [HR.out]; exact hor
end Go.Proofs.YtiicdalodfjgaaaGreatFmt
namespace Go.Proofs.YtiicdalodfjgaaaGreatFmt
open Go.RowKit Go.Extern.Stop Go.Stop Go.Extern

theorem quoN_range (s : ByteArray) (q : Nat) : ∀ f k, (quoN s q f k).1 = 0 ∨ (quoN s q f k).1 = 1 ∨ (quoN s q f k).1 = 2 := by
  intro f
  induction f with
  | zero => intro k; exact .inr (.inr rfl)
  | succ f ih =>
    intro k
    rw [quoN]
    split
    · split
      · exact .inl rfl
      · split
        · exact ih _
        · exact ih _
    · split
      · exact .inr (.inl rfl)
      · exact .inr (.inr rfl)
theorem quoS_range (s : ByteArray) (p : Nat) (r : Int × Nat) (h : r.1 = 0 ∨ r.1 = 1 ∨ r.1 = 2) : (quoS s p r).1 = 0 ∨ (quoS s p r).1 = 1 ∨ (quoS s p r).1 = 2 := by
  unfold quoS
  split
  · split
    · exact .inr (.inl rfl)
    · exact .inl rfl
  · exact h
theorem optS_range (p : Nat) (r : Option Nat) : (optS p r).1 = 0 ∨ (optS p r).1 = 1 ∨ (optS p r).1 = 2 := by
  cases r with
  | none => exact .inr (.inr rfl)
  | some q => exact .inr (.inl rfl)
theorem optO_range (p : Nat) (r : Option Nat) : (optO p r).1 = 0 ∨ (optO p r).1 = 1 ∨ (optO p r).1 = 2 := by
  cases r with
  | none => exact .inl rfl
  | some q => exact .inr (.inl rfl)
theorem blkS_range (s : ByteArray) (p : Nat) : (blkS s p).1 = 0 ∨ (blkS s p).1 = 1 ∨ (blkS s p).1 = 2 := by
  unfold blkS
  split
  · split
    · exact .inr (.inr rfl)
    · split
      · exact .inr (.inl rfl)
      · exact .inr (.inr rfl)
  · exact .inl rfl
theorem sgS_range (s : ByteArray) (p : Nat) : (sgS s p).1 = 0 ∨ (sgS s p).1 = 1 ∨ (sgS s p).1 = 2 := by
  unfold sgS
  split
  · exact .inr (.inl rfl)
  · split
    · exact .inr (.inl rfl)
    · split
      · exact .inr (.inl rfl)
      · exact .inl rfl
theorem ite3 {c : Prop} [Decidable c] {a b : Int × Nat} (ha : a.1 = 0 ∨ a.1 = 1 ∨ a.1 = 2) (hb : b.1 = 0 ∨ b.1 = 1 ∨ b.1 = 2) : (if c then a else b).1 = 0 ∨ (if c then a else b).1 = 1 ∨ (if c then a else b).1 = 2 := by
  by_cases h : c
  · rw [if_pos h]; exact ha
  · rw [if_neg h]; exact hb
theorem sone_range (s : ByteArray) (p : Nat) : (sone s p).1 = 0 ∨ (sone s p).1 = 1 ∨ (sone s p).1 = 2 := by
  unfold sone
  refine ite3 (.inr (.inl rfl)) ?_
  refine ite3 (.inr (.inl rfl)) ?_
  refine ite3 (optS_range _ _) ?_
  refine ite3 (blkS_range _ _) ?_
  refine ite3 (optS_range _ _) ?_
  refine ite3 (optS_range _ _) ?_
  refine ite3 (quoS_range _ _ _ (quoN_range _ _ _ _)) ?_
  refine ite3 (quoS_range _ _ _ (quoN_range _ _ _ _)) ?_
  refine ite3 (optO_range _ _) ?_
  refine ite3 (.inr (.inl rfl)) ?_
  refine ite3 (.inr (.inl rfl)) ?_
  refine ite3 (sgS_range _ _) ?_
  exact ite3 (.inr (.inr rfl)) (.inl rfl)
theorem slE_range (s : ByteArray) : ∀ d p, s.size - p = d → slE s p = 0 ∨ slE s p = 1 ∨ slE s p = 2 := by
  intro d
  induction d using Nat.strongRecOn with
  | _ d ih =>
    intro p hd
    by_cases hp : p < s.size
    · rw [slE_step s p hp]
      split
      · rename_i h1
        have hb := sone_bounds s p hp h1
        exact ih (s.size - (sone s p).2) (by omega) _ rfl
      · exact sone_range s p
    · rw [slE_end s p hp]
      exact .inr (.inl rfl)

def ImlPost (R : Bool) (w : World) (e : Ending) (w' : World) : Prop := (∃ n : Int, e = .returned (.tuple #[.int .i64 n, .bool R])) ∧ Below w.heap.size w w'
set_option maxRecDepth 100000 in
set_option maxHeartbeats 6400000 in
theorem iml_any (F : Interp) (s : ByteArray) (w : World) (hs : s.size ≤ 2000) (hF : F.answers w.tape) (hT : Lib.Utf8Tabs 0 1 w) (h2 : 2 ≤ w.heap.size) :
    Calls Tryz.prog 5 #[.string s] w fun e w' => ImlPost (clE s 0) w e w' := by
  have H8 := lex_lx F ⟨#[]⟩ ⟨#[]⟩ s w hs hF hT h2
  obtain ⟨R, hR⟩ : ∃ R, clE s 0 = R := ⟨_, rfl⟩
  rw [hR] at H8
  rw [hR]
  clear hR hF hT
  cases R with
  | true =>
    go_enter Tryz.func5, Tryz.ntmps5
    go_wp2_with (go_at_call 8; refine H8.mono ?_; intro e w1 hl; unfold LexPost at hl; obtain ⟨⟨a, n, cap, rfl⟩, hb1⟩ := hl)
    go_ret2
    exact ⟨⟨_, rfl⟩, hb1⟩
  | false =>
    go_enter Tryz.func5, Tryz.ntmps5
    go_wp2_with (go_at_call 8; refine H8.mono ?_; intro e w1 hl; unfold LexPost at hl; obtain ⟨⟨v, rfl⟩, hb1⟩ := hl)
    go_ret2
    exact ⟨⟨_, rfl⟩, hb1⟩
theorem tabs_size {w : World} (hT : Lib.Utf8Tabs 0 1 w) : 2 ≤ w.heap.size := by
  have h := (hT.2 0 (by decide)).1
  unfold World.cell? at h
  split at h
  · rename_i hh
    have := (Array.getElem?_eq_some_iff.1 hh).1
    simp at this
    omega
  · cases h
set_option maxRecDepth 100000 in
set_option maxHeartbeats 6400000 in
theorem law_any (F : Interp) (s : ByteArray) (w : World) (hs : s.size ≤ maxLen) (hF : F.answers w.tape) (hT : Lib.Utf8Tabs 0 1 w) :
    Calls Tryz.prog 3 #[.string s] w fun e w' => e = .returned (.bool true) ∧ Below w.heap.size w w' := by
  unfold maxLen at hs
  have h2 := tabs_size hT
  by_cases hsz : s.size ≤ 2000
  · have hboth := both s s.size 0 (by omega) (by omega)
    have hrange := slE_range s s.size 0 (by omega)
    have H4 := lex_any s w hsz
    have H5 := fun (w' : World) hF hT h2 => iml_any F s w' hsz hF hT h2
    obtain ⟨R, hR⟩ : ∃ R, clE s 0 = R := ⟨_, rfl⟩
    rw [hR] at H5 hboth
    clear hR
    have HBO := Lib.hid hboth
    have HRA := Lib.hid hrange
    clear hboth hrange
    go_enter Tryz.func3, Tryz.ntmps3
    go_upto_region 6 with (go_at_call 4; refine H4.mono ?_; intro e w1 hl; unfold LfPost at hl; obtain ⟨⟨b, q, st, rfl, hL1, hst⟩, hb1⟩ := hl)
    have c2 := hL1.c2
    have hF1 : F.answers w1.tape := by rw [hb1.tape]; exact hF
    have hT1 := tabs_below hT hb1 h2
    have hz1 : 2 ≤ w1.heap.size := Nat.le_trans h2 hb1.size
    have H5' := H5 w1 hF1 hT1 hz1
    have HST := Lib.hid hst
    clear H4 H5 hF1 hT1 hz1 hF hT hst
    by_cases hst0 : st = 0
    · subst hst0
      go_wp2_with fail
      go_ret
      exact ⟨rfl, hb1⟩
    · have hcase : (st = 1 ∧ R = true) ∨ (st = 2 ∧ R = false) := by
        rcases HST.out with h | h
        · exact absurd h hst0
        · rcases HRA.out with h3 | h3 | h3
          · exact absurd (h.trans h3) hst0
          · exact .inl ⟨h.trans h3, HBO.out.1 h3⟩
          · exact .inr ⟨h.trans h3, HBO.out.2 h3⟩
      clear hst0
      rcases hcase with ⟨rfl, rfl⟩ | ⟨rfl, rfl⟩
      all_goals (
        go_wp2_with (go_at_call 5; refine H5'.mono ?_; intro e w2 hl; unfold ImlPost at hl; obtain ⟨⟨n, rfl⟩, hb2⟩ := hl; have c2' := (hL1.below hb2).c2)
        go_ret
        exact ⟨rfl, hb1.trans (hb2.mono hb1.size)⟩)
  · have h3 : 2000 < s.size := by omega
    go_enter Tryz.func3, Tryz.ntmps3
    go_wp2
    all_goals
      go_ret
      exact ⟨rfl, Below.refl _ _⟩
end Go.Proofs.YtiicdalodfjgaaaGreatFmt
namespace Go.Proofs.YtiicdalodfjgaaaGreatFmt
open Go.Lib Go.RowKit Go.WideShapes Go.ChangeShapes Go.Great

theorem own : ownKnob Tryz.prog.godebug = none := by kernel_rfl
theorem d_first : (Rows.laid_unicode_utf8_first : DataW Unit) = Lib.firstData := by kernel_rfl
theorem d_accept : (Rows.laid_unicode_utf8_acceptRanges : DataW Unit) = Lib.acceptData := by kernel_rfl

def tooLarge : ByteArray := ⟨#[98, 121, 116, 101, 115, 46, 66, 117, 102, 102, 101, 114, 58, 32, 116, 111, 111, 32, 108, 97, 114, 103, 101]⟩
def firstCells : Array Value := (Lib.firstTab.map (Value.int .u8)).toArray
def acceptCells : Array Value := ((List.range 16).flatMap fun i => [Value.int .u8 (Lib.accLo i : Int), .int .u8 (Lib.accHi i : Int)]).toArray

def intsOf (l : List Nat) : List Int := l.map fun (n : Nat) => (n : Int)
noncomputable def laidWorld (os : Os) : World :=
  let N := (World.settled Tryz.prog os).heap.size
  let w0 := World.holding Tryz.prog os ⟨#[.cells #[.string tooLarge] 160, (.cells ((intsOf Go.Pinned.isGraphicZ).map (Value.int .u16)).toArray 135), (.cells ((intsOf Go.Pinned.isNotPrint16Z).map (Value.int .u16)).toArray 135), (.cells ((intsOf Go.Pinned.isNotPrint32Z).map (Value.int .u16)).toArray 135), (.cells ((intsOf Go.Pinned.isPrint16Z).map (Value.int .u16)).toArray 135), (.cells ((intsOf Go.Pinned.isPrint32Z).map (Value.int .u32)).toArray 115)], #[], []⟩
  let put (h : Array Obj) (g : Nat) (cs : Array Value) : Array Obj := h.modify g fun
    | .cells _ t frozen => .cells cs t frozen
    | o => o
  let h0 := put (put (put w0.heap 0 firstCells) 1 acceptCells) 2 #[.iface 140 (.pointer (some ⟨N, 0, none⟩))]
  let h1 := put h0 7 #[.slice (some ⟨N + 1, 0, none⟩) (intsOf Go.Pinned.isGraphicZ).length (intsOf Go.Pinned.isGraphicZ).length]
  let h2 := put h1 4 #[.slice (some ⟨N + 2, 0, none⟩) (intsOf Go.Pinned.isNotPrint16Z).length (intsOf Go.Pinned.isNotPrint16Z).length]
  let h3 := put h2 6 #[.slice (some ⟨N + 3, 0, none⟩) (intsOf Go.Pinned.isNotPrint32Z).length (intsOf Go.Pinned.isNotPrint32Z).length]
  let h4 := put h3 3 #[.slice (some ⟨N + 4, 0, none⟩) (intsOf Go.Pinned.isPrint16Z).length (intsOf Go.Pinned.isPrint16Z).length]
  let h5 := put h4 5 #[.slice (some ⟨N + 5, 0, none⟩) (intsOf Go.Pinned.isPrint32Z).length (intsOf Go.Pinned.isPrint32Z).length]
  { w0 with heap := h5 }

theorem fits (k : IntKind) (zs : List Int) (h : (zs.all fun n => (Lit.int k n).wf) = true) : ∀ n ∈ zs, (Lit.int k n).wf = true := fun n hn => List.all_eq_true.1 h n hn
noncomputable abbrev N0 : Nat := (World.settled Tryz.prog default).heap.size
set_option maxRecDepth 1000000 in
theorem piece0 (os : Os) (args : Array Value) : LaidIn Tryz.prog ((laidWorld os).forCall (fun _ _ => 0) ⟨#[], args, []⟩).memory [("unicode/utf8.acceptRanges", Rows.laid_unicode_utf8_acceptRanges), ("bytes.ErrTooLarge", Rows.laid_bytes_ErrTooLarge)] [1, 2, N0] :=
  LaidIn.of_run [1, 2, N0] 10 (by kernel_rfl) (by kernel_rfl) (by kernel_rfl) (by kernel_rfl)
set_option maxRecDepth 1000000 in
theorem pieceF (os : Os) (args : Array Value) : LaidIn Tryz.prog ((laidWorld os).forCall (fun _ _ => 0) ⟨#[], args, []⟩).memory [("unicode/utf8.first", Rows.laid_unicode_utf8_first)] [0] :=
  LaidIn.of_run [0] 10 (by kernel_rfl) (by kernel_rfl) (by kernel_rfl) (by kernel_rfl)
theorem d_isGraphic : (DataW.slice ((intsOf Go.Pinned.isGraphicZ).map fun n => .lit (.int .u16 n)) [] : DataW Unit) = Rows.laid_strconv_isGraphic := by
  unfold Rows.laid_strconv_isGraphic Go.Pinned.isGraphic Go.Pinned.numbers intsOf
  rw [List.map_map]
  rfl
set_option maxRecDepth 1000000 in
theorem piece1 (os : Os) (args : Array Value) : LaidIn Tryz.prog ((laidWorld os).forCall (fun _ _ => 0) ⟨#[], args, []⟩).memory [("strconv.isGraphic", Rows.laid_strconv_isGraphic)] [7, N0 + 1] :=
  d_isGraphic ▸ laidIn_ints (name := "strconv.isGraphic") (g := 7) (R := N0 + 1) (t := 136) (e := 135) (tg := 136) (k := .u16) (zs := intsOf Go.Pinned.isGraphicZ) (by kernel_rfl) (by kernel_rfl) (by kernel_rfl) (by kernel_rfl) (by kernel_rfl) (Nat.le_of_ble_eq_true (by kernel_rfl)) (fits _ _ (by kernel_rfl)) (by kernel_rfl) (by kernel_rfl) (Nat.ne_of_beq_eq_false (by kernel_rfl))
theorem d_isNotPrint16 : (DataW.slice ((intsOf Go.Pinned.isNotPrint16Z).map fun n => .lit (.int .u16 n)) [] : DataW Unit) = Rows.laid_strconv_isNotPrint16 := by
  unfold Rows.laid_strconv_isNotPrint16 Go.Pinned.isNotPrint16 Go.Pinned.numbers intsOf
  rw [List.map_map]
  rfl
set_option maxRecDepth 1000000 in
theorem piece2 (os : Os) (args : Array Value) : LaidIn Tryz.prog ((laidWorld os).forCall (fun _ _ => 0) ⟨#[], args, []⟩).memory [("strconv.isNotPrint16", Rows.laid_strconv_isNotPrint16)] [4, N0 + 2] :=
  d_isNotPrint16 ▸ laidIn_ints (name := "strconv.isNotPrint16") (g := 4) (R := N0 + 2) (t := 136) (e := 135) (tg := 136) (k := .u16) (zs := intsOf Go.Pinned.isNotPrint16Z) (by kernel_rfl) (by kernel_rfl) (by kernel_rfl) (by kernel_rfl) (by kernel_rfl) (Nat.le_of_ble_eq_true (by kernel_rfl)) (fits _ _ (by kernel_rfl)) (by kernel_rfl) (by kernel_rfl) (Nat.ne_of_beq_eq_false (by kernel_rfl))
theorem d_isNotPrint32 : (DataW.slice ((intsOf Go.Pinned.isNotPrint32Z).map fun n => .lit (.int .u16 n)) [] : DataW Unit) = Rows.laid_strconv_isNotPrint32 := by
  unfold Rows.laid_strconv_isNotPrint32 Go.Pinned.isNotPrint32 Go.Pinned.numbers intsOf
  rw [List.map_map]
  rfl
set_option maxRecDepth 1000000 in
theorem piece3 (os : Os) (args : Array Value) : LaidIn Tryz.prog ((laidWorld os).forCall (fun _ _ => 0) ⟨#[], args, []⟩).memory [("strconv.isNotPrint32", Rows.laid_strconv_isNotPrint32)] [6, N0 + 3] :=
  d_isNotPrint32 ▸ laidIn_ints (name := "strconv.isNotPrint32") (g := 6) (R := N0 + 3) (t := 136) (e := 135) (tg := 136) (k := .u16) (zs := intsOf Go.Pinned.isNotPrint32Z) (by kernel_rfl) (by kernel_rfl) (by kernel_rfl) (by kernel_rfl) (by kernel_rfl) (Nat.le_of_ble_eq_true (by kernel_rfl)) (fits _ _ (by kernel_rfl)) (by kernel_rfl) (by kernel_rfl) (Nat.ne_of_beq_eq_false (by kernel_rfl))
theorem d_isPrint16 : (DataW.slice ((intsOf Go.Pinned.isPrint16Z).map fun n => .lit (.int .u16 n)) [] : DataW Unit) = Rows.laid_strconv_isPrint16 := by
  unfold Rows.laid_strconv_isPrint16 Go.Pinned.isPrint16 Go.Pinned.numbers intsOf
  rw [List.map_map]
  rfl
set_option maxRecDepth 1000000 in
theorem piece4 (os : Os) (args : Array Value) : LaidIn Tryz.prog ((laidWorld os).forCall (fun _ _ => 0) ⟨#[], args, []⟩).memory [("strconv.isPrint16", Rows.laid_strconv_isPrint16)] [3, N0 + 4] :=
  d_isPrint16 ▸ laidIn_ints (name := "strconv.isPrint16") (g := 3) (R := N0 + 4) (t := 136) (e := 135) (tg := 136) (k := .u16) (zs := intsOf Go.Pinned.isPrint16Z) (by kernel_rfl) (by kernel_rfl) (by kernel_rfl) (by kernel_rfl) (by kernel_rfl) (Nat.le_of_ble_eq_true (by kernel_rfl)) (fits _ _ (by kernel_rfl)) (by kernel_rfl) (by kernel_rfl) (Nat.ne_of_beq_eq_false (by kernel_rfl))
theorem d_isPrint32 : (DataW.slice ((intsOf Go.Pinned.isPrint32Z).map fun n => .lit (.int .u32 n)) [] : DataW Unit) = Rows.laid_strconv_isPrint32 := by
  unfold Rows.laid_strconv_isPrint32 Go.Pinned.isPrint32 Go.Pinned.numbers intsOf
  rw [List.map_map]
  rfl
set_option maxRecDepth 1000000 in
theorem piece5 (os : Os) (args : Array Value) : LaidIn Tryz.prog ((laidWorld os).forCall (fun _ _ => 0) ⟨#[], args, []⟩).memory [("strconv.isPrint32", Rows.laid_strconv_isPrint32)] [5, N0 + 5] :=
  d_isPrint32 ▸ laidIn_ints (name := "strconv.isPrint32") (g := 5) (R := N0 + 5) (t := 138) (e := 115) (tg := 138) (k := .u32) (zs := intsOf Go.Pinned.isPrint32Z) (by kernel_rfl) (by kernel_rfl) (by kernel_rfl) (by kernel_rfl) (by kernel_rfl) (Nat.le_of_ble_eq_true (by kernel_rfl)) (fits _ _ (by kernel_rfl)) (by kernel_rfl) (by kernel_rfl) (Nat.ne_of_beq_eq_false (by kernel_rfl))
theorem laid_met (os : Os) (args : Array Value) : laidMet Tryz.prog Rows.fnLexRow.laid ((laidWorld os).forCall (fun _ _ => 0) ⟨#[], args, []⟩).memory :=
  ((piece0 os args).append ((piece1 os args).append ((piece2 os args).append ((piece3 os args).append ((piece4 os args).append ((piece5 os args).append (pieceF os args) (by kernel_rfl)) (by kernel_rfl)) (by kernel_rfl)) (by kernel_rfl)) (by kernel_rfl)) (by kernel_rfl)).met

/-- what the listed variables give. -/
theorem vars_give {W : World} (hL : laidMet Tryz.prog Rows.fnLexRow.laid W) : Lib.Utf8Tabs 0 1 W :=
  utf8Tabs_of_reads (ρ := Tryz.lays197_ren) { Tryz.lays197 with } ⟨by kernel_rfl, by kernel_rfl, by kernel_rfl, by kernel_rfl, by kernel_rfl, by kernel_rfl, by kernel_rfl⟩
    (d_first ▸ Lib.laidMet.reads hL (by simp [Rows.fnLexRow])) (d_accept ▸ Lib.laidMet.reads hL (by simp [Rows.fnLexRow]))

section
variable {H : Type} {enc : TypeId × Value → H} {P : Program}
theorem post_of_below {f : Func} {s : ChangeSpec} {apart fresh handsOn again : Bool} {W W' : World} {args : Array Value} {v : Value} {ds gs : List (DataW H)} {before pa pv : List MemPlace}
    (hW : DataW.Whole enc P f.params.toList s.vars apart W args.toList ds gs before)
    (hres : ∀ (b : Nat) (sp : Nat → Bool) (hd : Bool), DataW.TrodAll enc P W' b sp hd f.resultTypes.toList (v.resultList f.resultTypes.size) (s.fn H (ds ++ gs)).results [])
    (hargs : ∀ sp : Nat → Bool, (∀ p ∈ before, sp p.block = true) → DataW.TrodAll enc P W' 0 sp true f.params.toList args.toList (s.fn H (ds ++ gs)).args pa)
    (hvars : ∀ sp : Nat → Bool, (∀ p ∈ before, sp p.block = true) → DataW.TrodVars enc P W' sp s.vars (s.fn H (ds ++ gs)).vars pv)
    (hps : before = pa ++ pv) (hb : Below W.heap.size W W')
    (hok : ∀ (j : Nat) (t : TypeId) (r : Value), f.resultTypes[j]? = some t → (v.resultList f.resultTypes.size)[j]? = some r → Value.okWide P W' .any 0 t r) :
    s.post enc P f apart fresh handsOn again W args v W' := by
  have hlt : ∀ p ∈ before, p.block < W.heap.size := fun p hp => hW.lt p hp
  have hold : ∀ p ∈ before, (fun b => decide (b < W.heap.size)) p.block = true := fun p hp => by simpa using hlt p hp
  refine ⟨ds, gs, before, [], pa, pv, hW, hres _ _ _, hargs _ hold, hvars _ hold, World.keptBut_mono (fun p hp => ⟨hp, ?_⟩) (hb.frame (· ∈ before)), fun _ => ?_⟩
  · rw [hps, List.mem_append] at hp
    exact Or.inr hp
  · obtain ⟨_, _, _, _, _, hz, hn⟩ := hW
    refine ⟨hok, _, _, ([] ++ pa) ++ pv, ⟨[] ++ pa, pv, trodAll_append (hargs _ (fun _ _ => rfl)) (hres _ _ _), hvars _ (fun _ _ => rfl), rfl, ?_, ?_⟩, ?_⟩
    · intro b off hp
      have hin : MemPlace.cell b off ∈ before := by rw [hps]; simpa using hp
      rw [hb.frozen (hlt _ hin)]
      exact hz b off hin
    · intro ha
      have := hn ha
      rw [hps] at this
      simpa using this
    · intro p hp _
      rw [hps]
      simpa using hp
end
end Go.Proofs.YtiicdalodfjgaaaGreatFmt
namespace Go.Proofs.YtiicdalodfjgaaaGreatFmt.fnLex
open Go.ChangeShapes Go.WideShapes Go.ChangeAt Go.RowKit Go.Lib
open Go.ChangeMaps (open_string shut_string)
open Go.Extern.Stop Go.Stop Go.Extern

theorem witness_row (os : Os) {H : Type} (enc : TypeId × Value → H) :
    (OpenSpec.ofChange Rows.fnLexSpec).preRow enc Tryz.prog Tryz.f3 Rows.fnLexRow.domain false Rows.fnLexRow.laid ((laidWorld os).forCall (fun _ _ => 0) ⟨#[], #[.string ⟨#[]⟩], []⟩).memory #[.string ⟨#[]⟩] := by
  have hw : (DataW.whole enc Tryz.prog ((laidWorld os).forCall (fun _ _ => 0) ⟨#[], #[.string ⟨#[]⟩], []⟩).memory Tryz.f3.params.toList (OpenSpec.ofChange Rows.fnLexSpec).vars false #[Value.string ⟨#[]⟩].toList 8).map (fun x => (x.1, x.2.1)) =
      some ([.lit (.string [])], []) := by kernel_rfl
  obtain ⟨⟨x1, x2, x3⟩, hx, hx1⟩ := Option.map_eq_some_iff.1 hw
  simp only [Prod.mk.injEq] at hx1
  obtain ⟨rfl, rfl⟩ := hx1
  exact OpenSpec.preRow_of_cond 8 hx (by kernel_rfl) (fun k hk => by cases hk) (by kernel_rfl) (laid_met os _)

set_option maxRecDepth 100000 in
theorem lifted (os : Os) (started : os.Started) (H : Type) (enc : TypeId × Value → H) :
    ReturnsInTold none {} Tryz.checked os 3 .any Input.okWide ((OpenSpec.ofChange Rows.fnLexSpec).preRow enc Tryz.prog Tryz.f3 Rows.fnLexRow.domain false Rows.fnLexRow.laid) (fun F => ((OpenSpec.ofChange Rows.fnLexSpec).at F).post enc Tryz.prog Tryz.f3 false true false false) (aloneAtReturn Tryz.prog) nothingAlways := by
  refine returnsInTold_of_row (C := Tryz.checked) (s := OpenSpec.ofChange Rows.fnLexSpec) (by kernel_rfl) own started (by kernel_rfl) Tryz.func3
    (OpenSpec.witness_stopped_atRef (enc := enc) (C := Tryz.checked) false (laidWorld os) #[.string ⟨#[]⟩] rfl (by kernel_rfl) (by kernel_rfl) (by kernel_rfl) (witness_row os enc)) ?_
  intro F W base args ds gs before _ hF hval0 hW _ _ _ hL _
  have hval : ∀ (j : Nat) t v, Tryz.f3.params[j]? = some t → args[j]? = some v → Value.okWide Tryz.prog W .any base t v := hval0
  have hW' := hW
  obtain ⟨p, q, hA0, hV0, rfl, _, _⟩ := hW
  have hA : DataW.TrodAll enc Tryz.prog W 0 (fun _ => true) true Tryz.f3.params.toList args.toList ds p := hA0
  rw [Tryz.params3] at hA hval
  obtain ⟨v0, d0, rfl, rfl, h0⟩ := trodAll_one hA
  obtain ⟨rfl, rfl⟩ := trodVars_none hV0
  obtain ⟨s, rfl, rfl, rfl, ws⟩ := open_string Tryz.underlying9 (hval 0 9 v0 rfl rfl) h0
  clear hA0 hV0 hval0
  have hL' : laidMet Tryz.prog Rows.fnLexRow.laid W := hL
  have hT := vars_give hL'
  simp only [List.append_nil] at hW'
  refine (law_any F.told s W ws hF hT).mono fun e W' ⟨he, hb⟩ => ?_
  subst he
  exact ⟨_, rfl, post_of_below (pa := []) (pv := []) hW' (fun _ _ _ => trodAll_mk1 (shut_bool Tryz.underlying4 _)) (fun _ _ => trodAll_mk1 (shut_string Tryz.underlying9 ws)) (fun _ _ => rfl) rfl hb (ok_one (by kernel_rfl) rfl (okWide_bool_mk Tryz.underlying4 _))⟩

theorem laidOut : laidOutB Tryz.pinned.checked.prog = true := by kernel_rfl
theorem stops : Tryz.pinned.checked.prog.stops = ["fmt.Sprintf"] := by kernel_rfl
theorem stopKnobs : Tryz.pinned.checked.prog.stopKnobs = [] := by kernel_rfl
theorem quiet (os : Os) : Stop.quiet Tryz.pinned.checked.prog os := by
  intro k hk
  rw [stopKnobs] at hk
  cases hk

theorem proved : Rows.FnLexToldSaid :=
  Claim7.holds_of_told_tied_any_at .later 3 Tryz.f3 "fmt.Sprintf" [] [] _ _ _ _ _ (by kernel_rfl) rfl rfl rfl laidOut (by kernel_rfl) rfl ⟨rfl, rfl, rfl, rfl, rfl, rfl, rfl⟩ rfl rfl (by kernel_rfl) (by kernel_rfl) Tryz.func3 (by kernel_rfl)
    (of_decide_eq_true (by kernel_rfl)) (by unfold Func.isWrapper; first | (rw [if_pos (by decide +kernel)]; kernel_rfl) | (rw [if_neg (by decide +kernel)]; exact ⟨rfl, rfl⟩)) stops.symm rfl stopKnobs.symm (by kernel_rfl)
    (by kernel_rfl) (by kernel_rfl) (by kernel_rfl) (by kernel_rfl) (by kernel_rfl) (by kernel_rfl) (by kernel_rfl) (by kernel_rfl) (by kernel_rfl) rfl (by kernel_rfl) rfl rfl
    rfl rfl
    rfl (by kernel_rfl) (by kernel_rfl) (by kernel_rfl) (by decide) (by kernel_rfl) fnLex_row_tie
    (OpenClaim.moreEntering_of (by kernel_rfl) (by kernel_rfl) (by kernel_rfl) (by kernel_rfl) (by kernel_rfl) (by kernel_rfl) (by kernel_rfl) (by kernel_rfl) (by kernel_rfl) (by kernel_rfl))
    ⟨_, WideRow.started_initial, quiet _⟩
    (fun os started _ H enc _ => lifted os started H enc)
#print axioms proved
end Go.Proofs.YtiicdalodfjgaaaGreatFmt.fnLex
