/- The parser's lexer: Lex. -/
import Derived.Test.YtiicdalodfjgaaaGreatFmtLxV
import Derived.KernelRfl
namespace Go.Proofs.YtiicdalodfjgaaaGreatFmt
open Go.RowKit Go.Extern.Stop Go.Stop Go.Extern
variable {F : Interp} {s : ByteArray} {b p ts c : Nat} {w : World}

def LexPost (R : Bool) (w : World) (e : Ending) (w' : World) : Prop :=
  (match R with | true => ∃ a n cap, e = .returned (.tuple #[.slice a n cap, .nilIface]) | false => ∃ v, e = .returned (.tuple #[.slice none 0 0, .iface 120 v])) ∧ Below w.heap.size w w'
theorem lex_no {R : Bool} {w w' : World} {v : Value} (hR : R = false) (hb : Below w.heap.size w w') : LexPost R w (.returned (.tuple #[.slice none 0 0, .iface 120 v])) w' := by
  subst hR
  exact ⟨⟨v, rfl⟩, hb⟩
theorem lex_yes {R : Bool} {w w' : World} {a : Option Addr} {n cap : Nat} (hR : R = true) (hb : Below w.heap.size w w') : LexPost R w (.returned (.tuple #[.slice a n cap, .nilIface])) w' := by
  subst hR
  exact ⟨⟨a, n, cap, rfl⟩, hb⟩
theorem rd_get_some {q : Nat} {e : Ending} {w' : World} (h : RdPost F s b c (some q) w e w') : e = .returned .nilIface ∧ (∃ ts, LxL F s b q ts c w') ∧ Below b w w' := ⟨h.1.1, h.1.2, h.2⟩
theorem rd_get_none {e : Ending} {w' : World} (h : RdPost F s b c none w e w') : (∃ v, e = .returned (.iface 120 v)) ∧ Below b w w' := h
theorem LxL.c4s (h : LxL F s b p ts c w) : ∃ a n cap, w.cell? ⟨b, 4, none⟩ = some (.slice a n cap) := by
  obtain ⟨d, m, sa, tv, fv, tl, tc, fr, ln, ls, n1, n2, xs1, xs2, h⟩ := h
  obtain ⟨a, k, cap, rfl⟩ := own_slice h.own1
  exact ⟨a, k, cap, h.c4v⟩
/-- what a place's step says of the whole. -/
def Stp (s : ByteArray) (R : Bool) (q : Nat) : Prop := R = match cstep s q with | none => false | some z => clE s z
theorem Stp.go {R : Bool} {q z : Nat} (h : Stp s R q) (hz : cstep s q = some z) : clE s z = R := by
  unfold Stp at h
  rw [hz] at h
  exact h.symm
theorem Stp.no {R : Bool} {q : Nat} (h : Stp s R q) (hz : cstep s q = none) : R = false := by
  unfold Stp at h
  rw [hz] at h
  exact h
theorem cstep_lis (h : lisB (gb s p) = true) : cstep s p = some (p + 1) := by unfold cstep; rw [if_pos h]
theorem dig_not (x : Nat) (h : digB x = true) : lisB x = false ∧ (x = 48 ∨ x = 49 ∨ x = 50 ∨ x = 51 ∨ x = 52 ∨ x = 53 ∨ x = 54 ∨ x = 55 ∨ x = 56 ∨ x = 57) := by
  unfold digB nuB at h
  simp at h
  refine ⟨?_, by omega⟩
  unfold lisB
  simp
  omega
theorem lis_of (x : Nat) (h : lisB x = true) : x = 123 ∨ x = 125 ∨ x = 91 ∨ x = 93 ∨ x = 44 ∨ x = 46 ∨ x = 40 ∨ x = 41 ∨ x = 59 := by
  unfold lisB at h
  simp at h
  omega
theorem cstep_dig (h : digB (gb s p) = true) : cstep s p = numE s 0 p := by
  unfold cstep
  rw [if_neg (by rw [(dig_not _ h).1]; simp), if_pos h]
theorem cstep_dq (h : gb s p = 34) : cstep s p = strE s 34 (p + 1) := by
  unfold cstep
  rw [h]
  rfl
theorem cstep_sq (h : gb s p = 39) : cstep s p = strE s 39 (p + 1) := by
  unfold cstep
  rw [h]
  rfl
theorem cstep_at (h : gb s p = 64) : cstep s p = if gb s (p + 1) = 34 ∨ gb s (p + 1) = 39 then verbE s (gb s (p + 1)) (p + 2) else none := by
  unfold cstep
  rw [h]
  rfl
theorem cstep_let (h : letB (gb s p) = true) : cstep s p = some (scan s idB p) := by
  have h1 : lisB (gb s p) = false ∧ digB (gb s p) = false ∧ gb s p ≠ 34 ∧ gb s p ≠ 39 ∧ gb s p ≠ 64 := by
    unfold letB at h
    simp at h
    refine ⟨?_, ?_, by omega, by omega, by omega⟩
    · unfold lisB; simp; omega
    · unfold digB nuB; simp; omega
  unfold cstep
  rw [if_neg (by rw [h1.1]; simp), if_neg (by rw [h1.2.1]; simp), if_neg h1.2.2.1, if_neg h1.2.2.2.1, if_neg h1.2.2.2.2, if_pos h]
theorem cstep_rest (h1 : lisB (gb s p) = false) (h2 : digB (gb s p) = false) (h3 : gb s p ≠ 34) (h4 : gb s p ≠ 39) (h5 : gb s p ≠ 64) (h6 : letB (gb s p) = false) : cstep s p = if opB (gb s p) = true ∨ gb s p = 35 then symS s p else none := by
  unfold cstep
  rw [if_neg (by rw [h1]; simp), if_neg (by rw [h2]; simp), if_neg h3, if_neg h4, if_neg h5, if_neg (by rw [h6]; simp)]
/-- the runes that the switch asks for. -/
def swL : List Int := [123, 125, 91, 93, 44, 46, 40, 41, 59, 48, 49, 50, 51, 52, 53, 54, 55, 56, 57, 34, 39, 64]
theorem sw_not (r : Int) (h : ∀ x ∈ swL, r ≠ x) : (r == 123) = false ∧ (r == 125) = false ∧ (r == 91) = false ∧ (r == 93) = false ∧ (r == 44) = false ∧ (r == 46) = false ∧ (r == 40) = false ∧ (r == 41) = false ∧ (r == 59) = false ∧ (r == 48) = false ∧ (r == 49) = false ∧ (r == 50) = false ∧ (r == 51) = false ∧ (r == 52) = false ∧ (r == 53) = false ∧ (r == 54) = false ∧ (r == 55) = false ∧ (r == 56) = false ∧ (r == 57) = false ∧ (r == 34) = false ∧ (r == 39) = false ∧ (r == 64) = false := by
  refine ⟨?_, ?_, ?_, ?_, ?_, ?_, ?_, ?_, ?_, ?_, ?_, ?_, ?_, ?_, ?_, ?_, ?_, ?_, ?_, ?_, ?_, ?_⟩
  all_goals exact beq_eq_false_iff_ne.2 (h _ (by decide))
theorem sw_of (s : ByteArray) (q : Nat) (h1 : lisB (gb s q) = false) (h2 : digB (gb s q) = false) (h3 : gb s q ≠ 34) (h4 : gb s q ≠ 39) (h5 : gb s q ≠ 64) : ∀ x ∈ swL, pk s q ≠ x := by
  intro x hx e
  have hn : ∃ n : Nat, x = (n : Int) ∧ n < 128 ∧ (lisB n = true ∨ digB n = true ∨ n = 34 ∨ n = 39 ∨ n = 64) := by
    unfold swL at hx
    simp only [List.mem_cons, List.not_mem_nil, or_false] at hx
    rcases hx with rfl | rfl | rfl | rfl | rfl | rfl | rfl | rfl | rfl | rfl | rfl | rfl | rfl | rfl | rfl | rfl | rfl | rfl | rfl | rfl | rfl | rfl
    · exact ⟨123, rfl, by omega, Or.inl rfl⟩
    · exact ⟨125, rfl, by omega, Or.inl rfl⟩
    · exact ⟨91, rfl, by omega, Or.inl rfl⟩
    · exact ⟨93, rfl, by omega, Or.inl rfl⟩
    · exact ⟨44, rfl, by omega, Or.inl rfl⟩
    · exact ⟨46, rfl, by omega, Or.inl rfl⟩
    · exact ⟨40, rfl, by omega, Or.inl rfl⟩
    · exact ⟨41, rfl, by omega, Or.inl rfl⟩
    · exact ⟨59, rfl, by omega, Or.inl rfl⟩
    · exact ⟨48, rfl, by omega, Or.inr (Or.inl rfl)⟩
    · exact ⟨49, rfl, by omega, Or.inr (Or.inl rfl)⟩
    · exact ⟨50, rfl, by omega, Or.inr (Or.inl rfl)⟩
    · exact ⟨51, rfl, by omega, Or.inr (Or.inl rfl)⟩
    · exact ⟨52, rfl, by omega, Or.inr (Or.inl rfl)⟩
    · exact ⟨53, rfl, by omega, Or.inr (Or.inl rfl)⟩
    · exact ⟨54, rfl, by omega, Or.inr (Or.inl rfl)⟩
    · exact ⟨55, rfl, by omega, Or.inr (Or.inl rfl)⟩
    · exact ⟨56, rfl, by omega, Or.inr (Or.inl rfl)⟩
    · exact ⟨57, rfl, by omega, Or.inr (Or.inl rfl)⟩
    · exact ⟨34, rfl, by omega, Or.inr (Or.inr (Or.inl rfl))⟩
    · exact ⟨39, rfl, by omega, Or.inr (Or.inr (Or.inr (Or.inl rfl)))⟩
    · exact ⟨64, rfl, by omega, Or.inr (Or.inr (Or.inr (Or.inr rfl)))⟩
  obtain ⟨n, rfl, hn, hc⟩ := hn
  have hg := ((pk_eq s q n hn).1 e).2
  rcases hc with hc | hc | hc | hc | hc
  · rw [hg, hc] at h1; cases h1
  · rw [hg, hc] at h2; cases h2
  · exact h3 (by omega)
  · exact h4 (by omega)
  · exact h5 (by omega)
theorem info21 : (Tryz.prog.info? 21).map (fun i => (i.zero, i.size, i.bytes)) = some (some (.int .i32 0), 1, 4) := by kernel_rfl
def RunesOf (xs : List Value) : Prop := ∃ l : List Int, xs = l.map (Value.int .i32)
theorem RunesOf.add {xs : List Value} {r : Int} (h : RunesOf xs) : RunesOf (xs ++ [.int .i32 r]) := by
  obtain ⟨l, rfl⟩ := h
  exact ⟨l ++ [r], by simp⟩
theorem conv_runes {G n : Nat} {v : Value} {xs : List Value} {w : World} (h : w.ownsRow G 21 1 v n xs) (hx : RunesOf xs) : ∃ t : ByteArray, (convert 38 9 v).run Tryz.prog w = .ok (.string t) w := by
  obtain ⟨l, rfl⟩ := hx
  rcases h.2 with ⟨rfl, _⟩ | ⟨g, cap, cur, rfl, hbg, hg, hcap, hcm, hcs, htk⟩
  · exact ⟨_, run_convert_runes_nil w 38 9 21 0 0 Tryz.u38 Tryz.u21 Tryz.u9⟩
  · have hln : l.length = n := by have := h.1; simpa using this
    refine ⟨_, run_convert_runes w 38 9 21 ⟨g, 0, none⟩ n cap l (by omega) Tryz.u38 Tryz.u21 Tryz.u9 (fun j hj => ?_)⟩
    rw [show (⟨g, 0, none⟩ : Addr).add j = ⟨g, j, none⟩ by unfold Addr.add; split <;> simp_all, blk_cell hg]
    have h2 : (cur.toList.take (n * 1))[j]? = (l.map (Value.int .i32))[j]? := by rw [htk]
    rw [List.getElem?_take, if_pos (by omega)] at h2
    simp at h2
    simp [h2, List.getD, hj]
/-- an append to a row of runes leaves the lexer. -/
theorem LxL.grew {G n : Nat} {v : Value} {xs : List Value} {w' : World} (h : LxL F s b p ts c w) (hr : w.ownsRow G 21 1 v n xs) (hg : w.grownBy w' v.ownBlock) (hG : 2 ≤ G) : LxL F s b p ts c w' := by
  obtain ⟨d, m, sa, tv, fv, tl, tc, fr, ln, ls, n1, n2, xs1, xs2, h⟩ := h
  have hne : ∀ (j : Nat) (o : Obj), w.heap[j]? = some o → (∀ cur, o ≠ Obj.cells cur 21 (0, 0)) → w'.heap[j]? = some o := fun j o hj ho => by
    rw [hg.block j (blk_lt hj) (fun e => ?_)]
    · exact hj
    · obtain ⟨cur, hc⟩ := own_kind hr j e.symm
      rw [hc] at hj
      exact ho cur (Option.some.inj hj).symm
  have hown : ∀ {e size : Nat} {u : Value} {k : Nat} {ys : List Value}, e ≠ 21 → w.ownsRow (b + 1) e size u k ys → w'.ownsRow (b + 1) e size u k ys := fun he ho => by
    obtain ⟨h1, h2⟩ := ho
    refine ⟨h1, ?_⟩
    rcases h2 with h2 | ⟨g, cap, cur, hv, hbg, hg2, hr2⟩
    · exact .inl h2
    · exact .inr ⟨g, cap, cur, hv, hbg, hne g _ hg2 (fun cur' e => by injection e with e1 e2 e3; exact he e2), hr2⟩
  have h01 : ∀ k, k < 2 → w'.heap[k]? = w.heap[k]? := fun k hk => hg.block k (by have := h.lt; have := h.lo; omega) (fun e => by have := (ownBlock_ge hr k e.symm).1; omega)
  refine ⟨d, m, sa, tv, fv, tl, tc, fr, ln, ls, n1, n2, xs1, xs2, ⟨hne b _ h.blk (fun cur e => by injection e with e1 e2 e3; cases e2), hown (by decide) h.own1, hown (by decide) h.own2, h.apart, h.len1, h.len2, h.tsp, h.lep, h.kind, by rw [hg.tape]; exact h.ans, ?_, h.lo⟩⟩
  obtain ⟨t1, t2⟩ := h.tabs
  have e0 : ∀ k, w'.cell? ⟨0, k, none⟩ = w.cell? ⟨0, k, none⟩ := fun k => World.cell?_of_block (h01 0 (by omega))
  have e1 : ∀ k, w'.cell? ⟨1, k, none⟩ = w.cell? ⟨1, k, none⟩ := fun k => World.cell?_of_block (h01 1 (by omega))
  refine ⟨fun c hc => by rw [e0]; exact t1 c hc, fun i hi => ?_⟩
  rw [e1, e1]
  exact t2 i hi
/-- the lexer beside a row of runes and the place where its token began. -/
structure Rx (F : Interp) (s : ByteArray) (b p ts c G g0 : Nat) (tl tc : Int) (v : Value) (n : Nat) (w w' : World) : Prop where
  lb : LB F s b p ts c w w'
  ow : ∃ xs, w'.ownsRow G 21 1 v n xs ∧ RunesOf xs
  lo : w'.heap[g0]? = some (.cells (locC tl tc) 56 (0, 0))
section
variable {G g0 n : Nat} {tl tc : Int} {v : Value} {w1 w2 : World}
theorem Rx.on (h : Rx F s b p ts c G g0 tl tc v n w w1) (hb : Below w1.heap.size w1 w2) : Rx F s b p ts c G g0 tl tc v n w w2 := by
  obtain ⟨xs, h1, h2⟩ := h.ow
  exact ⟨h.lb.on hb, ⟨xs, row_keep h1 (fun g _ hl => hb.block g hl), h2⟩, loc_keep h.lo hb⟩
theorem Rx.nx {p' ts' c' : Nat} (h : Rx F s b p ts c G g0 tl tc v n w w1) (hl : LxL F s b p' ts' c' w2) (hb : Below b w1 w2) (hg : w1.grownBy w2 (some b)) (h1 : b < G) (h2 : b < g0) : Rx F s b p' ts' c' G g0 tl tc v n w w2 := by
  obtain ⟨xs, h3, h4⟩ := h.ow
  exact ⟨h.lb.to hl hb, ⟨xs, row_keep h3 (fun g hg' hl' => hg.block g hl' (by simp; have := (ownBlock_ge h3 g hg').1; omega)), h4⟩, loc_only h.lo hg h2⟩
theorem Rx.app {v' : Value} {n' : Nat} {r : Int} {xs : List Value} (h : Rx F s b p ts c G g0 tl tc v n w w1) (h3 : w1.ownsRow G 21 1 v n xs) (h4 : RunesOf xs) (hg : w1.grownBy w2 v.ownBlock) (ho : w2.ownsRow G 21 1 v' n' (xs ++ [.int .i32 r])) (h2 : 2 ≤ G) (hbG : b < G) : Rx F s b p ts c G g0 tl tc v' n' w w2 := by
  refine ⟨⟨h.lb.lx.grew h3 hg h2, h.lb.be.trans (grown_below hg (fun g hg' => by have := (ownBlock_ge h3 g hg').1; omega) (Nat.le_of_lt h.lb.lx.lt))⟩, ⟨_, ho, h4.add⟩, ?_⟩
  rw [hg.block g0 (blk_lt h.lo) (fun e => ?_)]
  · exact h.lo
  · obtain ⟨cur, hc⟩ := own_kind h3 g0 e.symm
    have this := h.lo
    rw [hc] at this
    injection this with e1
    injection e1 with e2 e3 e4
    cases e3
end
def fr8 (b : Nat) (g : Nat → Value) : Act := ⟨#[g 0, g 1, g 2, g 3, g 4, g 5, g 6, g 7, .pointer (some ⟨b, 0, none⟩), g 9, g 10, g 11, g 12, g 13, g 14, g 15, g 16, g 17, g 18, g 19, g 20, g 21, g 22, g 23, g 24, g 25, g 26, g 27, g 28, g 29, g 30, g 31, g 32, g 33, g 34, g 35, g 36, g 37, g 38, g 39, g 40, g 41, g 42, g 43, g 44, g 45, g 46, g 47, g 48, g 49, g 50, g 51, g 52, g 53, g 54, g 55, g 56, g 57, g 58, g 59, g 60, g 61, g 62, g 63, g 64, g 65, g 66, g 67, g 68, g 69, g 70, g 71, g 72, g 73, g 74, g 75, g 76, g 77, g 78, g 79, g 80, g 81, g 82, g 83, g 84, g 85, g 86, g 87, g 88, g 89, g 90, g 91, g 92, g 93, g 94, g 95, g 96, g 97, g 98, g 99, g 100, g 101, g 102, g 103, g 104, g 105, g 106, g 107, g 108, g 109, g 110, g 111, g 112, g 113, g 114, g 115, g 116, g 117, g 118, g 119, g 120, g 121, g 122, g 123, g 124, g 125, g 126, g 127, g 128, g 129, g 130, g 131, g 132, g 133, g 134, g 135, g 136, g 137, g 138, g 139, g 140, g 141, g 142, g 143, g 144, g 145, g 146, g 147, g 148, g 149, g 150, g 151, g 152, g 153, g 154, g 155, g 156, g 157, g 158, g 159, g 160, g 161, g 162, g 163, g 164, g 165, g 166, g 167, g 168, g 169, g 170, g 171, g 172, g 173, g 174, g 175, g 176, g 177, g 178, g 179, g 180, g 181, g 182, g 183, g 184, g 185, g 186, g 187, g 188, g 189, g 190, g 191, g 192, g 193, g 194, g 195, g 196, g 197, g 198, g 199, g 200, g 201, g 202, g 203, g 204, g 205, g 206, g 207, g 208, g 209, g 210, g 211, g 212, g 213, g 214, g 215, g 216, g 217, g 218, g 219, g 220, g 221, g 222, g 223, g 224, g 225, g 226, g 227, g 228, g 229, g 230, g 231, g 232, g 233, g 234, g 235, g 236, g 237, g 238, g 239, g 240, g 241, g 242, g 243, g 244, g 245, g 246, g 247, g 248, g 249, g 250, g 251, g 252, g 253, g 254, g 255, g 256, g 257, g 258, g 259, g 260, g 261, g 262, g 263, g 264, g 265, g 266, g 267, g 268, g 269, g 270, g 271, g 272, g 273, g 274, g 275, g 276, g 277, g 278, g 279, g 280, g 281, g 282, g 283, g 284, g 285, g 286, g 287, g 288, g 289, g 290, g 291, g 292, g 293], []⟩
def Inv8 (F : Interp) (s : ByteArray) (b : Nat) (R : Bool) (w0 : World) (k : Nat) (a : Act) (wr : World) : Prop := (∃ g : Nat → Value, a = fr8 b g) ∧ ∃ (j ts c : Nat), j ≤ s.size ∧ s.size - j < k ∧ c ≤ 3 * j ∧ Hid (clE s j = R) ∧ LB F s b j ts c w0 wr
theorem inv8_mk {R : Bool} {w0 wr : World} {k : Nat} {t : List Value} (h : (⟨t.toArray, []⟩ : Act) = fr8 b (fun i => t.getD i (.bool false))) (hr : ∃ (j ts c : Nat), j ≤ s.size ∧ s.size - j < k ∧ c ≤ 3 * j ∧ Hid (clE s j = R) ∧ LB F s b j ts c w0 wr) : Inv8 F s b R w0 k ⟨t.toArray, []⟩ wr := ⟨⟨_, h⟩, hr⟩
set_option maxRecDepth 100000 in
set_option maxHeartbeats 32000000 in
theorem lex_lx (F : Interp) (d m s : ByteArray) (w : World) (hs : s.size ≤ 2000) (hF : F.answers w.tape) (hT : Lib.Utf8Tabs 0 1 w) (h2 : 2 ≤ w.heap.size) :
    Calls Tryz.prog 8 #[.string d, .string m, .string s] w fun e w' => LexPost (clE s 0) w e w' := by
  obtain ⟨R, hR⟩ : ∃ R, clE s 0 = R := ⟨_, rfl⟩
  rw [hR]
  have HR := Lib.hid hR
  clear hR
  have hal21 := info_parts info21
  obtain ⟨i0, hi0, hz0, hz1, hz2⟩ := hal21
  go_enter Tryz.func8, Tryz.ntmps8
  go_wp2_with (go_at_call 24; refine (make_any F d m s w hs hF hT h2).mono ?_; rintro e w0 ⟨⟨b, rfl, hL0, hwb⟩, hb0⟩)
  have hW : Below w.heap.size w w0 := hb0
  have hbig : 2 ≤ w0.heap.size := Nat.le_trans h2 hb0.size
  clear hb0 hT hF
  refine wp_loop_ghost_k (Inv8 F s b R w0) (s.size + 1) ?atStart ?round
  case atStart => exact inv8_mk (by kernel_rfl) ⟨0, 0, 0, Nat.zero_le _, by omega, Nat.le_refl _, HR, LB.refl hL0⟩
  case round =>
    intro gk _ wr hinv
    clear hL0 HR
    obtain ⟨⟨g, rfl⟩, j, ts, c, hj, hk, hcj, HJ, hB⟩ := hinv
    intro _ _ _ _
    unfold fr8
    obtain ⟨k, rfl⟩ : ∃ m, gk = m + 1 := ⟨gk - 1, by omega⟩
    obtain ⟨q, hq⟩ : ∃ q, scan s wsB j = q := ⟨_, rfl⟩
    have hqb := scan_bounds s wsB j hj
    rw [hq] at hqb
    have HQ := Lib.hid hq
    have hcl := clE_step s j hj
    rw [hq, HJ.out] at hcl
    have HCL := Lib.hid hcl
    clear hq hcl
    by_cases hqs : q < s.size
    case neg =>
      have HRT : Hid (R = true) := Lib.hid (by rw [HCL.out, if_neg hqs])
      have HPE : Hid (pk s q = -1) := Lib.hid (pk_end s q hqs)
      have HNE : Hid (nx s q = q) := Lib.hid (by unfold nx; rw [if_neg hqs])
      as_aux_lemma =>
      go_wp2_with (first | (go_at_call 25; refine (white_any hB.lx hs).mono ?_; intro e w2 hws; unfold WsPost at hws; obtain ⟨⟨nl, ind, rfl, hnl⟩, hL2, hb2, hg2⟩ := hws; rw [HQ.out] at hL2 hnl; have hB2 := hB.to hL2 hb2) | (go_at_call 26; refine (peek_lx hB2.lx).mono ?_; rintro e w3 ⟨rfl, hb3⟩; rw [HPE.out]; have hB3 := hB2.on hb3) | (go_at_call 27; refine (next_any hB3.lx hs).mono ?_; intro e w4 hnx; unfold NxPost at hnx; obtain ⟨rfl, hL4, hb4, hg4⟩ := hnx; rw [HNE.out] at hL4; have hB4 := hB3.to hL4 hb4) | (go_at_call 28; refine (reset_any hB4.lx).mono ?_; rintro e w5 ⟨⟨v5, rfl⟩, hL5, hb5⟩; have hB5 := hB4.to hL5 hb5) | (go_at_call 30; refine (emit_any _ hB5.lx (by omega)).mono ?_; rintro e w6 ⟨⟨v6, rfl⟩, hL6, hb6⟩; have hB6 := hB5.to hL6 hb6; obtain ⟨ta, tn, tcap, ct⟩ := hL6.c4s))
      go_ret2
      exact lex_yes HRT.out (hW.trans (hB6.be.mono hwb))
    have HST : Hid (Stp s R q) := Lib.hid (by rw [if_pos hqs] at HCL; exact HCL.out)
    have hpe : pk s q ≠ -1 := fun e => by unfold pk at e; rw [if_pos hqs] at e; omega
    have hpe' : (pk s q == -1) = false := beq_eq_false_iff_ne.2 hpe
    go_upto_if 37 with (first | (go_at_call 25; refine (white_any hB.lx hs).mono ?_; intro e w2 hws; unfold WsPost at hws; obtain ⟨⟨nl, ind, rfl, hnl⟩, hL2, hb2, hg2⟩ := hws; rw [HQ.out] at hL2 hnl; have hB2 := hB.to hL2 hb2) | (go_at_call 26; refine (peek_lx hB2.lx).mono ?_; rintro e w3 ⟨rfl, hb3⟩; have hB3 := hB2.on hb3))
    clear hB hL2 hb2 hg2 hB2 hb3
    go_cut [12] from 36 to 44 (fun x wx => ∃ c1, c1 ≤ 3 * q ∧ LB F s b q ts c1 w0 wx)
    case first => as_aux_lemma =>
      by_cases hn0 : 0 < nl
      · go_wp2_with (go_at_call 29; refine (addFodder_any _ _ _ _ _ _ (hB3.alo _).lx (by unfold okF; omega) (by omega)).mono ?_; rintro e w4 ⟨⟨v4, rfl⟩, hL4, hb4⟩; have hB4 := (hB3.alo _).to hL4 hb4)
        go_meet
        exact ⟨c + 1, by omega, hB4⟩
      · have hn1 : decide (0 < nl) = false := by simpa using hn0
        go_wp2_with fail
        go_meet
        exact ⟨c, by omega, hB3⟩
    case rest =>
      clear hB3 hnl hcj HCL HJ
      obtain ⟨c1, hc1, hB⟩ := hcut
      generalize wc = w3 at *
      clear c
      go_upto_region 12 with (first | (go_at_call 28; refine (reset_any hB.lx).mono ?_; rintro e w4 ⟨⟨v4, rfl⟩, hL4, hb4⟩; have hB4 := hB.to hL4 hb4) | (go_at_call 26; refine (peek_lx hB4.lx).mono ?_; rintro e w5 ⟨rfl, hb5⟩; have hB5 := hB4.on hb5))
      clear hB hL4 hb4 hB4 hb5
      have hz5 : 2 ≤ w5.heap.size := hB5.size hbig
      obtain ⟨x, hx⟩ : ∃ x, gb s q = x := ⟨_, rfl⟩
      have HX := Lib.hid hx
      by_cases hlis : lisB x = true
      · as_aux_lemma =>
        have hxs := lis_of x hlis
        have hpk := pk_low s q hqs (by omega)
        have HNX : Hid (nx s q = q + 1) := Lib.hid (nx_low s q hqs (by omega))
        have HGO : Hid (clE s (q + 1) = R) := Lib.hid (HST.out.go (cstep_lis (by rw [hx]; exact hlis)))
        rw [hpk, hx]
        clear hpk hpe hpe' hx hlis
        rcases hxs with rfl | rfl | rfl | rfl | rfl | rfl | rfl | rfl | rfl
        all_goals (
          go_wp2_with (first | (go_at_call 27; refine (next_any hB5.lx hs).mono ?_; intro e w6 hnx; unfold NxPost at hnx; obtain ⟨rfl, hL, hb, hg⟩ := hnx; rw [HNX.out] at hL; have hB6 := hB5.to hL hb) | (go_at_call 30; refine (emit_any _ hB6.lx (by omega)).mono ?_; rintro e w7 ⟨⟨v7, rfl⟩, hL7, hb7⟩; have hB7 := hB6.to hL7 hb7))
          refine Handed.intro k (by omega) ?_
          go_step
          exact inv8_mk (by kernel_rfl) ⟨q + 1, _, c1 + 1, by omega, by omega, by omega, HGO, hB7⟩)
      have hlis' : lisB x = false := by simpa using hlis
      by_cases hdig : digB x = true
      · as_aux_lemma =>
        have hxs := (dig_not x hdig).2
        have hpk := pk_low s q hqs (by omega)
        have hcd := cstep_dig (s := s) (p := q) (by rw [hx]; exact hdig)
        have H31 := num_lx hB5.lx hs hz5 (by omega) hqs (by rw [hx]; exact hdig)
        have hx57 : 48 ≤ x ∧ x ≤ 57 := by omega
        have e123 : ((x : Int) == 123) = false := beq_eq_false_iff_ne.2 (by omega)
        have e125 : ((x : Int) == 125) = false := beq_eq_false_iff_ne.2 (by omega)
        have e91 : ((x : Int) == 91) = false := beq_eq_false_iff_ne.2 (by omega)
        have e93 : ((x : Int) == 93) = false := beq_eq_false_iff_ne.2 (by omega)
        have e44 : ((x : Int) == 44) = false := beq_eq_false_iff_ne.2 (by omega)
        have e46 : ((x : Int) == 46) = false := beq_eq_false_iff_ne.2 (by omega)
        have e40 : ((x : Int) == 40) = false := beq_eq_false_iff_ne.2 (by omega)
        have e41 : ((x : Int) == 41) = false := beq_eq_false_iff_ne.2 (by omega)
        have e59 : ((x : Int) == 59) = false := beq_eq_false_iff_ne.2 (by omega)
        rw [hpk, hx]
        have HRN : Hid (∀ z, numE s 0 q = some z → clE s z = R ∧ q < z ∧ z ≤ s.size) := Lib.hid (fun z hz => by
          have hzb := num_bounds s q z hqs (by rw [hx]; exact hdig) hz
          exact ⟨HST.out.go (by rw [hcd, hz]), hzb⟩)
        have HRN2 : Hid (numE s 0 q = none → R = false) := Lib.hid (fun hz => HST.out.no (by rw [hcd, hz]))
        clear hpk hpe hpe' hx hlis hdig hcd hlis'
        go_upto_if 128 with (fail)
        go_cut [128] from 129 to 138 (fun v wx => v = .bool true ∧ w5 = wx)
        case first => as_aux_lemma =>
          rcases hxs with rfl | rfl | rfl | rfl | rfl | rfl | rfl | rfl | rfl | rfl
          all_goals (
            go_wp2_with fail
            go_meet
            exact ⟨rfl, rfl⟩)
        case rest =>
          obtain ⟨rfl, rfl⟩ := hcut
          clear hxs hx57
          cases hnum : numE s 0 q with
          | some z =>
            have HGO := Lib.hid (HRN.out z hnum)
            have hzb := HGO.out.2
            rw [hnum] at H31
            clear hnum
            go_wp2_with (go_at_call 31; refine H31.mono ?_; intro e w6 hrd; obtain ⟨rfl, ⟨ts6, hL6⟩, hb6⟩ := rd_get_some hrd; have hB6 := hB5.to hL6 hb6)
            refine Handed.intro k (by omega) ?_
            go_step
            exact inv8_mk (by kernel_rfl) ⟨z, _, c1 + 1, by omega, by omega, by omega, Lib.hid HGO.out.1, hB6⟩
          | none =>
            have HNO := Lib.hid (HRN2.out hnum)
            rw [hnum] at H31
            clear hnum
            go_wp2_with (go_at_call 31; refine H31.mono ?_; intro e w6 hrd; obtain ⟨⟨v6, rfl⟩, hb6⟩ := rd_get_none hrd)
            go_ret2
            exact lex_no HNO.out (hW.trans ((hB5.be.trans hb6).mono hwb))
      have hdig' : digB x = false := by simpa using hdig
      by_cases h34 : x = 34
      · as_aux_lemma =>
        subst h34
        have hpk := pk_low s q hqs (by omega)
        have hlow := nx_low s q hqs (by omega)
        have HNX : Hid (nx s q = q + 1) := Lib.hid hlow
        have HST2 : Hid (cstep s q = strE s 34 (q + 1)) := Lib.hid (cstep_dq hx)
        rw [hpk, hx]
        clear hpk hpe hpe' hx hlis hdig hlis' hdig' hlow HX
        go_upto_region 62 with (go_at_call 32; refine (location_any hB5.lx).mono ?_; rintro e w6 ⟨⟨tl, tc, rfl⟩, hb6⟩; have hB6 := hB5.on hb6)
        obtain ⟨g0, hg0⟩ : ∃ g, w6.heap.size = g := ⟨_, rfl⟩
        have hloc : (w6.alloc (.cells (locC tl tc) 56)).heap[g0]? = some (.cells (locC tl tc) 56 (0, 0)) := by rw [← hg0]; exact heap_alloc_new w6 _
        have hbg : b < g0 := by have := hB6.lx.lt; omega
        have hB7 := hB6.alo (.cells (locC tl tc) 56)
        rw [hg0]
        clear hg0 hB6 hB5 hb6 hz5
        generalize w6.alloc (.cells (locC tl tc) 56) = w7 at *
        go_upto_region 63 with (go_at_call 27; refine (next_any hB7.lx hs).mono ?_; intro e w8 hnx; unfold NxPost at hnx; obtain ⟨rfl, hL8, hb8, hg8⟩ := hnx; rw [HNX.out] at hL8; have hB8 := hB7.to hL8 hb8; have hloc8 := loc_only hloc hg8 hbg)
        go_wp2_with (go_at_call 27; refine (next_any hB8.lx hs).mono ?_; intro e w9 hnx; unfold NxPost at hnx; obtain ⟨rfl, hL9, hb9, hg9⟩ := hnx; have hB9 := hB8.to hL9 hb9; have hloc9 := loc_only hloc8 hg9 hbg)
        clear hB7 hloc hL8 hb8 hg8 hB8 hloc8 hL9 hb9 hg9
        go_loopg [13] (s.size + 1) (fun kk r wr => ∃ i : Nat, r = .int .i32 (pk s i) ∧ q + 1 ≤ i ∧ i ≤ s.size ∧ s.size - i < kk ∧ Hid (strE s 34 i = strE s 34 (q + 1)) ∧ LB F s b (nx s i) q c1 w0 wr ∧ wr.heap[g0]? = some (.cells (locC tl tc) 56 (0, 0)))
        case atStart => exact ⟨q + 1, rfl, Nat.le_refl _, by omega, by omega, Lib.hid rfl, hB9, hloc9⟩
        case round =>
          clear hB9 hloc9
          obtain ⟨i, rfl, hqi, hi, hkk, HS, hB, hloc⟩ := hrel
          obtain ⟨kk, rfl⟩ : ∃ m, gk = m + 1 := ⟨gk - 1, by omega⟩
          by_cases hlt : i < s.size
          case neg =>
            have HNO : Hid (R = false) := Lib.hid (HST.out.no (by rw [HST2.out, ← HS.out]; exact strE_end s 34 i hlt))
            rw [pk_end s i hlt]
            have k0 := blk_cell hloc 0
            have k1 := blk_cell hloc 1
            simp at k0 k1
            go_wp2_with (go_at_call 33; refine (err_any _ _ _ hB.lx).mono ?_; rintro e wa ⟨⟨va, rfl⟩, hba⟩; have hBa := hB.on hba)
            go_ret2
            exact lex_no HNO.out (hW.trans (hBa.be.mono hwb))
          have hn := nx_lt s i hlt
          have tA : (pk s i == -1) = false := beq_eq_false_iff_ne.2 (fun e => by unfold pk at e; rw [if_pos hlt] at e; omega)
          by_cases hQ : gb s i = 34
          · have HGO : Hid (clE s (i + 1) = R) := Lib.hid (HST.out.go (by rw [HST2.out, ← HS.out, strE_step s 34 i hlt, if_pos hQ]))
            have hpi : pk s i = 34 := (pk_eq s i 34 (by omega)).2 ⟨hlt, hQ⟩
            have hni := nx_low s i hlt (by omega)
            rw [hni] at hB
            rw [hpi]
            clear hpi hni tA hQ hn
            go_wp2_with fail
            have hd : Below wr.heap.size wr wr.drew := below_drewN (Below.refl _ wr) 1
            have hBd := hB.on hd
            have S0 : wr.drew.cell? ⟨b, 2, none⟩ = some (.string s) ∧ wr.drew.cell? ⟨b, 6, none⟩ = some (.int .i64 q) ∧ wr.drew.cell? ⟨b, 10, none⟩ = some (.int .i64 ((i + 1 : Nat) : Int)) := ⟨hBd.lx.c2, hBd.lx.c6, hBd.lx.c10⟩
            have q0 : (0 : Int) ≤ ((q + 1 : Nat) : Int) := by omega
            have q1 : ((q + 1 : Nat) : Int) ≤ (i : Int) := by omega
            have q2 : (i : Int) ≤ (s.size : Int) := by omega
            have q3 : (0 : Int) ≤ (q : Int) + 1 := by omega
            have q4 : (q : Int) + 1 ≤ (i : Int) := by omega
            have q5 : ((q : Int) + 1).toNat = q + 1 := by omega
            have hw1 : IntKind.i64.wrap ((q : Int) + 1) = (q : Int) + 1 := IntWalk.i64_in _ (by omega)
            have hw3 : IntKind.i64.wrap ((i : Int) + 1 - 1) = (i : Int) := by rw [IntWalk.i64_in _ (by omega)]; omega
            have hw2 : IntKind.i64.wrap (((i + 1 : Nat) : Int) - 1) = (i : Int) := by rw [IntWalk.i64_in _ (by omega)]; omega
            have hw4 : IntKind.i64.wrap (i : Int) = (i : Int) := IntWalk.i64_in _ (by omega)
            have HE := emitFull_any 14 (s.extract (q + 1) i) ⟨#[]⟩ ⟨#[]⟩ hBd.lx (by omega)
            go_region_held_law (fun w' => w'.cell? ⟨b, 2, none⟩ = some (.string s) ∧ w'.cell? ⟨b, 6, none⟩ = some (.int .i64 q) ∧ w'.cell? ⟨b, 10, none⟩ = some (.int .i64 ((i + 1 : Nat) : Int))) (first | exact S0 | exact S1) (first | (go_simp; go_at_call 34; refine HE.mono ?_; rintro e wa ⟨⟨va, rfl⟩, hLa, hba⟩; have hBa := hBd.to hLa hba; have S1 := And.intro hLa.c2 (And.intro hLa.c6 hLa.c10)))
            all_goals (
              clear hw1 hw2 hw3 hw4 q0 q1 q2 q3 q4 q5 S0 HE
              go_wp2_with (go_at_call 28; refine (reset_any hBa.lx).mono ?_; rintro e wb ⟨⟨vb, rfl⟩, hLb, hbb⟩; have hBb := hBa.to hLb hbb)
              refine Handed.intro k (by omega) ?_
              go_step
              exact inv8_mk (by kernel_rfl) ⟨i + 1, _, c1 + 1, by omega, by omega, by omega, HGO, hBb⟩)
          have tQ : (pk s i == 34) = false := beq_eq_false_iff_ne.2 (fun e => hQ ((pk_eq s i 34 (by omega)).1 e).2)
          by_cases h92 : gb s i = 92
          · have hpi : pk s i = 92 := (pk_eq s i 92 (by omega)).2 ⟨hlt, h92⟩
            have hni := nx_low s i hlt (by omega)
            rw [hni] at hB
            rw [hpi]
            by_cases hlt2 : i + 1 < s.size
            · have HS1 : Hid (strE s 34 (nx s (i + 1)) = strE s 34 (q + 1)) := Lib.hid (by rw [← HS.out]; exact (strE_esc s 34 i (by omega) hlt2 hQ h92).symm)
              have hn2 := nx_lt s (i + 1) hlt2
              have tE : (pk s (i + 1) != -1) = true := by
                have : pk s (i + 1) ≠ -1 := fun e => by unfold pk at e; rw [if_pos hlt2] at e; omega
                simpa using this
              obtain ⟨r1, hr1⟩ : ∃ y, pk s (i + 1) = y := ⟨_, rfl⟩
              rw [hr1] at tE
              have HR1 := Lib.hid hr1
              clear hpi hni tA tQ hQ h92 hn hr1
              go_wp2_with (first | (go_at_call 26; refine (peek_lx hB.lx).mono ?_; rintro e wa ⟨rfl, hba⟩; rw [HR1.out]; have hBa := hB.on hba; have hloca := loc_keep hloc hba) | (go_at_call 27; refine (next_any hBb.lx hs).mono ?_; intro e wc hnx; unfold NxPost at hnx; obtain ⟨rfl, hLc, hbc, hgc⟩ := hnx; have hBc := hBb.to hLc hbc; have hlocc := loc_only hlocb hgc hbg) | (go_at_call 27; refine (next_any hBa.lx hs).mono ?_; intro e wb hnx; unfold NxPost at hnx; obtain ⟨rfl, hLb, hbb, hgb⟩ := hnx; have hBb := hBa.to hLb hbb; have hlocb := loc_only hloca hgb hbg))
              go_roundg kk
              case measure => omega
              case rel => exact ⟨nx s (i + 1), rfl, by omega, by omega, by omega, HS1, hBc, hlocc⟩
            · have HS1 : Hid (strE s 34 (i + 1) = strE s 34 (q + 1)) := Lib.hid (by rw [← HS.out, strE_last s 34 i (by omega) hQ]; exact strE_end s 34 (i + 1) hlt2)
              have HPE : Hid (pk s (i + 1) = -1) := Lib.hid (pk_end s (i + 1) hlt2)
              clear hpi hni tA tQ hQ h92 hn
              go_wp2_with (first | (go_at_call 26; refine (peek_lx hB.lx).mono ?_; rintro e wa ⟨rfl, hba⟩; rw [HPE.out]; have hBa := hB.on hba; have hloca := loc_keep hloc hba) | (go_at_call 27; refine (next_any hBa.lx hs).mono ?_; intro e wb hnx; unfold NxPost at hnx; obtain ⟨rfl, hLb, hbb, hgb⟩ := hnx; have hBb := hBa.to hLb hbb; have hlocb := loc_only hloca hgb hbg))
              go_roundg kk
              case measure => omega
              case rel => exact ⟨i + 1, rfl, by omega, by omega, by omega, HS1, hBb, hlocb⟩
          have HS1 : Hid (strE s 34 (nx s i) = strE s 34 (q + 1)) := Lib.hid (by rw [← HS.out]; exact (strE_nx s 34 i (by omega) hlt hQ h92).symm)
          have t92 : (pk s i == 92) = false := beq_eq_false_iff_ne.2 (fun e => h92 ((pk_eq s i 92 (by omega)).1 e).2)
          obtain ⟨r, hr⟩ : ∃ y, pk s i = y := ⟨_, rfl⟩
          rw [hr] at tA tQ t92
          rw [hr]
          clear hQ h92 hr
          go_wp2_with (go_at_call 27; refine (next_any hB.lx hs).mono ?_; intro e wb hnx; unfold NxPost at hnx; obtain ⟨rfl, hLb, hbb, hgb⟩ := hnx; have hBb := hB.to hLb hbb; have hlocb := loc_only hloc hgb hbg)
          go_roundg kk
          case measure => omega
          case rel => exact ⟨nx s i, rfl, by omega, by omega, by omega, HS1, hBb, hlocb⟩
      by_cases h39 : x = 39
      · as_aux_lemma =>
        subst h39
        have hpk := pk_low s q hqs (by omega)
        have hlow := nx_low s q hqs (by omega)
        have HNX : Hid (nx s q = q + 1) := Lib.hid hlow
        have HST2 : Hid (cstep s q = strE s 39 (q + 1)) := Lib.hid (cstep_sq hx)
        rw [hpk, hx]
        clear hpk hpe hpe' hx hlis hdig hlis' hdig' hlow HX
        go_upto_region 74 with (go_at_call 32; refine (location_any hB5.lx).mono ?_; rintro e w6 ⟨⟨tl, tc, rfl⟩, hb6⟩; have hB6 := hB5.on hb6)
        obtain ⟨g0, hg0⟩ : ∃ g, w6.heap.size = g := ⟨_, rfl⟩
        have hloc : (w6.alloc (.cells (locC tl tc) 56)).heap[g0]? = some (.cells (locC tl tc) 56 (0, 0)) := by rw [← hg0]; exact heap_alloc_new w6 _
        have hbg : b < g0 := by have := hB6.lx.lt; omega
        have hB7 := hB6.alo (.cells (locC tl tc) 56)
        rw [hg0]
        clear hg0 hB6 hB5 hb6 hz5
        generalize w6.alloc (.cells (locC tl tc) 56) = w7 at *
        go_upto_region 75 with (go_at_call 27; refine (next_any hB7.lx hs).mono ?_; intro e w8 hnx; unfold NxPost at hnx; obtain ⟨rfl, hL8, hb8, hg8⟩ := hnx; rw [HNX.out] at hL8; have hB8 := hB7.to hL8 hb8; have hloc8 := loc_only hloc hg8 hbg)
        go_wp2_with (go_at_call 27; refine (next_any hB8.lx hs).mono ?_; intro e w9 hnx; unfold NxPost at hnx; obtain ⟨rfl, hL9, hb9, hg9⟩ := hnx; have hB9 := hB8.to hL9 hb9; have hloc9 := loc_only hloc8 hg9 hbg)
        clear hB7 hloc hL8 hb8 hg8 hB8 hloc8 hL9 hb9 hg9
        go_loopg [13] (s.size + 1) (fun kk r wr => ∃ i : Nat, r = .int .i32 (pk s i) ∧ q + 1 ≤ i ∧ i ≤ s.size ∧ s.size - i < kk ∧ Hid (strE s 39 i = strE s 39 (q + 1)) ∧ LB F s b (nx s i) q c1 w0 wr ∧ wr.heap[g0]? = some (.cells (locC tl tc) 56 (0, 0)))
        case atStart => exact ⟨q + 1, rfl, Nat.le_refl _, by omega, by omega, Lib.hid rfl, hB9, hloc9⟩
        case round =>
          clear hB9 hloc9
          obtain ⟨i, rfl, hqi, hi, hkk, HS, hB, hloc⟩ := hrel
          obtain ⟨kk, rfl⟩ : ∃ m, gk = m + 1 := ⟨gk - 1, by omega⟩
          by_cases hlt : i < s.size
          case neg =>
            have HNO : Hid (R = false) := Lib.hid (HST.out.no (by rw [HST2.out, ← HS.out]; exact strE_end s 39 i hlt))
            rw [pk_end s i hlt]
            have k0 := blk_cell hloc 0
            have k1 := blk_cell hloc 1
            simp at k0 k1
            go_wp2_with (go_at_call 33; refine (err_any _ _ _ hB.lx).mono ?_; rintro e wa ⟨⟨va, rfl⟩, hba⟩; have hBa := hB.on hba)
            go_ret2
            exact lex_no HNO.out (hW.trans (hBa.be.mono hwb))
          have hn := nx_lt s i hlt
          have tA : (pk s i == -1) = false := beq_eq_false_iff_ne.2 (fun e => by unfold pk at e; rw [if_pos hlt] at e; omega)
          by_cases hQ : gb s i = 39
          · have HGO : Hid (clE s (i + 1) = R) := Lib.hid (HST.out.go (by rw [HST2.out, ← HS.out, strE_step s 39 i hlt, if_pos hQ]))
            have hpi : pk s i = 39 := (pk_eq s i 39 (by omega)).2 ⟨hlt, hQ⟩
            have hni := nx_low s i hlt (by omega)
            rw [hni] at hB
            rw [hpi]
            clear hpi hni tA hQ hn
            go_wp2_with fail
            have hd : Below wr.heap.size wr wr.drew := below_drewN (Below.refl _ wr) 1
            have hBd := hB.on hd
            have S0 : wr.drew.cell? ⟨b, 2, none⟩ = some (.string s) ∧ wr.drew.cell? ⟨b, 6, none⟩ = some (.int .i64 q) ∧ wr.drew.cell? ⟨b, 10, none⟩ = some (.int .i64 ((i + 1 : Nat) : Int)) := ⟨hBd.lx.c2, hBd.lx.c6, hBd.lx.c10⟩
            have q0 : (0 : Int) ≤ ((q + 1 : Nat) : Int) := by omega
            have q1 : ((q + 1 : Nat) : Int) ≤ (i : Int) := by omega
            have q2 : (i : Int) ≤ (s.size : Int) := by omega
            have q3 : (0 : Int) ≤ (q : Int) + 1 := by omega
            have q4 : (q : Int) + 1 ≤ (i : Int) := by omega
            have q5 : ((q : Int) + 1).toNat = q + 1 := by omega
            have hw1 : IntKind.i64.wrap ((q : Int) + 1) = (q : Int) + 1 := IntWalk.i64_in _ (by omega)
            have hw3 : IntKind.i64.wrap ((i : Int) + 1 - 1) = (i : Int) := by rw [IntWalk.i64_in _ (by omega)]; omega
            have hw2 : IntKind.i64.wrap (((i + 1 : Nat) : Int) - 1) = (i : Int) := by rw [IntWalk.i64_in _ (by omega)]; omega
            have hw4 : IntKind.i64.wrap (i : Int) = (i : Int) := IntWalk.i64_in _ (by omega)
            have HE := emitFull_any 15 (s.extract (q + 1) i) ⟨#[]⟩ ⟨#[]⟩ hBd.lx (by omega)
            go_region_held_law (fun w' => w'.cell? ⟨b, 2, none⟩ = some (.string s) ∧ w'.cell? ⟨b, 6, none⟩ = some (.int .i64 q) ∧ w'.cell? ⟨b, 10, none⟩ = some (.int .i64 ((i + 1 : Nat) : Int))) (first | exact S0 | exact S1) (first | (go_simp; go_at_call 34; refine HE.mono ?_; rintro e wa ⟨⟨va, rfl⟩, hLa, hba⟩; have hBa := hBd.to hLa hba; have S1 := And.intro hLa.c2 (And.intro hLa.c6 hLa.c10)))
            all_goals (
              clear hw1 hw2 hw3 hw4 q0 q1 q2 q3 q4 q5 S0 HE
              go_wp2_with (go_at_call 28; refine (reset_any hBa.lx).mono ?_; rintro e wb ⟨⟨vb, rfl⟩, hLb, hbb⟩; have hBb := hBa.to hLb hbb)
              refine Handed.intro k (by omega) ?_
              go_step
              exact inv8_mk (by kernel_rfl) ⟨i + 1, _, c1 + 1, by omega, by omega, by omega, HGO, hBb⟩)
          have tQ : (pk s i == 39) = false := beq_eq_false_iff_ne.2 (fun e => hQ ((pk_eq s i 39 (by omega)).1 e).2)
          by_cases h92 : gb s i = 92
          · have hpi : pk s i = 92 := (pk_eq s i 92 (by omega)).2 ⟨hlt, h92⟩
            have hni := nx_low s i hlt (by omega)
            rw [hni] at hB
            rw [hpi]
            by_cases hlt2 : i + 1 < s.size
            · have HS1 : Hid (strE s 39 (nx s (i + 1)) = strE s 39 (q + 1)) := Lib.hid (by rw [← HS.out]; exact (strE_esc s 39 i (by omega) hlt2 hQ h92).symm)
              have hn2 := nx_lt s (i + 1) hlt2
              have tE : (pk s (i + 1) != -1) = true := by
                have : pk s (i + 1) ≠ -1 := fun e => by unfold pk at e; rw [if_pos hlt2] at e; omega
                simpa using this
              obtain ⟨r1, hr1⟩ : ∃ y, pk s (i + 1) = y := ⟨_, rfl⟩
              rw [hr1] at tE
              have HR1 := Lib.hid hr1
              clear hpi hni tA tQ hQ h92 hn hr1
              go_wp2_with (first | (go_at_call 26; refine (peek_lx hB.lx).mono ?_; rintro e wa ⟨rfl, hba⟩; rw [HR1.out]; have hBa := hB.on hba; have hloca := loc_keep hloc hba) | (go_at_call 27; refine (next_any hBb.lx hs).mono ?_; intro e wc hnx; unfold NxPost at hnx; obtain ⟨rfl, hLc, hbc, hgc⟩ := hnx; have hBc := hBb.to hLc hbc; have hlocc := loc_only hlocb hgc hbg) | (go_at_call 27; refine (next_any hBa.lx hs).mono ?_; intro e wb hnx; unfold NxPost at hnx; obtain ⟨rfl, hLb, hbb, hgb⟩ := hnx; have hBb := hBa.to hLb hbb; have hlocb := loc_only hloca hgb hbg))
              go_roundg kk
              case measure => omega
              case rel => exact ⟨nx s (i + 1), rfl, by omega, by omega, by omega, HS1, hBc, hlocc⟩
            · have HS1 : Hid (strE s 39 (i + 1) = strE s 39 (q + 1)) := Lib.hid (by rw [← HS.out, strE_last s 39 i (by omega) hQ]; exact strE_end s 39 (i + 1) hlt2)
              have HPE : Hid (pk s (i + 1) = -1) := Lib.hid (pk_end s (i + 1) hlt2)
              clear hpi hni tA tQ hQ h92 hn
              go_wp2_with (first | (go_at_call 26; refine (peek_lx hB.lx).mono ?_; rintro e wa ⟨rfl, hba⟩; rw [HPE.out]; have hBa := hB.on hba; have hloca := loc_keep hloc hba) | (go_at_call 27; refine (next_any hBa.lx hs).mono ?_; intro e wb hnx; unfold NxPost at hnx; obtain ⟨rfl, hLb, hbb, hgb⟩ := hnx; have hBb := hBa.to hLb hbb; have hlocb := loc_only hloca hgb hbg))
              go_roundg kk
              case measure => omega
              case rel => exact ⟨i + 1, rfl, by omega, by omega, by omega, HS1, hBb, hlocb⟩
          have HS1 : Hid (strE s 39 (nx s i) = strE s 39 (q + 1)) := Lib.hid (by rw [← HS.out]; exact (strE_nx s 39 i (by omega) hlt hQ h92).symm)
          have t92 : (pk s i == 92) = false := beq_eq_false_iff_ne.2 (fun e => h92 ((pk_eq s i 92 (by omega)).1 e).2)
          obtain ⟨r, hr⟩ : ∃ y, pk s i = y := ⟨_, rfl⟩
          rw [hr] at tA tQ t92
          rw [hr]
          clear hQ h92 hr
          go_wp2_with (go_at_call 27; refine (next_any hB.lx hs).mono ?_; intro e wb hnx; unfold NxPost at hnx; obtain ⟨rfl, hLb, hbb, hgb⟩ := hnx; have hBb := hB.to hLb hbb; have hlocb := loc_only hloc hgb hbg)
          go_roundg kk
          case measure => omega
          case rel => exact ⟨nx s i, rfl, by omega, by omega, by omega, HS1, hBb, hlocb⟩
      by_cases h64 : x = 64
      · as_aux_lemma =>
        subst h64
        have hpk := pk_low s q hqs (by omega)
        have HNX : Hid (nx s q = q + 1) := Lib.hid (nx_low s q hqs (by omega))
        have HCS := Lib.hid (cstep_at (s := s) (p := q) hx)
        have h2b : 2 ≤ b := Nat.le_trans h2 hwb
        rw [hpk, hx]
        clear hpk hpe hpe' hx hlis hdig hlis' hdig' HX h34 h39
        go_upto_region 86 with (go_at_call 32; refine (location_any hB5.lx).mono ?_; rintro e w6 ⟨⟨tl, tc, rfl⟩, hb6⟩; have hB6 := hB5.on hb6)
        obtain ⟨g0, hg0⟩ : ∃ g, w6.heap.size = g := ⟨_, rfl⟩
        have hloc : (w6.alloc (.cells (locC tl tc) 56)).heap[g0]? = some (.cells (locC tl tc) 56 (0, 0)) := by rw [← hg0]; exact heap_alloc_new w6 _
        have hbg : b < g0 := by have := hB6.lx.lt; omega
        have hB7 := hB6.alo (.cells (locC tl tc) 56)
        rw [hg0]
        clear hg0 hB6 hB5 hb6 hz5
        generalize w6.alloc (.cells (locC tl tc) 56) = w7 at *
        go_upto_region 88 with (go_at_call 27; refine (next_any hB7.lx hs).mono ?_; intro e w8 hnx; unfold NxPost at hnx; obtain ⟨rfl, hL8, hb8, hg8⟩ := hnx; rw [HNX.out] at hL8; have hB8 := hB7.to hL8 hb8; have hloc8 := loc_only hloc hg8 hbg)
        clear hB7 hloc hL8 hb8 hg8
        by_cases hq1 : q + 1 < s.size ∧ (gb s (q + 1) = 34 ∨ gb s (q + 1) = 39)
        case neg =>
          have hq2 : gb s (q + 1) ≠ 34 ∧ gb s (q + 1) ≠ 39 := by
            by_cases hlt : q + 1 < s.size
            · exact ⟨fun e => hq1 ⟨hlt, .inl e⟩, fun e => hq1 ⟨hlt, .inr e⟩⟩
            · rw [gb_out s (q + 1) hlt]
              exact ⟨by decide, by decide⟩
          have HNO : Hid (R = false) := Lib.hid (HST.out.no (by rw [HCS.out, if_neg (by omega)]))
          have u1 : (pk s (q + 1) == 34) = false := beq_eq_false_iff_ne.2 (fun e => hq2.1 ((pk_eq s (q + 1) 34 (by omega)).1 e).2)
          have u2 : (pk s (q + 1) == 39) = false := beq_eq_false_iff_ne.2 (fun e => hq2.2 ((pk_eq s (q + 1) 39 (by omega)).1 e).2)
          obtain ⟨r, hr⟩ : ∃ y, pk s (q + 1) = y := ⟨_, rfl⟩
          rw [hr] at u1 u2
          have HR1 := Lib.hid hr
          clear hq1 hq2 hr
          go_upto_region 94 with (go_at_call 27; refine (next_any hB8.lx hs).mono ?_; intro e w9 hnx; unfold NxPost at hnx; obtain ⟨rfl, hL9, hb9, hg9⟩ := hnx; rw [HR1.out]; have hB9 := hB8.to hL9 hb9; have hloc9 := loc_only hloc8 hg9 hbg)
          have k0 := blk_cell hloc9 0
          have k1 := blk_cell hloc9 1
          simp at k0 k1
          have hblt := blk_lt hloc9
          have hF' := answers_open hB9.lx.ans
          go_region_with (go_at_call 33; refine (err_any _ _ _ (hB9.on (by repeat (first | exact Below.refl _ _ | apply Below.drew | (refine Below.alloc ?_ (by simp) _)))).lx).mono ?_; rintro e wa ⟨⟨va, rfl⟩, hba⟩; have hBa := (hB9.on (by repeat (first | exact Below.refl _ _ | apply Below.drew | (refine Below.alloc ?_ (by simp) _)))).on hba)
          all_goals (
            go_wp2_with fail
            go_ret2
            exact lex_no HNO.out (hW.trans (hBa.be.mono hwb)))
        obtain ⟨hq1s, hqq⟩ := hq1
        rcases hqq with hqq | hqq
        · have HPQ : Hid (pk s (q + 1) = 34) := Lib.hid ((pk_eq s (q + 1) 34 (by omega)).2 ⟨hq1s, hqq⟩)
          have HNQ : Hid (nx s (q + 1) = q + 2) := Lib.hid (nx_low s (q + 1) hq1s (by omega))
          have HCV : Hid (cstep s q = verbE s 34 (q + 2)) := Lib.hid (by rw [HCS.out, hqq, if_pos (by omega)])
          clear hqq
          go_upto_region 95 with (go_at_call 27; refine (next_any hB8.lx hs).mono ?_; intro e w9 hnx; unfold NxPost at hnx; obtain ⟨rfl, hL9, hb9, hg9⟩ := hnx; rw [HNQ.out] at hL9; rw [HPQ.out]; have hB9 := hB8.to hL9 hb9; have hloc9 := loc_only hloc8 hg9 hbg)
          go_wp2_with (go_at_call 27; refine (next_any hB9.lx hs).mono ?_; intro e wa hnx; unfold NxPost at hnx; obtain ⟨rfl, hLa, hba, hga⟩ := hnx; have hBa := hB9.to hLa hba; have hloca := loc_only hloc9 hga hbg)
          clear hB8 hloc8 hL9 hb9 hg9 hB9 hloc9 hLa hba hga
          go_loopg [13, 17] (s.size + 1) (fun kk r v wr => ∃ (i n : Nat), r = .int .i32 (pk s i) ∧ q + 2 ≤ i ∧ i ≤ s.size ∧ s.size - i < kk ∧ n ≤ i ∧ Hid (verbE s 34 i = verbE s 34 (q + 2)) ∧ Rx F s b (nx s i) q c1 (b + 1) g0 tl tc v n w0 wr)
          case atStart => exact ⟨q + 2, 0, rfl, Nat.le_refl _, by omega, by omega, Nat.zero_le _, Lib.hid rfl, hBa, ⟨[], World.ownsRow_nil _ _ _ _, ⟨[], rfl⟩⟩, hloca⟩
          case round =>
            clear hBa hloca
            obtain ⟨i, n, hr13, hqi, hi, hkk, hni, HS, hR⟩ := hrel
            obtain ⟨kk, rfl⟩ : ∃ m, gk = m + 1 := ⟨gk - 1, by omega⟩
            subst hr13
            by_cases hlt : i < s.size
            case neg =>
              have HNO : Hid (R = false) := Lib.hid (HST.out.no (by rw [HCV.out, ← HS.out]; exact verbE_end s 34 i hlt))
              rw [pk_end s i hlt]
              have k0 := blk_cell hR.lo 0
              have k1 := blk_cell hR.lo 1
              simp at k0 k1
              go_wp2_with (go_at_call 33; refine (err_any _ _ _ hR.lb.lx).mono ?_; rintro e wa ⟨⟨va, rfl⟩, hba⟩; have hBa := hR.lb.on hba)
              go_ret2
              exact lex_no HNO.out (hW.trans (hBa.be.mono hwb))
            have hn := nx_lt s i hlt
            have tA : (pk s i == -1) = false := beq_eq_false_iff_ne.2 (fun e => by unfold pk at e; rw [if_pos hlt] at e; omega)
            by_cases hQ : gb s i = 34
            · have hpi : pk s i = 34 := (pk_eq s i 34 (by omega)).2 ⟨hlt, hQ⟩
              have hni2 := nx_low s i hlt (by omega)
              rw [hni2] at hR
              rw [hpi]
              by_cases hQ2 : i + 1 < s.size ∧ gb s (i + 1) = 34
              · have HPN : Hid (pk s (i + 1) = 34) := Lib.hid ((pk_eq s (i + 1) 34 (by omega)).2 hQ2)
                have HNN : Hid (nx s (i + 1) = i + 2) := Lib.hid (nx_low s (i + 1) hQ2.1 (by omega))
                have HS1 : Hid (verbE s 34 (i + 2) = verbE s 34 (q + 2)) := Lib.hid (by rw [← HS.out, verbE_step s 34 i hlt, if_pos hQ, if_pos hQ2])
                have hi2 : i + 2 ≤ s.size := by omega
                clear hpi hni2 tA hQ hn hQ2
                go_wp2_with (first | (go_at_call 26; refine (peek_lx hR.lb.lx).mono ?_; rintro e wa ⟨rfl, hba⟩; rw [HPN.out]; have hRa := hR.on hba) | (at_builtin; (refine wpList_append_lies _ (by rfl) _ _ _ (by rfl) (b + 1) 21 i0 _ 1 4 Tryz.underlying38 hi0 hz0 hz1 hz2 rfl (by omega) _ n xs (by rfl) (hox.alloc _) ⟨wb.heap.size, 0, none⟩ 1 1 [.int .i32 34] (by rfl) (by rfl) (World.news_of_block (cs := #[.int .i32 34]) (t := 21) (fr := (0, 0)) (heap_alloc_new wb _)) (by simp [Value.oneCell']) (by omega) (by unfold maxLen; omega) (by omega) (by have := hRb.lb.lx.lt; simp; omega) (wb.heap.size + 1) (by simp) ?_); (intro gg cap wc hownY hgrow hat hltY); (have hRY := (hRb.on (below_alo (.cells #[.int .i32 34] 21))).app (hox.alloc _) hrx hgrow hownY (by omega) (by omega))) | (go_at_call 27; refine (next_any hRY.lb.lx hs).mono ?_; intro e wd hnx; unfold NxPost at hnx; obtain ⟨rfl, hLd, hbd, hgd⟩ := hnx; have hRd := hRY.nx hLd hbd hgd (by omega) hbg) | (go_at_call 27; refine (next_any hRa.lb.lx hs).mono ?_; intro e wb hnx; unfold NxPost at hnx; obtain ⟨rfl, hLb, hbb, hgb⟩ := hnx; rw [HNN.out] at hLb; have hRb := hRa.nx hLb hbb hgb (by omega) hbg; obtain ⟨xs, hox, hrx⟩ := hRb.ow))
                go_roundg kk
                case measure => omega
                case rel => exact ⟨i + 2, n + 1, rfl, by omega, by omega, by omega, by omega, HS1, hRd⟩
              · have HGO : Hid (clE s (i + 1) = R) := Lib.hid (HST.out.go (by rw [HCV.out, ← HS.out, verbE_step s 34 i hlt, if_pos hQ, if_neg hQ2]))
                have tN : (pk s (i + 1) == 34) = false := beq_eq_false_iff_ne.2 (fun e => hQ2 ((pk_eq s (i + 1) 34 (by omega)).1 e))
                obtain ⟨r1, hr1⟩ : ∃ y, pk s (i + 1) = y := ⟨_, rfl⟩
                rw [hr1] at tN
                have HPN := Lib.hid hr1
                clear hpi hni2 tA hQ hn hQ2 hr1
                go_wp2_with (first | (go_at_call 26; refine (peek_lx hR.lb.lx).mono ?_; rintro e wa ⟨rfl, hba⟩; rw [HPN.out]; have hRa := hR.on hba; obtain ⟨xs, hox, hrx⟩ := hRa.ow; obtain ⟨tx, htx⟩ := conv_runes hox hrx) | (go_at_call 34; refine (emitFull_any _ _ _ _ hRa.lb.lx (by omega)).mono ?_; rintro e wb ⟨⟨vb, rfl⟩, hLb, hbb⟩; have hBb := hRa.lb.to hLb hbb) | (go_at_call 28; refine (reset_any hBb.lx).mono ?_; rintro e wc ⟨⟨vc, rfl⟩, hLc, hbc⟩; have hBc := hBb.to hLc hbc))
                refine Handed.intro k (by omega) ?_
                go_step
                exact inv8_mk (by kernel_rfl) ⟨i + 1, _, c1 + 1, by omega, by omega, by omega, HGO, hBc⟩
            · have HS1 : Hid (verbE s 34 (nx s i) = verbE s 34 (q + 2)) := Lib.hid (by rw [← HS.out]; exact (verbE_nx s 34 i (by omega) hlt hQ).symm)
              have tQ : (pk s i == 34) = false := beq_eq_false_iff_ne.2 (fun e => hQ ((pk_eq s i 34 (by omega)).1 e).2)
              obtain ⟨xs, hox, hrx⟩ := hR.ow
              obtain ⟨r, hr⟩ : ∃ y, pk s i = y := ⟨_, rfl⟩
              rw [hr] at tA tQ
              rw [hr]
              clear hQ hr
              go_wp2_with (first | (at_builtin; (refine wpList_append_lies _ (by rfl) _ _ _ (by rfl) (b + 1) 21 i0 _ 1 4 Tryz.underlying38 hi0 hz0 hz1 hz2 rfl (by omega) _ n xs (by rfl) (hox.alloc _) ⟨wr.heap.size, 0, none⟩ 1 1 [.int .i32 r] (by rfl) (by rfl) (World.news_of_block (cs := #[.int .i32 r]) (t := 21) (fr := (0, 0)) (heap_alloc_new wr _)) (by simp [Value.oneCell']) (by omega) (by unfold maxLen; omega) (by omega) (by have := hR.lb.lx.lt; simp; omega) (wr.heap.size + 1) (by simp) ?_); (intro gg cap wc hownY hgrow hat hltY); (have hRY := (hR.on (below_alo (.cells #[.int .i32 r] 21))).app (hox.alloc _) hrx hgrow hownY (by omega) (by omega))) | (go_at_call 27; refine (next_any hRY.lb.lx hs).mono ?_; intro e wd hnx; unfold NxPost at hnx; obtain ⟨rfl, hLd, hbd, hgd⟩ := hnx; have hRd := hRY.nx hLd hbd hgd (by omega) hbg))
              go_roundg kk
              case measure => omega
              case rel => exact ⟨nx s i, n + 1, rfl, by omega, by omega, by omega, by omega, HS1, hRd⟩
        · have HPQ : Hid (pk s (q + 1) = 39) := Lib.hid ((pk_eq s (q + 1) 39 (by omega)).2 ⟨hq1s, hqq⟩)
          have HNQ : Hid (nx s (q + 1) = q + 2) := Lib.hid (nx_low s (q + 1) hq1s (by omega))
          have HCV : Hid (cstep s q = verbE s 39 (q + 2)) := Lib.hid (by rw [HCS.out, hqq, if_pos (by omega)])
          clear hqq
          go_upto_region 95 with (go_at_call 27; refine (next_any hB8.lx hs).mono ?_; intro e w9 hnx; unfold NxPost at hnx; obtain ⟨rfl, hL9, hb9, hg9⟩ := hnx; rw [HNQ.out] at hL9; rw [HPQ.out]; have hB9 := hB8.to hL9 hb9; have hloc9 := loc_only hloc8 hg9 hbg)
          go_wp2_with (go_at_call 27; refine (next_any hB9.lx hs).mono ?_; intro e wa hnx; unfold NxPost at hnx; obtain ⟨rfl, hLa, hba, hga⟩ := hnx; have hBa := hB9.to hLa hba; have hloca := loc_only hloc9 hga hbg)
          clear hB8 hloc8 hL9 hb9 hg9 hB9 hloc9 hLa hba hga
          go_loopg [13, 17] (s.size + 1) (fun kk r v wr => ∃ (i n : Nat), r = .int .i32 (pk s i) ∧ q + 2 ≤ i ∧ i ≤ s.size ∧ s.size - i < kk ∧ n ≤ i ∧ Hid (verbE s 39 i = verbE s 39 (q + 2)) ∧ Rx F s b (nx s i) q c1 (b + 1) g0 tl tc v n w0 wr)
          case atStart => exact ⟨q + 2, 0, rfl, Nat.le_refl _, by omega, by omega, Nat.zero_le _, Lib.hid rfl, hBa, ⟨[], World.ownsRow_nil _ _ _ _, ⟨[], rfl⟩⟩, hloca⟩
          case round =>
            clear hBa hloca
            obtain ⟨i, n, hr13, hqi, hi, hkk, hni, HS, hR⟩ := hrel
            obtain ⟨kk, rfl⟩ : ∃ m, gk = m + 1 := ⟨gk - 1, by omega⟩
            subst hr13
            by_cases hlt : i < s.size
            case neg =>
              have HNO : Hid (R = false) := Lib.hid (HST.out.no (by rw [HCV.out, ← HS.out]; exact verbE_end s 39 i hlt))
              rw [pk_end s i hlt]
              have k0 := blk_cell hR.lo 0
              have k1 := blk_cell hR.lo 1
              simp at k0 k1
              go_wp2_with (go_at_call 33; refine (err_any _ _ _ hR.lb.lx).mono ?_; rintro e wa ⟨⟨va, rfl⟩, hba⟩; have hBa := hR.lb.on hba)
              go_ret2
              exact lex_no HNO.out (hW.trans (hBa.be.mono hwb))
            have hn := nx_lt s i hlt
            have tA : (pk s i == -1) = false := beq_eq_false_iff_ne.2 (fun e => by unfold pk at e; rw [if_pos hlt] at e; omega)
            by_cases hQ : gb s i = 39
            · have hpi : pk s i = 39 := (pk_eq s i 39 (by omega)).2 ⟨hlt, hQ⟩
              have hni2 := nx_low s i hlt (by omega)
              rw [hni2] at hR
              rw [hpi]
              by_cases hQ2 : i + 1 < s.size ∧ gb s (i + 1) = 39
              · have HPN : Hid (pk s (i + 1) = 39) := Lib.hid ((pk_eq s (i + 1) 39 (by omega)).2 hQ2)
                have HNN : Hid (nx s (i + 1) = i + 2) := Lib.hid (nx_low s (i + 1) hQ2.1 (by omega))
                have HS1 : Hid (verbE s 39 (i + 2) = verbE s 39 (q + 2)) := Lib.hid (by rw [← HS.out, verbE_step s 39 i hlt, if_pos hQ, if_pos hQ2])
                have hi2 : i + 2 ≤ s.size := by omega
                clear hpi hni2 tA hQ hn hQ2
                go_wp2_with (first | (go_at_call 26; refine (peek_lx hR.lb.lx).mono ?_; rintro e wa ⟨rfl, hba⟩; rw [HPN.out]; have hRa := hR.on hba) | (at_builtin; (refine wpList_append_lies _ (by rfl) _ _ _ (by rfl) (b + 1) 21 i0 _ 1 4 Tryz.underlying38 hi0 hz0 hz1 hz2 rfl (by omega) _ n xs (by rfl) (hox.alloc _) ⟨wb.heap.size, 0, none⟩ 1 1 [.int .i32 39] (by rfl) (by rfl) (World.news_of_block (cs := #[.int .i32 39]) (t := 21) (fr := (0, 0)) (heap_alloc_new wb _)) (by simp [Value.oneCell']) (by omega) (by unfold maxLen; omega) (by omega) (by have := hRb.lb.lx.lt; simp; omega) (wb.heap.size + 1) (by simp) ?_); (intro gg cap wc hownY hgrow hat hltY); (have hRY := (hRb.on (below_alo (.cells #[.int .i32 39] 21))).app (hox.alloc _) hrx hgrow hownY (by omega) (by omega))) | (go_at_call 27; refine (next_any hRY.lb.lx hs).mono ?_; intro e wd hnx; unfold NxPost at hnx; obtain ⟨rfl, hLd, hbd, hgd⟩ := hnx; have hRd := hRY.nx hLd hbd hgd (by omega) hbg) | (go_at_call 27; refine (next_any hRa.lb.lx hs).mono ?_; intro e wb hnx; unfold NxPost at hnx; obtain ⟨rfl, hLb, hbb, hgb⟩ := hnx; rw [HNN.out] at hLb; have hRb := hRa.nx hLb hbb hgb (by omega) hbg; obtain ⟨xs, hox, hrx⟩ := hRb.ow))
                go_roundg kk
                case measure => omega
                case rel => exact ⟨i + 2, n + 1, rfl, by omega, by omega, by omega, by omega, HS1, hRd⟩
              · have HGO : Hid (clE s (i + 1) = R) := Lib.hid (HST.out.go (by rw [HCV.out, ← HS.out, verbE_step s 39 i hlt, if_pos hQ, if_neg hQ2]))
                have tN : (pk s (i + 1) == 39) = false := beq_eq_false_iff_ne.2 (fun e => hQ2 ((pk_eq s (i + 1) 39 (by omega)).1 e))
                obtain ⟨r1, hr1⟩ : ∃ y, pk s (i + 1) = y := ⟨_, rfl⟩
                rw [hr1] at tN
                have HPN := Lib.hid hr1
                clear hpi hni2 tA hQ hn hQ2 hr1
                go_wp2_with (first | (go_at_call 26; refine (peek_lx hR.lb.lx).mono ?_; rintro e wa ⟨rfl, hba⟩; rw [HPN.out]; have hRa := hR.on hba; obtain ⟨xs, hox, hrx⟩ := hRa.ow; obtain ⟨tx, htx⟩ := conv_runes hox hrx) | (go_at_call 34; refine (emitFull_any _ _ _ _ hRa.lb.lx (by omega)).mono ?_; rintro e wb ⟨⟨vb, rfl⟩, hLb, hbb⟩; have hBb := hRa.lb.to hLb hbb) | (go_at_call 28; refine (reset_any hBb.lx).mono ?_; rintro e wc ⟨⟨vc, rfl⟩, hLc, hbc⟩; have hBc := hBb.to hLc hbc))
                refine Handed.intro k (by omega) ?_
                go_step
                exact inv8_mk (by kernel_rfl) ⟨i + 1, _, c1 + 1, by omega, by omega, by omega, HGO, hBc⟩
            · have HS1 : Hid (verbE s 39 (nx s i) = verbE s 39 (q + 2)) := Lib.hid (by rw [← HS.out]; exact (verbE_nx s 39 i (by omega) hlt hQ).symm)
              have tQ : (pk s i == 39) = false := beq_eq_false_iff_ne.2 (fun e => hQ ((pk_eq s i 39 (by omega)).1 e).2)
              obtain ⟨xs, hox, hrx⟩ := hR.ow
              obtain ⟨r, hr⟩ : ∃ y, pk s i = y := ⟨_, rfl⟩
              rw [hr] at tA tQ
              rw [hr]
              clear hQ hr
              go_wp2_with (first | (at_builtin; (refine wpList_append_lies _ (by rfl) _ _ _ (by rfl) (b + 1) 21 i0 _ 1 4 Tryz.underlying38 hi0 hz0 hz1 hz2 rfl (by omega) _ n xs (by rfl) (hox.alloc _) ⟨wr.heap.size, 0, none⟩ 1 1 [.int .i32 r] (by rfl) (by rfl) (World.news_of_block (cs := #[.int .i32 r]) (t := 21) (fr := (0, 0)) (heap_alloc_new wr _)) (by simp [Value.oneCell']) (by omega) (by unfold maxLen; omega) (by omega) (by have := hR.lb.lx.lt; simp; omega) (wr.heap.size + 1) (by simp) ?_); (intro gg cap wc hownY hgrow hat hltY); (have hRY := (hR.on (below_alo (.cells #[.int .i32 r] 21))).app (hox.alloc _) hrx hgrow hownY (by omega) (by omega))) | (go_at_call 27; refine (next_any hRY.lb.lx hs).mono ?_; intro e wd hnx; unfold NxPost at hnx; obtain ⟨rfl, hLd, hbd, hgd⟩ := hnx; have hRd := hRY.nx hLd hbd hgd (by omega) hbg))
              go_roundg kk
              case measure => omega
              case rel => exact ⟨nx s i, n + 1, rfl, by omega, by omega, by omega, by omega, HS1, hRd⟩
      obtain ⟨f123, f125, f91, f93, f44, f46, f40, f41, f59, f48, f49, f50, f51, f52, f53, f54, f55, f56, f57, f34, f39, f64⟩ := sw_not _ (sw_of s q (by rw [hx]; exact hlis') (by rw [hx]; exact hdig') (by rw [hx]; exact h34) (by rw [hx]; exact h39) (by rw [hx]; exact h64))
      obtain ⟨r, hr⟩ : ∃ y, pk s q = y := ⟨_, rfl⟩
      have hid := idF_pk s q
      have hsy := symR_pk s q
      have hrd2 : decide (q < s.size) = true := by simpa using hqs
      rw [hrd2, hx, Bool.true_and] at hid hsy
      have HID := Lib.hid hid
      have HPR := Lib.hid hr
      rw [hr] at hid hsy
      rw [hr]
      rw [hr] at f123 f125 f91 f93 f44 f46 f40 f41 f59 f48 f49 f50 f51 f52 f53 f54 f55 f56 f57 f34 f39 f64
      clear hpe hpe' hr hrd2
      cases hlet : letB x with
      | true => as_aux_lemma =>
        have HGO : Hid (clE s (scan s idB q) = R) := Lib.hid (HST.out.go (cstep_let (by rw [hx]; exact hlet)))
        have hsb := scan_bounds s idB q (Nat.le_of_lt hqs)
        have hsg : q < scan s idB q := by
          have := scan_step s idB q hqs (by rw [hx]; exact letB_id x hlet)
          have := scan_bounds s idB (q + 1) (by omega)
          omega
        have hid' : idF r = true := by rw [hid, hlet]
        have H37 := ident_any hB5.lx hs (by omega) (by rw [HID.out]; exact hlet)
        clear hid hsy hlet hx
        go_wp2_with (first | (go_at_call 36; refine (first_any _ _).mono ?_; rintro e w6 ⟨rfl, rfl⟩) | (go_at_call 37; refine H37.mono ?_; rintro e w7 ⟨⟨v7, rfl⟩, hL7, hb7⟩; have hB7 := hB5.to hL7 hb7))
        refine Handed.intro k (by omega) ?_
        go_step
        exact inv8_mk (by kernel_rfl) ⟨scan s idB q, _, c1 + 1, by omega, by omega, by omega, HGO, hB7⟩
      | false =>
        have hid' : idF r = false := by rw [hid, hlet]
        have hcs := cstep_rest (s := s) (p := q) (by rw [hx]; exact hlis') (by rw [hx]; exact hdig') (by rw [hx]; exact h34) (by rw [hx]; exact h39) (by rw [hx]; exact h64) (by rw [hx]; exact hlet)
        rw [hx] at hcs
        by_cases hop : opB x = true ∨ x = 35
        · as_aux_lemma =>
          rw [if_pos hop] at hcs
          have H39 := sym_lx hB5.lx hs hz5 (by omega) hqs (by rw [hx]; exact hop)
          have hor : symR r = true ∨ (symR r = false ∧ (r == 35) = true) := by
            rcases hop with h | h
            · left; rw [hsy, h]
            · right
              refine ⟨by rw [hsy, h]; rfl, ?_⟩
              rw [← HPR.out, (pk_eq s q 35 (by omega)).2 ⟨hqs, by rw [hx, h]⟩]
              rfl
          cases hsym : symS s q with
          | some z =>
            have hzb := symS_bounds s q z hqs hsym
            have HGO : Hid (clE s z = R) := Lib.hid (HST.out.go (by rw [hcs, hsym]))
            rw [hsym] at H39
            clear hid hsy hlet hx hcs hop hsym
            rcases hor with hr1 | ⟨hr1, hr2⟩
            all_goals (
              go_wp2_with (first | (go_at_call 36; refine (first_any _ _).mono ?_; rintro e w6 ⟨rfl, rfl⟩) | (go_at_call 38; refine (sym_any _ _).mono ?_; rintro e w6 ⟨rfl, rfl⟩) | (go_at_call 39; refine H39.mono ?_; intro e w7 hrd; obtain ⟨rfl, ⟨ts7, hL7⟩, hb7⟩ := rd_get_some hrd; have hB7 := hB5.to hL7 hb7))
              refine Handed.intro k (by omega) ?_
              go_step
              exact inv8_mk (by kernel_rfl) ⟨z, _, c1 + 2, by omega, by omega, by omega, HGO, hB7⟩)
          | none =>
            have HNO : Hid (R = false) := Lib.hid (HST.out.no (by rw [hcs, hsym]))
            rw [hsym] at H39
            clear hid hsy hlet hx hcs hop hsym
            rcases hor with hr1 | ⟨hr1, hr2⟩
            all_goals (
              go_wp2_with (first | (go_at_call 36; refine (first_any _ _).mono ?_; rintro e w6 ⟨rfl, rfl⟩) | (go_at_call 38; refine (sym_any _ _).mono ?_; rintro e w6 ⟨rfl, rfl⟩) | (go_at_call 39; refine H39.mono ?_; intro e w7 hrd; obtain ⟨⟨v7, rfl⟩, hb7⟩ := rd_get_none hrd))
              go_ret2
              exact lex_no HNO.out (hW.trans ((hB5.be.trans hb7).mono hwb)))
        · as_aux_lemma =>
          have HNO : Hid (R = false) := Lib.hid (HST.out.no (by rw [hcs, if_neg hop]))
          have hs1 : symR r = false := by
            rw [hsy]
            cases h : opB x with
            | true => exact absurd (Or.inl h) hop
            | false => rfl
          have hs2 : (r == 35) = false := beq_eq_false_iff_ne.2 (fun e => hop (Or.inr (by
            have := ((pk_eq s q 35 (by omega)).1 (by rw [HPR.out, e]; rfl)).2
            omega)))
          clear hid hsy hlet hx hcs hop
          go_wp2_with (first | (go_at_call 36; refine (first_any _ _).mono ?_; rintro e w6 ⟨rfl, rfl⟩) | (go_at_call 38; refine (sym_any _ _).mono ?_; rintro e w6 ⟨rfl, rfl⟩) | (go_at_call 40; refine (quote_any _ _).mono ?_; rintro e w6 ⟨⟨t6, rfl⟩, hb6⟩; have hB6 := hB5.on hb6; have hF' := answers_open hB6.lx.ans) | (go_at_call 32; refine (location_any (hB6.on (by repeat (first | exact Below.refl _ _ | apply Below.drew | (refine Below.alloc ?_ (by simp) _)))).lx).mono ?_; rintro e w7 ⟨⟨l7, k7, rfl⟩, hb7⟩; have hB7 := (hB6.on (by repeat (first | exact Below.refl _ _ | apply Below.drew | (refine Below.alloc ?_ (by simp) _)))).on hb7) | (go_at_call 33; refine (err_any _ _ _ hB7.lx).mono ?_; rintro e w8 ⟨⟨v8, rfl⟩, hb8⟩; have hB8 := hB7.on hb8))
          go_ret2
          exact lex_no HNO.out (hW.trans (hB8.be.mono hwb))
end Go.Proofs.YtiicdalodfjgaaaGreatFmt
