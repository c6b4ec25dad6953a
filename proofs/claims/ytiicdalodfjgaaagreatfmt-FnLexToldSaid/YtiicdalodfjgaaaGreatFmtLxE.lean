/- The parser's lexer: tokens are emitted; errors are made. -/
import Derived.Test.YtiicdalodfjgaaaGreatFmtLxF
import Derived.Deep.RegionHeldLaw
import Derived.Test.YtiicdalodfjgaaaGreatFmtRp
namespace Go.Proofs.YtiicdalodfjgaaaGreatFmt
open Go.RowKit Go.Extern.Stop Go.Stop Go.Extern
variable {F : Interp} {s : ByteArray} {b p ts c : Nat} {w : World}

theorem LxI.c4v {d m : ByteArray} {sa : Option Addr} {tv fv : Value} {tl tc : Int} {fr : Bool} {ln ls : Int} {n1 n2 : Nat} {xs1 xs2 : List Value} (h : LxI F s b p ts c d m sa tv fv tl tc fr ln ls n1 n2 xs1 xs2 w) : w.cell? ⟨b, 4, none⟩ = some tv := by
  have := blk_cell h.blk 4
  simpa using this
theorem region_last' {P : Program} {o : Oper} {Q : Exit → Act → World → Prop} {lit : Array Oper} {id : Nat} {a : Act} {w : World} (hlit : lit = lit.pop.push o) (hm : P.follows .mixedOrders = true) (hok : lastOk lit.pop o = true)
    (h : wpAny P .any lit.pop (endQ P lit lit.pop.size Q) lit.pop.size (Array.replicate lit.pop.size false) a w.drew) : (Code.region id lit true).wp P Q a w := region_last hlit hm hok h
theorem LxI.newF2 {d m : ByteArray} {sa : Option Addr} {tv fv : Value} {tl tc : Int} {fr : Bool} {ln ls : Int} {n1 n2 : Nat} {xs1 xs2 : List Value} (h : LxI F s b p ts c d m sa tv fv tl tc fr ln ls n1 n2 xs1 xs2 w) (g : Nat) (hg : g = w.heap.size) :
    LxI F s b p ts c d m sa tv (.slice (some ⟨g, 0, none⟩) 0 0) tl tc fr ln ls n1 0 xs1 [] ((w.setCell ⟨b, 5, none⟩ (.slice (some ⟨g, 0, none⟩) 0 0)).alloc (.cells #[] 83)) := by
  subst hg
  have h1 := h.newF
  rwa [World.setCell_alloc_past _ _ _ _ h.lt] at h1
theorem own_slice {w : World} {base : Nat} {e : TypeId} {size : Nat} {v : Value} {n : Nat} {xs : List Value} (h : w.ownsRow base e size v n xs) : ∃ a k cap, v = .slice a k cap := by
  rcases h.2 with ⟨h, _⟩ | ⟨g, cap, cur, h, _⟩
  · exact ⟨_, _, _, h⟩
  · exact ⟨_, _, _, h⟩

theorem held_blk {d m : ByteArray} {sa : Option Addr} {tv fv : Value} {tl tc : Int} {fr : Bool} {ln ls : Int} (h : w.heap[b]? = some (.cells (lxC d m s (.pointer sa) tv fv ts p tl tc fr ln ls) 68 (0, 0))) :
    w.cell? ⟨b, 1, none⟩ = some (.string m) ∧ w.cell? ⟨b, 3, none⟩ = some (.pointer sa) ∧ w.cell? ⟨b, 5, none⟩ = some fv ∧ w.cell? ⟨b, 7, none⟩ = some (.int .i64 tl) ∧ w.cell? ⟨b, 8, none⟩ = some (.int .i64 tc) := by
  have h1 := blk_cell h 1
  have h3 := blk_cell h 3
  have h5 := blk_cell h 5
  have h7 := blk_cell h 7
  have h8 := blk_cell h 8
  simp [lxC] at h1 h3 h5 h7 h8
  exact ⟨h1, h3, h5, h7, h8⟩

theorem grown_alloc9 {w w1 : World} {o : Obj} {row : Option Nat} (h : (w.alloc o).grownBy w1 row) : w.grownBy w1 row := grown_alloc (o := o) ⟨h.1, h.2, h.3, h.4, h.5⟩
theorem blk_c4 {d m : ByteArray} {sa : Option Addr} {tv fv : Value} {tl tc : Int} {fr : Bool} {ln ls : Int} (h : w.heap[b]? = some (.cells (lxC d m s (.pointer sa) tv fv ts p tl tc fr ln ls) 68 (0, 0))) : w.cell? ⟨b, 4, none⟩ = some tv := by
  have := blk_cell h 4
  simpa using this
theorem lx_far {d m : ByteArray} {sa : Option Addr} {tv fv : Value} {tl tc : Int} {fr : Bool} {ln ls : Int} {n1 n2 : Nat} {xs1 xs2 : List Value} {w1 : World} {o : Obj} {row : Option Nat} (hg : (w.alloc o).grownBy w1 row) (h : LxI F s b p ts c d m sa tv fv tl tc fr ln ls n1 n2 xs1 xs2 w) (hbt : some b ≠ row) :
    w1.heap[b]? = some (.cells (lxC d m s (.pointer sa) tv fv ts p tl tc fr ln ls) 68 (0, 0)) := ((grown_alloc9 hg).block b h.lt hbt).trans h.blk

set_option linter.unusedSimpArgs false in
set_option maxRecDepth 100000 in
set_option maxHeartbeats 6400000 in
theorem emitFull_any (k : Int) (x y z : ByteArray) (h : LxL F s b p ts c w) (hc : c ≤ 100000) :
    Calls Tryz.prog 34 #[.pointer (some ⟨b, 0, none⟩), .int .i64 k, .string x, .string y, .string z] w fun e w' => (∃ v, e = .returned v) ∧ LxL F s b p ts (c + 1) w' ∧ Below b w w' := by
  have lb := h.lt
  obtain ⟨i0, hi0, hz0, hz1, hz2⟩ := info_parts info99
  obtain ⟨d, m, sa, tv, fv, tl, tc, fr, ln, ls, n1, n2, xs1, xs2, hI⟩ := h
  obtain ⟨fa, fk, fcap, rfl⟩ := own_slice hI.own2
  have hId : LxI F s b p ts c d m sa tv (.slice fa fk fcap) tl tc fr ln ls n1 n2 xs1 xs2 w.drew := hI.below (below_drewN (Below.refl _ w) 1)
  have HLd : LxL F s b p ts c w.drew := ⟨_, _, _, _, _, _, _, _, _, _, _, _, _, _, hId⟩
  have hB0 : Below b w w.drew := below_drewN (Below.refl _ w) 1
  have c4 := hId.c4v
  have S0 := held_blk hId.blk
  have hbt : some b ≠ tv.ownBlock := fun e => by have := (ownBlock_ge hI.own1 b e.symm).1; omega
  have hl1 := hI.len1
  go_enter Tryz.func34, Tryz.ntmps34
  go_wp2_with fail
  refine region_last' (by rfl) (by kernel_rfl) (by kernel_rfl) ?_
  simp only [List.pop_toArray, List.dropLast_cons_cons, List.dropLast_singleton, List.size_toArray, List.length_cons, List.length_nil]
  have SS : ((fun w' => w'.cell? ⟨b, 4, none⟩ = some tv ∧ w'.cell? ⟨b, 1, none⟩ = some (.string m) ∧ w'.cell? ⟨b, 3, none⟩ = some (.pointer sa) ∧ w'.cell? ⟨b, 5, none⟩ = some (.slice fa fk fcap) ∧ w'.cell? ⟨b, 7, none⟩ = some (.int .i64 tl) ∧ w'.cell? ⟨b, 8, none⟩ = some (.int .i64 tc))) w.drew := ⟨c4, S0⟩
  refine wpAny_of_held (S := (fun w' => w'.cell? ⟨b, 4, none⟩ = some tv ∧ w'.cell? ⟨b, 1, none⟩ = some (.string m) ∧ w'.cell? ⟨b, 3, none⟩ = some (.pointer sa) ∧ w'.cell? ⟨b, 5, none⟩ = some (.slice fa fk fcap) ∧ w'.cell? ⟨b, 7, none⟩ = some (.int .i64 tl) ∧ w'.cell? ⟨b, 8, none⟩ = some (.int .i64 tc))) _ _ _ _ ?_
  refine wpAnyH_take (i := 0) (v := ?v0) rfl (by kernel_rfl) (by kernel_rfl) (by kernel_rfl) (fun _ _ _ h => h) (Or.inl ⟨by rfl, ?y0⟩) SS ?r0
  case y0 =>
    intro w' hSw
    (try dsimp only at hSw)
    go_simp
    all_goals (with_reducible rfl)
  (try simp only [Act.put, List.setIfInBounds_toArray, List.set_cons_zero, List.set_cons_succ])
  refine wpAnyH_take (i := 1) (v := ?v1) rfl (by kernel_rfl) (by kernel_rfl) (by kernel_rfl) (fun _ _ _ h => h) (Or.inl ⟨by rfl, ?y1⟩) SS ?r1
  case y1 =>
    intro w' hSw
    (try dsimp only at hSw)
    go_simp
    all_goals (with_reducible rfl)
  (try simp only [Act.put, List.setIfInBounds_toArray, List.set_cons_zero, List.set_cons_succ])
  refine wpAnyH_take (i := 2) (v := ?v2) rfl (by kernel_rfl) (by kernel_rfl) (by kernel_rfl) (fun _ _ _ h => h) (Or.inl ⟨by rfl, ?y2⟩) SS ?r2
  case y2 =>
    intro w' hSw
    (try dsimp only at hSw)
    go_simp
    all_goals (with_reducible rfl)
  (try simp only [Act.put, List.setIfInBounds_toArray, List.set_cons_zero, List.set_cons_succ])
  refine wpAnyH_take (i := 3) (v := ?v3) rfl (by kernel_rfl) (by kernel_rfl) (by kernel_rfl) (fun _ _ _ h => h) (Or.inl ⟨by rfl, ?y3⟩) SS ?r3
  case y3 =>
    intro w' hSw
    (try dsimp only at hSw)
    go_simp
    all_goals (with_reducible rfl)
  (try simp only [Act.put, List.setIfInBounds_toArray, List.set_cons_zero, List.set_cons_succ])
  refine wpAnyH_take (i := 4) (v := ?v4) rfl (by kernel_rfl) (by kernel_rfl) (by kernel_rfl) (fun _ _ _ h => h) (Or.inl ⟨by rfl, ?y4⟩) SS ?r4
  case y4 =>
    intro w' hSw
    (try dsimp only at hSw)
    go_simp
    all_goals (with_reducible rfl)
  (try simp only [Act.put, List.setIfInBounds_toArray, List.set_cons_zero, List.set_cons_succ])
  refine wpAnyH_take (i := 5) (v := ?v5) rfl (by kernel_rfl) (by kernel_rfl) (by kernel_rfl) (fun _ _ _ h => h) (Or.inl ⟨by rfl, ?y5⟩) SS ?r5
  case y5 =>
    intro w' hSw
    (try dsimp only at hSw)
    go_simp
    all_goals (with_reducible rfl)
  (try simp only [Act.put, List.setIfInBounds_toArray, List.set_cons_zero, List.set_cons_succ])
  refine wpAnyH_take (i := 6) (v := ?v6) rfl (by kernel_rfl) (by kernel_rfl) (by kernel_rfl) (fun _ _ _ h => h) (Or.inl ⟨by rfl, ?y6⟩) SS ?r6
  case y6 =>
    intro w' hSw
    (try dsimp only at hSw)
    go_simp
    all_goals (with_reducible rfl)
  (try simp only [Act.put, List.setIfInBounds_toArray, List.set_cons_zero, List.set_cons_succ])
  refine wpAnyH_take (i := 7) (v := ?v7) rfl (by kernel_rfl) (by kernel_rfl) (by kernel_rfl) (fun _ _ _ h => h) (Or.inl ⟨by rfl, ?y7⟩) SS ?r7
  case y7 =>
    intro w' hSw
    (try dsimp only at hSw)
    go_simp
    all_goals (with_reducible rfl)
  (try simp only [Act.put, List.setIfInBounds_toArray, List.set_cons_zero, List.set_cons_succ])
  refine wpAnyH_take (i := 8) (v := ?v8) rfl (by kernel_rfl) (by kernel_rfl) (by kernel_rfl) (fun _ _ _ h => h) (Or.inl ⟨by rfl, ?y8⟩) SS ?r8
  case y8 =>
    intro w' hSw
    (try dsimp only at hSw)
    go_simp
    all_goals (with_reducible rfl)
  (try simp only [Act.put, List.setIfInBounds_toArray, List.set_cons_zero, List.set_cons_succ])
  refine wpAnyH_take (i := 9) (v := ?v9) rfl (by kernel_rfl) (by kernel_rfl) (by kernel_rfl) (fun _ _ _ h => h) (Or.inl ⟨by rfl, ?y9⟩) SS ?r9
  case y9 =>
    intro w' hSw
    (try dsimp only at hSw)
    go_simp
    all_goals (with_reducible rfl)
  (try simp only [Act.put, List.setIfInBounds_toArray, List.set_cons_zero, List.set_cons_succ])
  refine wpAnyH_take (i := 10) (v := ?v10) rfl (by kernel_rfl) (by kernel_rfl) (by kernel_rfl) (fun _ _ _ h => h) (Or.inl ⟨by rfl, ?y10⟩) SS ?r10
  case y10 =>
    intro w' hSw
    (try dsimp only at hSw)
    go_simp
    all_goals (with_reducible rfl)
  (try simp only [Act.put, List.setIfInBounds_toArray, List.set_cons_zero, List.set_cons_succ])
  refine wpAnyH_take (i := 11) (v := ?v11) rfl (by kernel_rfl) (by kernel_rfl) (by kernel_rfl) (fun _ _ _ h => h) (Or.inl ⟨by rfl, ?y11⟩) SS ?r11
  case y11 =>
    intro w' hSw
    (try dsimp only at hSw)
    go_simp
    all_goals (with_reducible rfl)
  (try simp only [Act.put, List.setIfInBounds_toArray, List.set_cons_zero, List.set_cons_succ])
  refine wpAnyH_take (i := 12) (v := ?v12) rfl (by kernel_rfl) (by kernel_rfl) (by kernel_rfl) (fun _ _ _ h => h) (Or.inl ⟨by rfl, ?y12⟩) SS ?r12
  case y12 =>
    intro w' hSw
    (try dsimp only at hSw)
    go_simp
    all_goals (with_reducible rfl)
  (try simp only [Act.put, List.setIfInBounds_toArray, List.set_cons_zero, List.set_cons_succ])
  refine wpAnyH_take (i := 13) (v := ?v13) rfl (by kernel_rfl) (by kernel_rfl) (by kernel_rfl) (fun _ _ _ h => h) (Or.inl ⟨by rfl, ?y13⟩) SS ?r13
  case y13 =>
    intro w' hSw
    (try dsimp only at hSw)
    go_simp
    all_goals (with_reducible rfl)
  (try simp only [Act.put, List.setIfInBounds_toArray, List.set_cons_zero, List.set_cons_succ])
  refine wpAnyH_take (i := 14) (v := ?v14) rfl (by kernel_rfl) (by kernel_rfl) (by kernel_rfl) (fun _ _ _ h => h) (Or.inl ⟨by rfl, ?y14⟩) SS ?r14
  case y14 =>
    intro w' hSw
    (try dsimp only at hSw)
    go_simp
    all_goals (with_reducible rfl)
  (try simp only [Act.put, List.setIfInBounds_toArray, List.set_cons_zero, List.set_cons_succ])
  refine wpAnyH_take (i := 15) (v := ?v15) rfl (by kernel_rfl) (by kernel_rfl) (by kernel_rfl) (fun _ _ _ h => h) (Or.inl ⟨by rfl, ?y15⟩) SS ?r15
  case y15 =>
    intro w' hSw
    (try dsimp only at hSw)
    go_simp
    all_goals (with_reducible rfl)
  (try simp only [Act.put, List.setIfInBounds_toArray, List.set_cons_zero, List.set_cons_succ])
  refine wpAnyH_take (i := 16) (v := ?v16) rfl (by kernel_rfl) (by kernel_rfl) (by kernel_rfl) (fun _ _ _ h => h) (Or.inl ⟨by rfl, ?y16⟩) SS ?r16
  case y16 =>
    intro w' hSw
    (try dsimp only at hSw)
    go_simp
    all_goals (with_reducible rfl)
  (try simp only [Act.put, List.setIfInBounds_toArray, List.set_cons_zero, List.set_cons_succ])
  refine wpAnyH_take (i := 17) (v := ?v17) rfl (by kernel_rfl) (by kernel_rfl) (by kernel_rfl) (fun _ _ _ h => h) (Or.inl ⟨by rfl, ?y17⟩) SS ?r17
  case y17 =>
    intro w' hSw
    (try dsimp only at hSw)
    go_simp
    all_goals (with_reducible rfl)
  (try simp only [Act.put, List.setIfInBounds_toArray, List.set_cons_zero, List.set_cons_succ])
  refine wpAnyH_take (i := 18) (v := ?v18) rfl (by kernel_rfl) (by kernel_rfl) (by kernel_rfl) (fun _ _ _ h => h) (Or.inl ⟨by rfl, ?y18⟩) SS ?r18
  case y18 =>
    intro w' hSw
    (try dsimp only at hSw)
    go_simp
    all_goals (with_reducible rfl)
  (try simp only [Act.put, List.setIfInBounds_toArray, List.set_cons_zero, List.set_cons_succ])
  refine wpAnyH_take (i := 19) (v := ?v19) rfl (by kernel_rfl) (by kernel_rfl) (by kernel_rfl) (fun _ _ _ h => h) (Or.inl ⟨by rfl, ?y19⟩) SS ?r19
  case y19 =>
    intro w' hSw
    (try dsimp only at hSw)
    go_simp
    all_goals (with_reducible rfl)
  (try simp only [Act.put, List.setIfInBounds_toArray, List.set_cons_zero, List.set_cons_succ])
  refine wpAnyH_take (i := 20) (v := ?v20) rfl (by kernel_rfl) (by kernel_rfl) (by kernel_rfl) (fun _ _ _ h => h) (Or.inl ⟨by rfl, ?y20⟩) SS ?r20
  case y20 =>
    intro w' hSw
    (try dsimp only at hSw)
    go_simp
    all_goals (with_reducible rfl)
  (try simp only [Act.put, List.setIfInBounds_toArray, List.set_cons_zero, List.set_cons_succ])
  refine wpAnyH_take (i := 21) (v := ?v21) rfl (by kernel_rfl) (by kernel_rfl) (by kernel_rfl) (fun _ _ _ h => h) (Or.inl ⟨by rfl, ?y21⟩) SS ?r21
  case y21 =>
    intro w' hSw
    (try dsimp only at hSw)
    go_simp
    all_goals (with_reducible rfl)
  (try simp only [Act.put, List.setIfInBounds_toArray, List.set_cons_zero, List.set_cons_succ])
  refine wpAnyH_take (i := 22) (v := ?v22) rfl (by kernel_rfl) (by kernel_rfl) (by kernel_rfl) (fun _ _ _ h => h) (Or.inl ⟨by rfl, ?y22⟩) SS ?r22
  case y22 =>
    intro w' hSw
    (try dsimp only at hSw)
    go_simp
    all_goals (with_reducible rfl)
  (try simp only [Act.put, List.setIfInBounds_toArray, List.set_cons_zero, List.set_cons_succ])
  refine wpAnyH_take (i := 23) (v := ?v23) rfl (by kernel_rfl) (by kernel_rfl) (by kernel_rfl) (fun _ _ _ h => h) (Or.inl ⟨by rfl, ?y23⟩) SS ?r23
  case y23 =>
    intro w' hSw
    (try dsimp only at hSw)
    go_simp
    all_goals (with_reducible rfl)
  (try simp only [Act.put, List.setIfInBounds_toArray, List.set_cons_zero, List.set_cons_succ])
  refine wpAnyH_take (i := 24) (v := ?v24) rfl (by kernel_rfl) (by kernel_rfl) (by kernel_rfl) (fun _ _ _ h => h) (Or.inl ⟨by rfl, ?y24⟩) SS ?r24
  case y24 =>
    intro w' hSw
    (try dsimp only at hSw)
    go_simp
    all_goals (with_reducible rfl)
  (try simp only [Act.put, List.setIfInBounds_toArray, List.set_cons_zero, List.set_cons_succ])
  refine wpAnyH_take (i := 25) (v := ?v25) rfl (by kernel_rfl) (by kernel_rfl) (by kernel_rfl) (fun _ _ _ h => h) (Or.inl ⟨by rfl, ?y25⟩) SS ?r25
  case y25 =>
    intro w' hSw
    (try dsimp only at hSw)
    go_simp
    all_goals (with_reducible rfl)
  (try simp only [Act.put, List.setIfInBounds_toArray, List.set_cons_zero, List.set_cons_succ])
  refine wpAnyH_ready (rs := [26]) (by kernel_rfl) (by simp) (AllReadyH.cons rfl (fun K hK => ?_) AllReadyH.nil)
  go_simp
  go_at_call 32
  refine (location_any HLd).mono ?_
  rintro e w1 ⟨⟨l, q, rfl⟩, hb1⟩
  have hI1 := hId.below hb1
  have S1 := held_blk hI1.blk
  have SS1 : ((fun w' => w'.cell? ⟨b, 4, none⟩ = some tv ∧ w'.cell? ⟨b, 1, none⟩ = some (.string m) ∧ w'.cell? ⟨b, 3, none⟩ = some (.pointer sa) ∧ w'.cell? ⟨b, 5, none⟩ = some (.slice fa fk fcap) ∧ w'.cell? ⟨b, 7, none⟩ = some (.int .i64 tl) ∧ w'.cell? ⟨b, 8, none⟩ = some (.int .i64 tc))) w1 := ⟨hI1.c4v, S1⟩
  refine hK.out _ _ SS1 (fun _ => ?_)
  clear hK
  refine wpAnyH_ready (rs := [27]) (by kernel_rfl) (by simp) (AllReadyH.cons rfl (fun K hK => ?_) AllReadyH.nil)
  go_simp
  go_at_call 55
  refine (mlr_any _ _ _ _ _ _ _).mono ?_
  rintro e w2 ⟨rfl, hb2⟩
  have hI2 := hI1.below hb2
  have lb2 := hI2.lt
  have SS2 : ((fun w' => w'.cell? ⟨b, 4, none⟩ = some tv ∧ w'.cell? ⟨b, 1, none⟩ = some (.string m) ∧ w'.cell? ⟨b, 3, none⟩ = some (.pointer sa) ∧ w'.cell? ⟨b, 5, none⟩ = some (.slice fa fk fcap) ∧ w'.cell? ⟨b, 7, none⟩ = some (.int .i64 tl) ∧ w'.cell? ⟨b, 8, none⟩ = some (.int .i64 tc))) w2 := ⟨hI2.c4v, held_blk hI2.blk⟩
  have al2 : ∀ o, Below w2.heap.size w2 (w2.alloc o) := fun o => (Below.refl _ _).alloc (Nat.le_refl _) o
  refine hK.out _ _ SS2 (fun _ => ?_)
  clear hK
  refine wpAnyH_take (i := 28) (v := ?v28) rfl (by kernel_rfl) (by kernel_rfl) (by kernel_rfl) (fun _ _ _ h => h) (Or.inl ⟨by rfl, ?y28⟩) SS2 ?r28
  case y28 =>
    intro w' hSw
    (try dsimp only at hSw)
    go_simp
    all_goals (with_reducible rfl)
  (try simp only [Act.put, List.setIfInBounds_toArray, List.set_cons_zero, List.set_cons_succ])
  have SS2a : ∀ o, ((fun w' => w'.cell? ⟨b, 4, none⟩ = some tv ∧ w'.cell? ⟨b, 1, none⟩ = some (.string m) ∧ w'.cell? ⟨b, 3, none⟩ = some (.pointer sa) ∧ w'.cell? ⟨b, 5, none⟩ = some (.slice fa fk fcap) ∧ w'.cell? ⟨b, 7, none⟩ = some (.int .i64 tl) ∧ w'.cell? ⟨b, 8, none⟩ = some (.int .i64 tc))) (w2.alloc o) := fun o => ⟨(hI2.below (al2 o)).c4v, held_blk (hI2.below (al2 o)).blk⟩
  refine wpAnyH_ready (rs := [29]) (by kernel_rfl) (by simp) (AllReadyH.cons rfl (fun K hK => ?_) AllReadyH.nil)
  go_simp
  refine hK.out _ _ (SS2a _) (fun _ => ?_)
  clear hK
  refine wpAnyH_ready (rs := [30]) (by kernel_rfl) (by simp) (AllReadyH.cons rfl (fun K hK => ?_) AllReadyH.nil)
  refine step_append_lies (w2.alloc (.cells #[.slice fa fk fcap, .string x, .string y, .string z, .pointer sa, .string m, .int .i64 tl, .int .i64 tc, .int .i64 l, .int .i64 q, .int .i64 k] 99)) ?_ (.tmp 14) (.tmp 39) 32 ?_ (b + 1) 99 i0 _ 11 136 Tryz.underlying32 hi0 hz0 hz1 hz2 ?_ ?_ tv n1 xs1 ?_ (hI2.own1.alloc _) ⟨w2.heap.size, 0, none⟩ 1 1 [.slice fa fk fcap, .string x, .string y, .string z, .pointer sa, .string m, .int .i64 tl, .int .i64 tc, .int .i64 l, .int .i64 q, .int .i64 k] ?_ ?_ (World.news_of_block (cs := #[.slice fa fk fcap, .string x, .string y, .string z, .pointer sa, .string m, .int .i64 tl, .int .i64 tc, .int .i64 l, .int .i64 q, .int .i64 k]) (t := 99) (fr := (0, 0)) (heap_alloc_new w2 _)) ?_ ?_ ?_ ?_ ?_ (w2.heap.size + 1) ?_ ?_
  · rfl
  · rfl
  · rfl
  · omega
  · rfl
  · rfl
  · rfl
  · simp [Value.oneCell']
  · omega
  · unfold maxLen; omega
  · omega
  · simp; omega
  · simp
  intro gg cap w3 hown3 hgrow hat hlt
  have hb3 := lx_far hgrow hI2 hbt
  have z4' := blk_thaw hb3 4
  have c4' := blk_c4 hb3
  have SS3 : ((fun w' => w'.cell? ⟨b, 4, none⟩ = some tv ∧ w'.cell? ⟨b, 1, none⟩ = some (.string m) ∧ w'.cell? ⟨b, 3, none⟩ = some (.pointer sa) ∧ w'.cell? ⟨b, 5, none⟩ = some (.slice fa fk fcap) ∧ w'.cell? ⟨b, 7, none⟩ = some (.int .i64 tl) ∧ w'.cell? ⟨b, 8, none⟩ = some (.int .i64 tc))) w3 := ⟨c4', held_blk hb3⟩
  have hg' := grown_alloc9 hgrow
  have hfin := hI2.growT hown3 hg' hat (Nat.le_succ _) (Nat.le_refl _)
  refine hK.out _ _ SS3 (fun _ => ?_)
  clear hK
  refine wpAnyH_take (i := 31) (v := ?v31) rfl (by kernel_rfl) (by kernel_rfl) (by kernel_rfl) (fun _ _ _ h => h) (Or.inl ⟨by rfl, ?y31⟩) SS3 ?r31
  case y31 =>
    intro w' hSw
    (try dsimp only at hSw)
    go_simp
    all_goals (with_reducible rfl)
  (try simp only [Act.put, List.setIfInBounds_toArray, List.set_cons_zero, List.set_cons_succ])
  refine wpAnyH_take (i := 32) (v := ?v32) rfl (by kernel_rfl) (by kernel_rfl) (by kernel_rfl) (fun _ _ _ h => h) (Or.inl ⟨by rfl, ?y32⟩) SS3 ?r32
  case y32 =>
    intro w' hSw
    (try dsimp only at hSw)
    go_simp
    all_goals (with_reducible rfl)
  (try simp only [Act.put, List.setIfInBounds_toArray, List.set_cons_zero, List.set_cons_succ])
  refine wpAnyH_done (by kernel_rfl) ?_ _
  unfold endQ wpOp
  show (if _ then _ else _)
  rw [if_pos (by rfl)]
  left
  go_simp
  have z5' := blk_thaw hb3 5
  have c5' : w3.cell? ⟨b, 5, none⟩ = some (.slice fa fk fcap) := SS3.2.2.2.1
  have lb3 := blk_lt hb3
  have hB3 : Below b w w3 := ((hB0.trans (hb1.mono (Nat.le_of_lt lb))).trans (hb2.mono (Nat.le_of_lt hI1.lt))).trans hfin.2
  go_wp2_with fail
  go_end0
  exact ⟨⟨_, rfl⟩, ⟨_, _, _, _, _, _, _, _, _, _, _, _, _, _, hfin.1.newF2 w3.heap.size (set_size _ _ _).symm⟩, (below_set (below_set hB3 _ _) _ _).alloc (by rw [set_size, set_size]; omega) _⟩
end Go.Proofs.YtiicdalodfjgaaaGreatFmt
