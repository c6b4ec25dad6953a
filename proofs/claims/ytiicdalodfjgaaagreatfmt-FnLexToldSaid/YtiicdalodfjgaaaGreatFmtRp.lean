/- A region that draws its order, whose last operation waits for all the others: it may be taken off, and run behind the rest. -/
import Derived.OrdersHeld
import Derived.Deep.RegionHeldLaw
namespace Go.Proofs.YtiicdalodfjgaaaGreatFmt
open Go
section
variable {P : Program} {md : Region.Mode} {ops : Array Oper} {o : Oper} {Q : Exit → Act → World → Prop}

/-- the post of the rest: the last operation is run. -/
def endQ (P : Program) (full : Array Oper) (n : Nat) (Q : Exit → Act → World → Prop) : Exit → Act → World → Prop
  | .normal, a, w => wpOp P full Q n (Q .normal) a w
  | e, a, w => Q e a w
theorem wp_turnQ {x : Oper} {a : Act} {w : World} {K : Act → World → Prop} {Q' : Exit → Act → World → Prop} (hp : ∀ c a w, Q' (.panic c) a w → Q (.panic c) a w) (hl : LetsOut Q' → LetsOut Q) (h : x.wp P a w K Q') : x.wp P a w K Q := by
  unfold Oper.wp at h ⊢
  generalize (execOp a.eval x).run P w = r at h ⊢
  match r, h with
  | .ok (.value _) _, h => exact h
  | .ok .skip _, h => exact h
  | .ok (.defer _) _, h => exact h
  | .ok (.row _ _) _, h => exact h
  | .ok (.enter _ _) _, h =>
    refine Calls.mono h (fun e w' he => ?_)
    match e, he with
    | .returned _, he => exact he
    | .panicked _, he => exact hp _ _ _ he
    | .outgrown, he => exact hl he
  | .halt (.panic _) _, h => exact hp _ _ _ h
theorem push_get (i : Nat) (hi : i < ops.size) : (ops.push o)[i]? = ops[i]? := by
  rw [Array.getElem?_push, if_neg (by omega)]
theorem wpOp_push {n i : Nat} {a : Act} {w : World} {K K' : Act → World → Prop} (hi : i < ops.size) (hg : ∀ x ∈ ops, x.guard = none) (h : wpOp P ops (endQ P (ops.push o) n Q) i K a w) (hK : ∀ a w, K a w → K' a w) : wpOp P (ops.push o) Q i K' a w := by
  refine wpOp_mono hK ?_
  unfold wpOp at h ⊢
  rw [push_get i hi]
  have hx : ops[i]? = some ops[i] := Array.getElem?_eq_getElem hi
  rw [hx] at h ⊢
  have hgi : ops[i].guard = none := hg _ (Array.getElem_mem hi)
  have hw : ∀ y, Region.wanted ops[i] y = true := fun y => by unfold Region.wanted; rw [hgi]
  simp only [hw, if_true] at h ⊢
  have hp : ∀ c a w, endQ P (ops.push o) n Q (.panic c) a w → Q (.panic c) a w := fun _ _ _ h => h
  have hl : LetsOut (endQ P (ops.push o) n Q) → LetsOut Q := fun ⟨a, w, h⟩ => ⟨a, w, h⟩
  rcases h with h | ⟨h1, h2⟩
  · exact .inl (wp_turnQ hp hl h)
  · exact .inr ⟨h1, hl h2⟩
theorem all_listed {l : Array Bool} (hs : l.size = ops.size) (hac : ∀ (i : Nat) x, ops[i]? = some x → ∀ e ∈ x.after, e.on < i) (h : Region.ready md ops l = []) : ∀ n i, i < n → i < ops.size → l.getD i false = true := by
  intro n
  induction n with
  | zero => intro i hi; omega
  | succ n ih =>
    intro i hi his
    by_cases hin : i < n
    · exact ih i hin his
    · cases hl : l.getD i false with
      | true => rfl
      | false =>
        exfalso
        have hm : i ∈ Region.ready md ops l := by
          rw [mem_ready]
          have hx : ops[i]? = some ops[i] := Array.getElem?_eq_getElem his
          refine ⟨?_, ops[i], hx, fun e he _ => ih e.on (by have := hac i _ hx e he; omega) (by have := hac i _ hx e he; omega)⟩
          rw [Array.getD_eq_getD_getElem?, Array.getElem?_eq_getElem (by omega)] at hl ⊢
          exact hl
        rw [h] at hm
        cases hm
theorem push_getD {l : Array Bool} {d : Bool} {i : Nat} (hi : i < l.size) : (l.push false).getD i d = l.getD i d := by
  rw [Array.getD_eq_getD_getElem?, Array.getD_eq_getD_getElem?, Array.getElem?_push, if_neg (by omega)]
theorem ready_push {l : Array Bool} (hs : l.size = ops.size) (hac : ∀ (i : Nat) x, ops[i]? = some x → ∀ e ∈ x.after, e.on < i) {i : Nat} (hi : i < ops.size) (h : i ∈ Region.ready md (ops.push o) (l.push false)) : i ∈ Region.ready md ops l := by
  rw [mem_ready] at h ⊢
  obtain ⟨h1, x, hx, h2⟩ := h
  rw [push_get i hi] at hx
  rw [push_getD (by omega)] at h1
  refine ⟨h1, x, hx, fun e he hb => ?_⟩
  have := h2 e he hb
  rw [push_getD (by have := hac i x hx e he; omega)] at this
  exact this
theorem ready_push' {l : Array Bool} (hs : l.size = ops.size) (hac : ∀ (i : Nat) x, ops[i]? = some x → ∀ e ∈ x.after, e.on < i) {i : Nat} (h : i ∈ Region.ready md ops l) : i ∈ Region.ready md (ops.push o) (l.push false) := by
  rw [mem_ready] at h ⊢
  obtain ⟨h1, x, hx, h2⟩ := h
  have hi : i < ops.size := by
    by_cases hh : i < ops.size
    · exact hh
    · rw [Array.getElem?_eq_none (by omega)] at hx; cases hx
  refine ⟨by rw [push_getD (by omega)]; exact h1, x, by rw [push_get i hi]; exact hx, fun e he hb => ?_⟩
  rw [push_getD (by have := hac i x hx e he; omega)]
  exact h2 e he hb
/-- what is listed has all listed that it waits for. -/
def Closed (md : Region.Mode) (ops : Array Oper) (l : Array Bool) : Prop := ∀ (i : Nat) x, ops[i]? = some x → l.getD i false = true → ∀ e ∈ x.after, Region.binds md e = true → l.getD e.on false = true
theorem covered {l : Array Bool} (hc : Closed md ops l) (ho : ∀ i, i < ops.size → (∃ e ∈ o.after, Region.binds md e = true ∧ e.on = i) ∨ ∃ j x, i < j ∧ ops[j]? = some x ∧ ∃ e ∈ x.after, Region.binds md e = true ∧ e.on = i)
    (hl : ∀ e ∈ o.after, Region.binds md e = true → l.getD e.on false = true) : ∀ d i, ops.size - i = d → i < ops.size → l.getD i false = true := by
  intro d
  induction d using Nat.strongRecOn with
  | _ d ih =>
    intro i hd hi
    rcases ho i hi with ⟨e, he, hb, hon⟩ | ⟨j, x, hij, hx, e, he, hb, hon⟩
    · rw [← hon]; exact hl e he hb
    · have hj : j < ops.size := (Array.getElem?_eq_some_iff.1 hx).1
      have := ih (ops.size - j) (by omega) j rfl hj
      rw [← hon]
      exact hc j x hx this e he hb
theorem closed_set {l : Array Bool} (hs : l.size = ops.size) (hc : Closed md ops l) {i : Nat} (hi : i ∈ Region.ready md ops l) : Closed md ops (l.setIfInBounds i true) := by
  have hmono : ∀ k, l.getD k false = true → (l.setIfInBounds i true).getD k false = true := by
    intro k hk
    rw [Array.getD_eq_getD_getElem?] at hk ⊢
    by_cases hki : k = i
    · subst hki
      have hks : k < l.size := by
        by_cases hh : k < l.size
        · exact hh
        · rw [Array.getElem?_eq_none (by omega)] at hk; cases hk
      simp [hks]
    · rw [Array.getElem?_setIfInBounds_ne (by omega)]; exact hk
  intro k x hx hk e he hb
  by_cases hki : k = i
  · subst hki
    obtain ⟨_, y, hy, h2⟩ := mem_ready.1 hi
    rw [hx] at hy
    cases hy
    exact hmono _ (h2 e he hb)
  · refine hmono _ (hc k x hx ?_ e he hb)
    rw [Array.getD_eq_getD_getElem?] at hk ⊢
    rw [Array.getElem?_setIfInBounds_ne (by omega)] at hk
    exact hk
/-- THE LAST OPERATION IS TAKEN OFF. -/
theorem any_push (hg : ∀ x ∈ ops, x.guard = none) (hac : ∀ (i : Nat) x, ops[i]? = some x → ∀ e ∈ x.after, e.on < i) (ho : ∀ i, i < ops.size → (∃ e ∈ o.after, Region.binds md e = true ∧ e.on = i) ∨ ∃ j x, i < j ∧ ops[j]? = some x ∧ ∃ e ∈ x.after, Region.binds md e = true ∧ e.on = i) (hoa : ∀ e ∈ o.after, e.on < ops.size) :
    ∀ (fuel : Nat) (l : Array Bool) (a : Act) (w : World), l.size = ops.size → Closed md ops l → wpAny P md ops (endQ P (ops.push o) ops.size Q) fuel l a w → wpAny P md (ops.push o) Q (fuel + 1) (l.push false) a w := by
  have last : ∀ (fuel : Nat) (l : Array Bool) (a : Act) (w : World), l.size = ops.size → Region.ready md ops l = [] → endQ P (ops.push o) ops.size Q .normal a w → wpAny P md (ops.push o) Q (fuel + 1) (l.push false) a w := by
    intro fuel l a w hs hr hq
    have hall := fun i hi => all_listed hs hac hr (i + 1) i (Nat.lt_succ_self i) hi
    have hn : ops.size ∈ Region.ready md (ops.push o) (l.push false) := by
      rw [mem_ready]
      refine ⟨?_, o, by simp, fun e he _ => ?_⟩
      · rw [Array.getD_eq_getD_getElem?, ← hs]; simp
      · have := hoa e he
        rw [push_getD (by omega)]
        exact hall e.on this
    refine ⟨fun h => (by rw [h] at hn; cases hn), fun i hi => ?_⟩
    have hin : i = ops.size := by
      by_cases hlt : i < ops.size
      · have := ready_push hs hac hlt hi
        rw [hr] at this
        cases this
      · have h2 := (mem_ready.1 hi).2
        obtain ⟨x, hx, _⟩ := h2
        by_cases hgt : ops.size < i
        · rw [Array.getElem?_eq_none (by simp; omega)] at hx; cases hx
        · omega
    subst hin
    have hend : ∀ a w, Q .normal a w → wpAny P md (ops.push o) Q fuel ((l.push false).setIfInBounds ops.size true) a w := by
      intro a w hq
      have hr2 : Region.ready md (ops.push o) ((l.push false).setIfInBounds ops.size true) = [] := by
        rw [List.eq_nil_iff_forall_not_mem]
        intro j hj
        obtain ⟨h1, x, hx, _⟩ := mem_ready.1 hj
        have hjs : j < ops.size + 1 := by
          by_cases hh : j < ops.size + 1
          · exact hh
          · rw [Array.getElem?_eq_none (by simp; omega)] at hx; cases hx
        by_cases hje : j = ops.size
        · subst hje
          rw [Array.getD_eq_getD_getElem?] at h1
          simp [hs] at h1
        · have := hall j (by omega)
          rw [Array.getD_eq_getD_getElem?, Array.getElem?_setIfInBounds_ne (by omega), ← Array.getD_eq_getD_getElem?, push_getD (by omega)] at h1
          rw [Array.getD_eq_getD_getElem?, Array.getElem?_eq_getElem (by omega)] at this h1
          simp at this h1
          rw [this] at h1
          cases h1
      cases fuel with
      | zero => exact ⟨hr2, hq⟩
      | succ f => exact ⟨fun _ => hq, by rw [hr2]; simp⟩
    exact wpOp_mono hend hq
  intro fuel
  induction fuel with
  | zero => intro l a w hs _ h; exact last 0 l a w hs h.1 h.2
  | succ fuel ih =>
    intro l a w hs hc h
    by_cases hr : Region.ready md ops l = []
    · exact last (fuel + 1) l a w hs hr (h.1 hr)
    · obtain ⟨i0, hi0⟩ := List.exists_mem_of_ne_nil _ hr
      refine ⟨fun h0 => (by have := ready_push' (o := o) hs hac hi0; rw [h0] at this; cases this), fun i hi => ?_⟩
      have hlt : i < ops.size := by
        obtain ⟨h1, x, hx, h2⟩ := mem_ready.1 hi
        by_cases hh : i < ops.size
        · exact hh
        · exfalso
          have hie : i = ops.size := by
            by_cases hgt : ops.size < i
            · rw [Array.getElem?_eq_none (by simp; omega)] at hx; cases hx
            · omega
          subst hie
          have hxo : x = o := by simpa using hx.symm
          subst hxo
          have hi0s : i0 < ops.size := by
            obtain ⟨_, y, hy, _⟩ := mem_ready.1 hi0
            by_cases hh2 : i0 < ops.size
            · exact hh2
            · rw [Array.getElem?_eq_none (by omega)] at hy; cases hy
          have h3 := covered hc ho (fun e he hb => by
            have h3 := h2 e he hb
            rw [push_getD (by have := hoa e he; omega)] at h3
            exact h3) _ i0 rfl hi0s
          have h4 := (mem_ready.1 hi0).1
          rw [Array.getD_eq_getD_getElem?, Array.getElem?_eq_getElem (by omega)] at h3 h4
          simp at h3 h4
          rw [h3] at h4
          cases h4
      have h1 := h.2 i (ready_push hs hac hlt hi)
      refine wpOp_push hlt hg h1 (fun a w hk => ?_)
      have := ih (l.setIfInBounds i true) a w (by simp [hs]) (closed_set hs hc (ready_push hs hac hlt hi)) hk
      have e : (l.push false).setIfInBounds i true = (l.setIfInBounds i true).push false := by
        apply Array.ext_getElem?
        intro k
        by_cases hk : k = i
        · subst hk
          rw [Array.getElem?_push, if_neg (by simp; omega)]
          simp [show k < l.size by omega, show k < l.size + 1 by omega]
        · rw [Array.getElem?_setIfInBounds_ne (by omega), Array.getElem?_push, Array.getElem?_push, Array.getElem?_setIfInBounds_ne (by omega)]
          simp
      rw [e]
      exact this
/-- the conditions, to be reckoned. -/
def lastOk (ops : Array Oper) (o : Oper) : Bool :=
  ops.toList.all (fun x => x.guard.isNone) && ((List.range ops.size).all (fun i => ((ops[i]?).map (fun x => x.after.toList.all (fun e => decide (e.on < i)))).getD true) && ((List.range ops.size).all (fun i => o.after.toList.any (fun e => Region.binds .any e && e.on == i) || (List.range ops.size).any (fun j => decide (i < j) && ((ops[j]?).map (fun x => x.after.toList.any (fun e => Region.binds .any e && e.on == i))).getD false)) && o.after.toList.all (fun e => decide (e.on < ops.size))))
theorem region_last {lit ops : Array Oper} {id : Nat} {a : Act} {w : World} (hlit : lit = ops.push o) (hm : P.follows .mixedOrders = true) (hok : lastOk ops o = true)
    (h : wpAny P .any ops (endQ P lit ops.size Q) ops.size (Array.replicate ops.size false) a w.drew) : (Code.region id lit true).wp P Q a w := by
  subst hlit
  unfold lastOk at hok
  simp only [Bool.and_eq_true, Bool.or_eq_true, List.all_eq_true, List.any_eq_true, List.mem_range, decide_eq_true_eq, beq_iff_eq] at hok
  obtain ⟨h1, h2, h3, h4⟩ := hok
  refine wp_region_any hm ?_
  have hp := any_push (md := .any) (fun x hx => by have := h1 x (by simpa using hx); simpa using this)
    (fun i x hx e he => by
      have hi : i < ops.size := (Array.getElem?_eq_some_iff.1 hx).1
      have := h2 i hi
      rw [hx] at this
      simp only [Option.map_some, Option.getD_some, List.all_eq_true, decide_eq_true_eq] at this
      exact this e (by simpa using he))
    (fun i hi => by
      rcases h3 i hi with ⟨e, he, hb, hon⟩ | ⟨j, hj, hij, hx⟩
      · exact .inl ⟨e, by simpa using he, hb, hon⟩
      · right
        cases hy : ops[j]? with
        | none => rw [hy] at hx; cases hx
        | some x =>
          rw [hy] at hx
          simp only [Option.map_some, Option.getD_some, List.any_eq_true, Bool.and_eq_true, beq_iff_eq] at hx
          obtain ⟨e, he, hb, hon⟩ := hx
          exact ⟨j, x, hij, hy, e, by simpa using he, hb, hon⟩)
    (fun e he => h4 e (by simpa using he)) ops.size (Array.replicate ops.size false) a w.drew (by simp) (fun i x _ hl => by
      rw [Array.getD_eq_getD_getElem?, Array.getElem?_replicate] at hl
      split at hl <;> cases hl) h
  rw [Array.size_push, Array.replicate_succ]
  exact hp
end
end Go.Proofs.YtiicdalodfjgaaaGreatFmt
