/- The map of the reference's plain escapes: how it is laid, and what a look-up in it gives. -/
import Derived.Test.YtiicdalodfjgaaaGreatFmtRows
import Derived.MapKept
import Derived.WalkKit
import Derived.WalkSpells
import Derived.WalkLawsBesides
import Derived.Lib.Hide
namespace Go.Proofs.YtiicdalodfjgaaaGreatFmt
open Go.RowKit

section
variable {P : Program}
theorem findNow_u8 (c : Int) (v : Value) (b : Nat) (k : Int) (es : List MapEntry) (i : Nat) :
    Instr.findNow (.int .u8) (.int .u8 c) ({ key := .int .u8 k, val := v, born := b } :: es) i = if c = k then some (some (i, v)) else Instr.findNow (.int .u8) (.int .u8 c) es (i + 1) := by
  by_cases h : c = k
  · simp [Instr.findNow, Instr.sameNow, h]
  · have e : (c == k) = false := by simpa using h
    simp [Instr.findNow, Instr.sameNow, h, e]
theorem run_insert_u8 (W : World) (T K E : TypeId) (hT : P.underlying T = some (.map K E)) (hK : P.underlying K = some (.int .u8)) (es : Array MapEntry) (k : Nat) (c : Int) (v : Value)
    (h : Instr.findNow (.int .u8) (.int .u8 c) es.toList 0 = some none) :
    (Instr.mapUpdate T (.map (some W.heap.size)) (.int .u8 c) v).run P (W.alloc (.map es k)) = .ok () (W.alloc (.map (es.push { key := .int .u8 c, val := v, born := k }) (k + 1))) := by
  have hb : (W.alloc (.map es k)).heap[W.heap.size]? = some (.map es k) := (MapKept.heap_alloc W _).1
  have hk : MapKept.IsKey (.int .u8) (.int .u8 c) := by simp [MapKept.IsKey]
  unfold Instr.mapUpdate
  simp only [Sem.run_bind, run_underlying hT, Result.andThen, MapKept.run_getObj_map hb, MapKept.run_checkKey hK hk, MapKept.run_findKey hK h, MapKept.run_setObj_map _ hb]
  have e : ∀ o', (W.alloc (.map es k)).heap.setIfInBounds W.heap.size o' = W.heap.push o' := fun o' => by
    show (W.heap.push _).setIfInBounds _ _ = _
    rw [← Array.toList_inj]
    simp
  rw [e]
  rfl
theorem run_lookup_u8 (w : World) (T K E : TypeId) (hT : P.underlying T = some (.map K E)) (hK : P.underlying K = some (.int .u8)) (hz : ∀ w : World, (zeroValue E).run P w = .ok (.string ⟨#[]⟩) w) (r : Nat) (es : Array MapEntry) (k : Nat)
    (hb : w.heap[r]? = some (.map es k)) (c : Int) (v : Value) (ok : Bool)
    (h : ∃ a, Instr.findNow (.int .u8) (.int .u8 c) es.toList 0 = some a ∧ (match a with | some (_, x) => x = v ∧ ok = true | none => v = .string ⟨#[]⟩ ∧ ok = false)) :
    (Instr.lookup T (.map (some r)) (.int .u8 c) true).run P w = .ok (.tuple #[v, .bool ok]) w := by
  obtain ⟨a, ha, hm⟩ := h
  have hk : MapKept.IsKey (.int .u8) (.int .u8 c) := by simp [MapKept.IsKey]
  unfold Instr.lookup
  simp only [Sem.run_bind, run_underlying hT, Result.andThen, MapKept.run_getObj_map hb, MapKept.run_checkKey hK hk]
  cases a with
  | none =>
    obtain ⟨rfl, rfl⟩ := hm
    simp [MapKept.run_findKey hK ha, hz, Result.andThen]
  | some x =>
    obtain ⟨rfl, rfl⟩ := hm
    simp [MapKept.run_findKey hK ha]
end

theorem Tryz.u108 : Tryz.prog.underlying 108 = some (.map 5 9) := by kernel_rfl
theorem Tryz.u5 : Tryz.prog.underlying 5 = some (.int .u8) := by kernel_rfl
theorem Tryz.z9 (w : World) : (zeroValue 9).run Tryz.prog w = .ok (.string ⟨#[]⟩) w := by kernel_rfl

/-- the nine plain escapes: what stands behind the stroke, and what it stands for. -/
def escs : List (Nat × UInt8) := [(34, 34), (39, 39), (92, 92), (47, 47), (98, 8), (102, 12), (110, 10), (114, 13), (116, 9)]
def ent (k : Nat) (p : Nat × UInt8) : MapEntry := { key := .int .u8 p.1, val := .string ⟨#[p.2]⟩, born := k }
def tab (n : Nat) : Array MapEntry := #[ent 0 (34, 34), ent 1 (39, 39), ent 2 (92, 92), ent 3 (47, 47), ent 4 (98, 8), ent 5 (102, 12), ent 6 (110, 10), ent 7 (114, 13), ent 8 (116, 9)].take n

def plainE (c : Nat) : Option UInt8 :=
  if c = 34 then some 34 else if c = 39 then some 39 else if c = 92 then some 92 else if c = 47 then some 47 else if c = 98 then some 8 else if c = 102 then some 12 else if c = 110 then some 10 else if c = 114 then some 13 else if c = 116 then some 9 else none

theorem tab_find (c : Nat) : ∃ a, Instr.findNow (.int .u8) (.int .u8 (c : Int)) (tab 9).toList 0 = some a ∧
    (match a with | some (_, x) => plainE c = (match x with | .string s => s.data[0]? | _ => none) ∧ ∃ p, plainE c = some p ∧ x = .string ⟨#[p]⟩ | none => plainE c = none) := by
  show ∃ a, Instr.findNow (.int .u8) (.int .u8 (c : Int)) [ent 0 (34, 34), ent 1 (39, 39), ent 2 (92, 92), ent 3 (47, 47), ent 4 (98, 8), ent 5 (102, 12), ent 6 (110, 10), ent 7 (114, 13), ent 8 (116, 9)] 0 = some a ∧ _
  unfold ent plainE
  simp only [findNow_u8]
  by_cases h1 : c = 34
  · subst h1; exact ⟨_, rfl, rfl, _, rfl, rfl⟩
  by_cases h2 : c = 39
  · subst h2; exact ⟨_, rfl, rfl, _, rfl, rfl⟩
  by_cases h3 : c = 92
  · subst h3; exact ⟨_, rfl, rfl, _, rfl, rfl⟩
  by_cases h4 : c = 47
  · subst h4; exact ⟨_, rfl, rfl, _, rfl, rfl⟩
  by_cases h5 : c = 98
  · subst h5; exact ⟨_, rfl, rfl, _, rfl, rfl⟩
  by_cases h6 : c = 102
  · subst h6; exact ⟨_, rfl, rfl, _, rfl, rfl⟩
  by_cases h7 : c = 110
  · subst h7; exact ⟨_, rfl, rfl, _, rfl, rfl⟩
  by_cases h8 : c = 114
  · subst h8; exact ⟨_, rfl, rfl, _, rfl, rfl⟩
  by_cases h9 : c = 116
  · subst h9; exact ⟨_, rfl, rfl, _, rfl, rfl⟩
  refine ⟨none, ?_, ?_⟩
  · rw [if_neg (by omega), if_neg (by omega), if_neg (by omega), if_neg (by omega), if_neg (by omega), if_neg (by omega), if_neg (by omega), if_neg (by omega), if_neg (by omega)]; rfl
  · simp [h1, h2, h3, h4, h5, h6, h7, h8, h9]

/-- the text of a plain escape, the empty one where there is none; and whether there is one. -/
def lookS (c : Nat) : ByteArray := match plainE c with | some p => ⟨#[p]⟩ | none => ⟨#[]⟩
theorem look_plain (w : World) (r : Nat) (hb : w.heap[r]? = some (.map (tab 9) 9)) (c : Nat) :
    (Instr.lookup 108 (.map (some r)) (.int .u8 (c : Int)) true).run Tryz.prog w = .ok (.tuple #[.string (lookS c), .bool (plainE c).isSome]) w := by
  refine run_lookup_u8 w 108 5 9 Tryz.u108 Tryz.u5 Tryz.z9 r (tab 9) 9 hb c _ _ ?_
  obtain ⟨a, ha, hm⟩ := tab_find c
  refine ⟨a, ha, ?_⟩
  cases a with
  | none => simp only at hm ⊢; rw [lookS, hm]; exact ⟨rfl, rfl⟩
  | some x =>
    obtain ⟨_, p, hp, hx⟩ := hm
    simp only
    rw [lookS, hp]
    exact ⟨hx, rfl⟩

theorem lay_plain (W : World) (n : Nat) (c : Nat) (p : UInt8) (h : escs[n]? = some (c, p)) (hn : n < 9) :
    (Instr.mapUpdate 108 (.map (some W.heap.size)) (.int .u8 (c : Int)) (.string ⟨#[p]⟩)).run Tryz.prog (W.alloc (.map (tab n) n)) = .ok () (W.alloc (.map (tab (n + 1)) (n + 1))) := by
  have hl : ∀ m : Nat, m < 9 → ∀ q, escs[m]? = some q → Instr.findNow (.int .u8) (.int .u8 (q.1 : Int)) (tab m).toList 0 = some none ∧ (tab m).push (ent m q) = tab (m + 1) := by
    intro m hm q hq
    match m, hm with
    | 0, _ => cases hq; exact ⟨rfl, rfl⟩
    | 1, _ => cases hq; exact ⟨rfl, rfl⟩
    | 2, _ => cases hq; exact ⟨rfl, rfl⟩
    | 3, _ => cases hq; exact ⟨rfl, rfl⟩
    | 4, _ => cases hq; exact ⟨rfl, rfl⟩
    | 5, _ => cases hq; exact ⟨rfl, rfl⟩
    | 6, _ => cases hq; exact ⟨rfl, rfl⟩
    | 7, _ => cases hq; exact ⟨rfl, rfl⟩
    | 8, _ => cases hq; exact ⟨rfl, rfl⟩
  obtain ⟨h1, h2⟩ := hl n hn _ h
  rw [run_insert_u8 W 108 5 9 Tryz.u108 Tryz.u5 (tab n) n c _ h1, ← h2]
  rfl
end Go.Proofs.YtiicdalodfjgaaaGreatFmt
