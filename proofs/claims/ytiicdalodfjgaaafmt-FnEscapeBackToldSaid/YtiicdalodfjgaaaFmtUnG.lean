/- The start that is shown to be there: a world in which the four listed variables hold what their initialisers lay; and what the listed variables give to a walk. -/
import Derived.Test.YtiicdalodfjgaaaFmtRows
import Derived.Test.YtiicdalodfjgaaaFmtSh
import Derived.ProofKit
import Derived.Stop.JoinedAt
import Derived.Stop.Texts
import Derived.Stop.JoinedTold
import Derived.Stop.LaidErr
import Derived.Lib.LaidTab
import Derived.Lib.LaidU8
import Derived.Lib.LaidIn
import Derived.SizedLaws
import Derived.Deep.DeepWitnessRef
import Derived.Deep.DeepWitnessRowRef
namespace Go.Proofs.YtiicdalodfjgaaaFmt
open Go.Lib Go.RowKit Go.WideShapes Go.ChangeShapes

theorem own : ownKnob Tryf.prog.godebug = none := by kernel_rfl
theorem d_first : Rows.laid_unicode_utf8_first = Lib.firstData := by kernel_rfl
theorem d_accept : (Rows.laid_unicode_utf8_acceptRanges : DataW Unit) = Lib.acceptData := by kernel_rfl

def tooLarge : ByteArray := ⟨#[98, 121, 116, 101, 115, 46, 66, 117, 102, 102, 101, 114, 58, 32, 116, 111, 111, 32, 108, 97, 114, 103, 101]⟩
def oddLength : ByteArray := ⟨#[101, 110, 99, 111, 100, 105, 110, 103, 47, 104, 101, 120, 58, 32, 111, 100, 100, 32, 108, 101, 110, 103, 116, 104, 32, 104, 101, 120, 32, 115, 116, 114, 105, 110, 103]⟩
def firstCells : Array Value := (Lib.firstTab.map (Value.int .u8)).toArray
def acceptCells : Array Value := ((List.range 16).flatMap fun i => [Value.int .u8 (Lib.accLo i : Int), .int .u8 (Lib.accHi i : Int)]).toArray

noncomputable def laidWorld (os : Os) : World :=
  let N := (World.settled Tryf.prog os).heap.size
  let w0 := World.holding Tryf.prog os ⟨#[.cells #[.string tooLarge] 107, .cells #[.string oddLength] 107], #[], []⟩
  let put (h : Array Obj) (g : Nat) (cs : Array Value) : Array Obj := h.modify g fun
    | .cells _ t frozen => .cells cs t frozen
    | o => o
  { w0 with heap := put (put (put (put w0.heap 0 firstCells) 1 acceptCells) 2 #[.iface 82 (.pointer (some ⟨N, 0, none⟩))]) 3 #[.iface 82 (.pointer (some ⟨N + 1, 0, none⟩))] }

noncomputable abbrev N0 : Nat := (World.settled Tryf.prog default).heap.size
set_option maxRecDepth 1000000 in
theorem laid_in (os : Os) (args : Array Value) : LaidIn Tryf.prog ((laidWorld os).forCall (fun _ _ => 0) ⟨#[], args, []⟩).memory Rows.fnUnescapeRow.laid [1, 2, N0, 3, N0 + 1, 0] :=
  LaidIn.of_run [1, 2, N0, 3, N0 + 1, 0] 10 (by kernel_rfl) (by kernel_rfl) (by kernel_rfl) (by kernel_rfl)

theorem star : "*" ++ "errors.errorString" = "*errors.errorString" := by decide
theorem row82 (u : TypeId) (h : Tryf.prog.typeName? 3 u = some "*errors.errorString") : u = 82 :=
  typeName_ptr_named (nm := "errors.errorString") (by rw [star]; kernel_rfl) (by kernel_rfl) (by decide) u (by rw [star]; exact h)

/-- what the listed variables give. -/
theorem vars_give {W : World} (hL : laidMet Tryf.prog Rows.fnUnescapeRow.laid W) : Lib.Utf8Tabs 0 1 W ∧ ∃ ev, W.cell? ⟨3, 0, none⟩ = some ev := by
  constructor
  · exact utf8Tabs_of_reads (ρ := Tryf.lays197_ren) { Tryf.lays197 with } ⟨by kernel_rfl, by kernel_rfl, by kernel_rfl, by kernel_rfl, by kernel_rfl, by kernel_rfl, by kernel_rfl⟩
      (d_first ▸ Lib.laidMet.reads hL (by simp [Rows.fnUnescapeRow])) (d_accept ▸ Lib.laidMet.reads hL (by simp [Rows.fnUnescapeRow]))
  · obtain ⟨a, t, hv, _⟩ := laid_sentinel (g := 3) hL.tail.tail (by kernel_rfl) (by kernel_rfl) Tryf.underlying33 row82 Tryf.underlying82 Tryf.underlying107 rfl rfl Tryf.underlying9 (by kernel_rfl) (by kernel_rfl)
    exact ⟨_, (World.var?_cell (by kernel_rfl) hv 0).trans rfl⟩

section
variable {H : Type} {enc : TypeId × Value → H} {P : Program}
theorem post_of_below {f : Func} {s : ChangeSpec} {apart fresh handsOn again : Bool} {W W' : World} {args : Array Value} {v : Value} {ds gs : List (DataW H)} {before pa pv : List MemPlace}
    (hW : DataW.Whole enc P f.params.toList s.vars apart W args.toList ds gs before)
    (hres : ∀ (b : Nat) (sp : Nat → Bool) (hd : Bool), DataW.TrodAll enc P W' b sp hd f.resultTypes.toList (v.resultList f.resultTypes.size) (s.fn H (ds ++ gs)).results [])
    (hargs : ∀ sp : Nat → Bool, (∀ p ∈ before, sp p.block = true) → DataW.TrodAll enc P W' 0 sp true f.params.toList args.toList (s.fn H (ds ++ gs)).args pa)
    (hvars : ∀ sp : Nat → Bool, (∀ p ∈ before, sp p.block = true) → DataW.TrodVars enc P W' sp s.vars (s.fn H (ds ++ gs)).vars pv)
    (hps : before = pa ++ pv) (hb : Below W.heap.size W W')
    (hok : ∀ (j : Nat) (t : TypeId) (r : Value), f.resultTypes[j]? = some t → (v.resultList f.resultTypes.size)[j]? = some r → Value.okWide P W' .any 0 t r) :
    s.post enc P f apart fresh handsOn again W args v W' := by
  have hlt : ∀ p ∈ before, p.block < W.heap.size := fun p hp => hW.lt p hp
  have hold : ∀ p ∈ before, (fun b => decide (b < W.heap.size)) p.block = true := fun p hp => by simpa using hlt p hp
  refine ⟨ds, gs, before, [], pa, pv, hW, hres _ _ _, hargs _ hold, hvars _ hold, World.keptBut_mono (fun p hp => ⟨hp, ?_⟩) (hb.frame (· ∈ before)), fun _ => ?_⟩
  · rw [hps, List.mem_append] at hp
    exact Or.inr hp
  · obtain ⟨_, _, _, _, _, hz, hn⟩ := hW
    refine ⟨hok, _, _, ([] ++ pa) ++ pv, ⟨[] ++ pa, pv, trodAll_append (hargs _ (fun _ _ => rfl)) (hres _ _ _), hvars _ (fun _ _ => rfl), rfl, ?_, ?_⟩, ?_⟩
    · intro b off hp
      have hin : MemPlace.cell b off ∈ before := by rw [hps]; simpa using hp
      rw [hb.frozen (hlt _ hin)]
      exact hz b off hin
    · intro ha
      have := hn ha
      rw [hps] at this
      simpa using this
    · intro p hp _
      rw [hps]
      simpa using hp
end
end Go.Proofs.YtiicdalodfjgaaaFmt
