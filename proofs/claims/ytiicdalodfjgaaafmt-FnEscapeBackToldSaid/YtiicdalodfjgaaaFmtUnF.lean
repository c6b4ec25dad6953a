/- The thin package's Unescape and the law FnUnescape. -/
import Derived.Test.YtiicdalodfjgaaaFmtUnE
namespace Go.Proofs.YtiicdalodfjgaaaFmt
open Go.RowKit Go.Extern.Stop Go.Stop Go.Extern

def ImPost (s : ByteArray) (w : World) (e : Ending) (w' : World) : Prop :=
  (match unescC s with | some out => e = .returned (.tuple #[.string ⟨out.toArray⟩, .bool true]) | none => ∃ o, e = .returned (.tuple #[.string o, .bool false])) ∧ Below w.heap.size w w'

set_option maxHeartbeats 1000000 in
set_option maxRecDepth 1000000 in
theorem impl_any (F : Interp) (ev : Value) (s : ByteArray) (w : World) (hs : s.size ≤ 20000) (hF : F.answers w.tape) (hT : Lib.Utf8Tabs 0 1 w) (hE : w.cell? ⟨3, 0, none⟩ = some ev) :
    Calls Tryf.prog 6 #[.string s] w fun e w' => ImPost s w e w' := by
  have h0 : Below w.heap.size w (w.alloc (.cells LOC 41)) := (Below.refl _ _).alloc (Nat.le_refl _) _
  have hEnv : Env F ev w.heap.size (w.alloc (.cells LOC 41)) := ⟨hF, Utf8Tabs_below hT h0, by rw [h0.cell (lt_of_cell hE)]; exact hE, heap_alloc_new w _⟩
  go_enter Tryf.func6, Tryf.ntmps6
  go_wp2_with fail
  refine (su_any F ev s _ _ hs hEnv).mono ?_
  intro e w1 hp
  obtain ⟨hm, hb⟩ := hp
  have hb2 : Below w.heap.size w w1 := h0.trans (hb.mono (by simp))
  cases hu : unescC s with
  | some out =>
    rw [hu] at hm
    have HU := Lib.hid hu
    clear hu
    simp only at hm
    subst hm
    go_wp2_with fail
    go_quiet (fail)
    go_wp2_with fail
    go_ret2
    unfold ImPost
    rw [HU.out]
    exact ⟨rfl, below_drewN hb2 _⟩
  | none =>
    rw [hu] at hm
    have HU := Lib.hid hu
    clear hu
    obtain ⟨o, T, v, rfl⟩ := hm
    go_wp2_with fail
    go_quiet (fail)
    go_wp2_with fail
    go_ret2
    unfold ImPost
    rw [HU.out]
    exact ⟨⟨_, rfl⟩, below_drewN hb2 _⟩

theorem uS_state (s : ByteArray) : ∀ (f i : Nat) (out : List UInt8), (uS s f i out).2 = 0 ∨ (uS s f i out).2 = 1 ∨ (uS s f i out).2 = 2
  | 0, i, out => .inl rfl
  | f + 1, i, out => by
    unfold uS
    repeat' split
    all_goals first | exact uS_state s f _ _ | simp
theorem unesc_state (s : ByteArray) : (unesc s).2 = 0 ∨ (unesc s).2 = 1 ∨ (unesc s).2 = 2 := by
  unfold unesc
  split
  · exact uS_state s _ _ _
  · exact .inl rfl

set_option maxHeartbeats 2000000 in
set_option maxRecDepth 1000000 in
theorem unLaw_any (F : Interp) (ev : Value) (s : ByteArray) (w : World) (hs : s.size ≤ maxLen) (hF : F.answers w.tape) (hT : Lib.Utf8Tabs 0 1 w) (hE : w.cell? ⟨3, 0, none⟩ = some ev) :
    Calls Tryf.prog 3 #[.string s] w fun e w' => e = .returned (.bool true) ∧ Below w.heap.size w w' := by
  unfold maxLen at hs
  by_cases h2 : s.size ≤ 2000
  · obtain ⟨out, hout⟩ : ∃ out, (unesc s).1 = out := ⟨_, rfl⟩
    obtain ⟨st, hst⟩ : ∃ st, (unesc s).2 = st := ⟨_, rfl⟩
    have hag := unesc_agree s
    have hss := unesc_state s
    rw [hst] at hss
    obtain ⟨ag1, ag2⟩ := hag
    rw [hst, hout] at ag1
    rw [hst] at ag2
    have H5 := fun w => spec_any s w (by omega)
    unfold SpPost at H5
    rw [hout, hst] at H5
    clear hout hst
    have AG1 := Lib.hid ag1
    have AG2 := Lib.hid ag2
    clear ag1 ag2
    go_enter Tryf.func3, Tryf.ntmps3
    go_wp2_with fail
    refine (H5 _).mono ?_
    rintro e w1 ⟨rfl, hb1⟩
    have hF1 : F.answers w1.tape := by rw [hb1.tape]; exact hF
    have hT1 := Utf8Tabs_below hT hb1
    have hE1 : w1.cell? ⟨3, 0, none⟩ = some ev := by rw [hb1.cell (lt_of_cell hE)]; exact hE
    go_wp2_with fail
    refine (impl_any F ev s w1 (by omega) hF1 hT1 hE1).mono ?_
    intro e w2 hp
    obtain ⟨hm, hb2⟩ := hp
    have hb : Below w.heap.size w w2 := hb1.trans (hb2.mono hb1.size)
    clear hF1 hT1 hE1
    rcases hss with rfl | rfl | rfl
    · cases hu : unescC s with
      | some o =>
        rw [hu] at hm
        simp only at hm
        subst hm
        clear hu
        go_wp2_with fail
        go_ret
        exact ⟨rfl, hb⟩
      | none =>
        rw [hu] at hm
        obtain ⟨o, rfl⟩ := hm
        clear hu
        go_wp2_with fail
        go_ret
        exact ⟨rfl, hb⟩
    · have hu := AG1.out rfl
      rw [hu] at hm
      simp only at hm
      subst hm
      clear hu
      go_wp2_with fail
      go_ret
      exact ⟨rfl, hb⟩
    · have hu := AG2.out rfl
      rw [hu] at hm
      obtain ⟨o, rfl⟩ := hm
      clear hu
      go_wp2_with fail
      go_ret
      exact ⟨rfl, hb⟩
  · have h3 : 2000 < s.size := by omega
    go_enter Tryf.func3, Tryf.ntmps3
    go_wp2
    all_goals
      go_ret
      exact ⟨rfl, Below.refl _ _⟩
end Go.Proofs.YtiicdalodfjgaaaFmt
