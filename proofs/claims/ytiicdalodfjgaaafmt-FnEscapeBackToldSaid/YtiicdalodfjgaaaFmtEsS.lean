/- What the escape of a control rune prints: four figures of base 16. -/
import Derived.Test.YtiicdalodfjgaaaFmtSp
import Derived.Test.YtiicdalodfjgaaaFmtEsA
import Derived.Stop.FmtTextKit
import Derived.Stop.FmtTextWidths
import Derived.Stop.Told
import Derived.Stop.Texts
import Derived.SizedLaws
import Derived.Laws.IdiomStrings
import Derived.Test.YtiicdalodfjgaaaFmtUnD
namespace Go.Proofs
open Go.Extern.Stop Go.Stop Go.Extern
@[go_sem] theorem Tryf.fmt3 (w : World) : (FmtDoors.printed ⟨#[37, 48, 52, 120]⟩ 1).run Tryf.prog w = .ok [(0, 120, false)] w := by kernel_rfl
@[go_sem] theorem Tryf.fmt3p : FmtStop.printed? ⟨#[37, 48, 52, 120]⟩ 1 = some [(0, 120, false)] := by kernel_rfl
@[go_sem] theorem Tryf.conv9_44 (w : World) (s : ByteArray) : (convert 9 44 (.string s)).run Tryf.prog w = .ok (.slice (some ⟨w.heap.size, 0, none⟩) s.size (grownCap w s.size 0 5))
      (w.drew.alloc (.cells (bytesRow s (grownCap w s.size 0 5)) 5 ((bytesRow s (grownCap w s.size 0 5)).size, (bytesRow s (grownCap w s.size 0 5)).size + 1))) := run_bytes_of_string w 9 44 5 s Tryf.underlying9 Tryf.underlying44 Tryf.underlying5
def Tryf.shape3 : List UInt8 := [5, 3, 0, 0, 0, 0, 0, 0, 0, 105, 110, 116]
@[go_sem] theorem Tryf.op3_120 (name : String) (x : Int) (w : World) : (FmtStop.operand name false 120 false (.iface 3 (.int .i64 x))).run Tryf.prog w = .ok (Tryf.shape3, Go.Extern.Stop.digits 8 (x % 2 ^ 64).toNat) w := by kernel_rfl
end Go.Proofs
namespace Go.Proofs.YtiicdalodfjgaaaFmt
open Go.RowKit
open Go.Extern.Stop Go.Stop Go.Extern
set_option maxRecDepth 100000 in
theorem text_all : ∀ r : Fin 160, FmtText.text "fmt.Sprintf" [[37, 48, 52, 120], Tryf.shape3, digits 8 (((r.1 : Int)) % 2 ^ 64).toNat] = some (hex4 r.1) := by decide +kernel
theorem told_hex (F : Interp) (r : Nat) (h : r < 160) : F.told.string "fmt.Sprintf" [[37, 48, 52, 120], Tryf.shape3, digits 8 ((r : Int) % 2 ^ 64).toNat] 0 = hex4 r :=
  told_string F (text_all ⟨r, h⟩) (show 4 < 2 ^ 63 by decide)
theorem text_hex (G : Interp) (r : Nat) (h : r < 160) : FmtStop.textOf (G.told "fmt.Sprintf" [[37, 48, 52, 120], Tryf.shape3, digits 8 (r % 18446744073709551616)] 0) = ⟨(hex4 r).toArray⟩ := by
  have e : ((r : Int) % 2 ^ 64).toNat = r % 18446744073709551616 := by omega
  have := told_hex G r h
  rw [e] at this
  apply ByteArray.ext
  apply Array.toList_inj.1
  rw [Kit.textOf_list, this]
theorem row_src (w : World) (l : List UInt8) (c : Nat) (m : Nat × Nat) (T : TypeId) (j : Nat) (v : Value) (h : (Lib.byteCells l)[j]? = some v) :
    (w.alloc (.cells (bytesRow ⟨l.toArray⟩ c) T m)).cell? ((⟨w.heap.size, 0, none⟩ : Addr).add j) = some v := by
  have hj : j < l.length := by
    have := (List.getElem?_eq_some_iff.1 h).1
    rwa [Lib.byteCells_length] at this
  have hb : (bytesRow ⟨l.toArray⟩ c)[j]? = some v := by
    rw [← h]
    unfold bytesRow Lib.byteCells
    rw [Array.getElem?_append_left (by simpa using hj)]
    simp
  have hg := heap_alloc_new w (.cells (bytesRow ⟨l.toArray⟩ c) T m)
  have e : (⟨w.heap.size, 0, none⟩ : Addr).add j = ⟨w.heap.size, j, none⟩ := by simp [Addr.add]; exact fun h => h.symm
  rw [e]
  unfold World.cell?
  rw [hg]
  exact hb
theorem wr_hex (b : Nat) (acc : List UInt8) (d : Nat) (w : World) (cap : Nat) (m : Nat × Nat) (A : Obj) (hB : Buf b acc w) (hbs : b ≤ w.heap.size) (hl : acc.length ≤ 100000) :
    Calls Tryf.prog 23 #[.pointer (some ⟨b, 0, none⟩), .slice (some ⟨w.heap.size + 1, 0, none⟩) (⟨(hex4 d).toArray⟩ : ByteArray).size cap] ((w.alloc A).alloc (.cells (bytesRow ⟨(hex4 d).toArray⟩ cap) 5 m)).drew.drew fun e w' => (∃ v, e = .returned v) ∧ Buf b (acc ++ hex4 d) w' ∧ Below b w w' := by
  have hlt := hB.lt
  have hlen4 : (Lib.byteCells (hex4 d)).length = 4 := Lib.byteCells_length _
  have h4 : (⟨(hex4 d).toArray⟩ : ByteArray).size = 4 := rfl
  have hbb : Below w.heap.size w ((w.alloc A).alloc (.cells (bytesRow ⟨(hex4 d).toArray⟩ cap) 5 m)).drew.drew := (((((Below.refl _ _).alloc (Nat.le_refl _) _).alloc (by simp) _).drew).drew)
  have hsrc := row_src (w.alloc A) (hex4 d) cap m 5
  have hsz : (w.alloc A).heap.size = w.heap.size + 1 := by simp
  rw [hsz] at hsrc
  have hbuf4 := hB.old hbb
  have hbw4 := hbb.mono hbs
  have hle := hbw4.size
  rw [h4]
  generalize hW : ((w.alloc A).alloc (.cells (bytesRow ⟨(hex4 d).toArray⟩ cap) 5 m)).drew.drew = W at hbuf4 hbw4 hle ⊢
  have hsrc' : ∀ j v, (Lib.byteCells (hex4 d))[j]? = some v → W.cell? ((⟨w.heap.size + 1, 0, none⟩ : Addr).add j) = some v := by
    intro j v hj
    rw [← hW]
    exact hsrc j v hj
  clear hW hsrc hbb
  refine (Tryf.Buffer_Write_any b b _ (Lib.byteCells (hex4 d)) ⟨w.heap.size + 1, 0, none⟩ 4 cap W hbuf4 (by omega) (Lib.byteCells_one _) hlen4 (by simp; omega) hsrc' (Lib.byteCells_one _) (by rw [Lib.byteCells_length]; omega)).mono ?_
  rintro e w5 ⟨rfl, hbuf5, hb5, -⟩
  rw [← Lib.byteCells_append] at hbuf5
  exact ⟨⟨_, rfl⟩, hbuf5, hbw4.trans hb5⟩
end Go.Proofs.YtiicdalodfjgaaaFmt
