/- Contracts of Go's library at this dump, laid by the kit's shelf (its plain mode). -/
import Derived.Ground.PaProg
import Derived.Shelf.Hex.Tagged
import Derived.Shelf.Utf8.AppendRune
import Derived.Shelf.Utf8.AppendRunePlain
import Derived.Shelf.LaysM
import Derived.Shelf.Bytes.Len
import Derived.Shelf.Bytes.TryGrow
import Derived.Shelf.Bytes.GrowSliceCatch
import Derived.Shelf.Bytes.GrowSlice
import Derived.Shelf.Bytes.String
import Derived.Shelf.Bytes.Reset
import Derived.Shelf.Bytes.GrowRow0Kept
import Derived.Shelf.Bytes.GrowRowKept
import Derived.Shelf.Bytes.GrowNilKept
import Derived.Shelf.Bytes.GrowKept
import Derived.Shelf.Bytes.WriteByteKept
import Derived.Shelf.Bytes.WriteStringKept
import Derived.Shelf.Bytes.ResetKept
import Derived.Shelf.Bytes.WriteKept
import Derived.Shelf.Bytes.BufferK
import Derived.Shelf.Bytes.GrowRow0Own
import Derived.Shelf.Bytes.GrowRowOwn
import Derived.Shelf.Bytes.GrowNilOwn
import Derived.Shelf.Bytes.GrowOwn
import Derived.Shelf.Bytes.WriteAny
import Derived.Ground.MzProg
import Derived.Shelf.Wr.WriteRuneAscii
import Derived.Shelf.Wr.WriteRune
import Derived.Shelf.Bytes.LenAt
import Derived.Shelf.Bytes.StringAt
import Derived.Shelf.Bytes.TryGrowAt
import Derived.Shelf.Bytes.GrowRow0At
import Derived.Shelf.Bytes.GrowRowAt
import Derived.Shelf.Bytes.GrowNilAt
import Derived.Shelf.Bytes.GrowAt
import Derived.Shelf.Bytes.WriteByteAt
import Derived.Shelf.Bytes.WriteStringAt
import Derived.Shelf.Bytes.WriteAt
import Derived.Shelf.Unicode.Decode
import Derived.Shelf.Unicode.DecodeSlow
import Derived.Shelf.Unicode.DecodeAny
import Derived.Shelf.Hex.Lens
import Derived.Shelf.Hex.Decode
import Derived.Shelf.Hex.DecodeOwns
import Derived.Shelf.Hex.More
import Derived.Test.YtiicdalodfjgaaaFmtProg
namespace Go.Proofs
open Go.Shelf
def Tryf.laysM182_ren : Go.Shelf.Ren := ⟨fun | 182 => 21 | n => n, fun | 130 => 67 | 9 => 9 | 4 => 4 | 0 => 0 | 93 => 48 | 37 => 44 | 3 => 3 | 91 => 46 | 5 => 5 | n => n, fun | n => n⟩
theorem Tryf.laysM182 : Go.Proofs.LaysM.n182 Tryf.prog Tryf.laysM182_ren := {
  mixed := by kernel_rfl
  f182 := Tryf.func21.trans (congrArg some (by kernel_rfl))
  t0 := Tryf.underlying0
  a0 := Tryf.isAgg0
  z0 := Tryf.sizeOf0
  v0 := Tryf.zeroValue0
  t3 := Tryf.underlying3
  a3 := Tryf.isAgg3
  z3 := Tryf.sizeOf3
  v3 := Tryf.zeroValue3
  t4 := Tryf.underlying4
  a4 := Tryf.isAgg4
  z4 := Tryf.sizeOf4
  v4 := Tryf.zeroValue4
  t9 := Tryf.underlying9
  a9 := Tryf.isAgg9
  z9 := Tryf.sizeOf9
  v9 := Tryf.zeroValue9
  t37 := Tryf.underlying44
  a37 := Tryf.isAgg44
  z37 := Tryf.sizeOf44
  v37 := Tryf.zeroValue44
  t93 := Tryf.underlying48
  a93 := Tryf.isAgg48
  z93 := Tryf.sizeOf48
  v93 := Tryf.zeroValue48
  t130 := Tryf.underlying67
  a130 := Tryf.isAgg67
  z130 := Tryf.sizeOf67
  v130 := Tryf.zeroValue67
  t5 := Tryf.underlying5
  a5 := Tryf.isAgg5
  z5 := Tryf.sizeOf5
  v5 := Tryf.zeroValue5
  t91 := Tryf.underlying46
  a91 := Tryf.isAgg46
  z91 := Tryf.sizeOf46
  v91 := Tryf.zeroValue46
  i0 := by kernel_rfl
  i3 := by kernel_rfl
  i4 := by kernel_rfl
  i5 := by kernel_rfl
  i9 := by kernel_rfl
  i37 := by kernel_rfl
  i91 := by kernel_rfl
  i93 := by kernel_rfl
  i130 := by kernel_rfl }
open Go.RowKit in
theorem Tryf.Buffer_String (B b : Nat) (l : List UInt8) (w : World) (h : Lib.IsBuffer 48 5 B b (Lib.byteCells l) w) :
    Calls Tryf.prog 21 #[.pointer (some ⟨b, 0, none⟩)] w fun e w' => e = .returned (.string ⟨l.toArray⟩) ∧ ∃ n, w' = w.drewN n := Any.Buffer_String Tryf.laysM182 B b l w h
def Tryf.laysM178_ren : Go.Shelf.Ren := ⟨fun | 178 => 22 | 251 => 27 | 252 => 28 | 181 => 32 | 184 => 33 | 290 => 34 | 324 => 36 | n => n, fun | 130 => 67 | 9 => 9 | 3 => 3 | 75 => 33 | 0 => 0 | 93 => 48 | 91 => 46 | 131 => 70 | 4 => 4 | 37 => 44 | 20 => 20 | 80 => 61 | 5 => 5 | n => n, fun | 14 => 2 | n => n⟩
theorem Tryf.laysM178 : Go.Proofs.LaysM.n178 Tryf.prog Tryf.laysM178_ren := {
  mixed := by kernel_rfl
  f178 := Tryf.func22.trans (congrArg some (by kernel_rfl))
  f181 := Tryf.func32.trans (congrArg some (by kernel_rfl))
  f184 := Tryf.func33.trans (congrArg some (by kernel_rfl))
  f251 := Tryf.func27.trans (congrArg some (by kernel_rfl))
  f252 := Tryf.func28.trans (congrArg some (by kernel_rfl))
  f290 := Tryf.func34.trans (congrArg some (by kernel_rfl))
  f324 := Tryf.func36.trans (congrArg some (by kernel_rfl))
  t0 := Tryf.underlying0
  a0 := Tryf.isAgg0
  z0 := Tryf.sizeOf0
  v0 := Tryf.zeroValue0
  t3 := Tryf.underlying3
  a3 := Tryf.isAgg3
  z3 := Tryf.sizeOf3
  v3 := Tryf.zeroValue3
  t4 := Tryf.underlying4
  a4 := Tryf.isAgg4
  z4 := Tryf.sizeOf4
  v4 := Tryf.zeroValue4
  t9 := Tryf.underlying9
  a9 := Tryf.isAgg9
  z9 := Tryf.sizeOf9
  v9 := Tryf.zeroValue9
  t20 := Tryf.underlying20
  a20 := Tryf.isAgg20
  z20 := Tryf.sizeOf20
  v20 := Tryf.zeroValue20
  t37 := Tryf.underlying44
  a37 := Tryf.isAgg44
  z37 := Tryf.sizeOf44
  v37 := Tryf.zeroValue44
  t75 := Tryf.underlying33
  a75 := Tryf.isAgg33
  z75 := Tryf.sizeOf33
  v75 := Tryf.zeroValue33
  t91 := Tryf.underlying46
  a91 := Tryf.isAgg46
  z91 := Tryf.sizeOf46
  v91 := Tryf.zeroValue46
  t93 := Tryf.underlying48
  a93 := Tryf.isAgg48
  z93 := Tryf.sizeOf48
  v93 := Tryf.zeroValue48
  t130 := Tryf.underlying67
  a130 := Tryf.isAgg67
  z130 := Tryf.sizeOf67
  v130 := Tryf.zeroValue67
  t131 := Tryf.underlying70
  a131 := Tryf.isAgg70
  z131 := Tryf.sizeOf70
  v131 := Tryf.zeroValue70
  g14 := by kernel_rfl
  t5 := Tryf.underlying5
  a5 := Tryf.isAgg5
  z5 := Tryf.sizeOf5
  v5 := Tryf.zeroValue5
  t80 := Tryf.underlying61
  a80 := Tryf.isAgg61
  z80 := Tryf.sizeOf61
  v80 := Tryf.zeroValue61
  i0 := by kernel_rfl
  i3 := by kernel_rfl
  i4 := by kernel_rfl
  i5 := by kernel_rfl
  i9 := by kernel_rfl
  i20 := by kernel_rfl
  i37 := by kernel_rfl
  i75 := by kernel_rfl
  i80 := by kernel_rfl
  i91 := by kernel_rfl
  i93 := by kernel_rfl
  i130 := by kernel_rfl
  i131 := by kernel_rfl
  m14 := by kernel_rfl }
def Tryf.laysM180_ren : Go.Shelf.Ren := ⟨fun | 180 => 23 | 251 => 27 | 252 => 28 | 181 => 32 | 184 => 33 | 290 => 34 | 324 => 36 | n => n, fun | 130 => 67 | 37 => 44 | 3 => 3 | 75 => 33 | 0 => 0 | 93 => 48 | 91 => 46 | 131 => 70 | 4 => 4 | 20 => 20 | 5 => 5 | 80 => 61 | 9 => 9 | n => n, fun | 14 => 2 | n => n⟩
theorem Tryf.laysM180 : Go.Proofs.LaysM.n180 Tryf.prog Tryf.laysM180_ren := {
  mixed := by kernel_rfl
  f180 := Tryf.func23.trans (congrArg some (by kernel_rfl))
  f181 := Tryf.func32.trans (congrArg some (by kernel_rfl))
  f184 := Tryf.func33.trans (congrArg some (by kernel_rfl))
  f251 := Tryf.func27.trans (congrArg some (by kernel_rfl))
  f252 := Tryf.func28.trans (congrArg some (by kernel_rfl))
  f290 := Tryf.func34.trans (congrArg some (by kernel_rfl))
  f324 := Tryf.func36.trans (congrArg some (by kernel_rfl))
  t0 := Tryf.underlying0
  a0 := Tryf.isAgg0
  z0 := Tryf.sizeOf0
  v0 := Tryf.zeroValue0
  t3 := Tryf.underlying3
  a3 := Tryf.isAgg3
  z3 := Tryf.sizeOf3
  v3 := Tryf.zeroValue3
  t4 := Tryf.underlying4
  a4 := Tryf.isAgg4
  z4 := Tryf.sizeOf4
  v4 := Tryf.zeroValue4
  t20 := Tryf.underlying20
  a20 := Tryf.isAgg20
  z20 := Tryf.sizeOf20
  v20 := Tryf.zeroValue20
  t37 := Tryf.underlying44
  a37 := Tryf.isAgg44
  z37 := Tryf.sizeOf44
  v37 := Tryf.zeroValue44
  t75 := Tryf.underlying33
  a75 := Tryf.isAgg33
  z75 := Tryf.sizeOf33
  v75 := Tryf.zeroValue33
  t91 := Tryf.underlying46
  a91 := Tryf.isAgg46
  z91 := Tryf.sizeOf46
  v91 := Tryf.zeroValue46
  t93 := Tryf.underlying48
  a93 := Tryf.isAgg48
  z93 := Tryf.sizeOf48
  v93 := Tryf.zeroValue48
  t130 := Tryf.underlying67
  a130 := Tryf.isAgg67
  z130 := Tryf.sizeOf67
  v130 := Tryf.zeroValue67
  t131 := Tryf.underlying70
  a131 := Tryf.isAgg70
  z131 := Tryf.sizeOf70
  v131 := Tryf.zeroValue70
  g14 := by kernel_rfl
  t5 := Tryf.underlying5
  a5 := Tryf.isAgg5
  z5 := Tryf.sizeOf5
  v5 := Tryf.zeroValue5
  t9 := Tryf.underlying9
  a9 := Tryf.isAgg9
  z9 := Tryf.sizeOf9
  v9 := Tryf.zeroValue9
  t80 := Tryf.underlying61
  a80 := Tryf.isAgg61
  z80 := Tryf.sizeOf61
  v80 := Tryf.zeroValue61
  i0 := by kernel_rfl
  i3 := by kernel_rfl
  i4 := by kernel_rfl
  i5 := by kernel_rfl
  i9 := by kernel_rfl
  i20 := by kernel_rfl
  i37 := by kernel_rfl
  i75 := by kernel_rfl
  i80 := by kernel_rfl
  i91 := by kernel_rfl
  i93 := by kernel_rfl
  i130 := by kernel_rfl
  i131 := by kernel_rfl
  m14 := by kernel_rfl }
open Go.RowKit in
theorem Tryf.Buffer_WriteString_k (B b : Nat) (bs : List Value) (s : ByteArray) (w : World) (h : Lib.IsBuffer 48 5 B b bs w) (hBw : B ≤ w.heap.size) (h1 : ∀ v ∈ bs, v.oneCell' = true) (hlim : bs.length + s.size ≤ 140737488355328) :
    Calls Tryf.prog 22 #[.pointer (some ⟨b, 0, none⟩), .string s] w fun e w' => e = .returned (.tuple #[.int .i64 s.size, .nilIface]) ∧ Lib.IsBuffer 48 5 B b (bs ++ Lib.byteCells s.data.toList) w' ∧ Below B w w' ∧ Lib.OthersKept 5 (some b) w w' := Any.Buffer_WriteString_k Tryf.laysM178 B b bs s w h hBw h1 hlim
open Go.RowKit in
theorem Tryf.Buffer_Write_any (B b : Nat) (bs cs : List Value) (a : Addr) (n c : Nat) (w : World) (h : Lib.IsBuffer 48 5 B b bs w) (hBw : B ≤ w.heap.size) (h1 : ∀ v ∈ bs, v.oneCell' = true) (hn : cs.length = n) (hab : a.block ≠ b) (hsrc : ∀ j v, cs[j]? = some v → w.cell? (a.add j) = some v) (h1c : ∀ v ∈ cs, v.oneCell' = true) (hlim : bs.length + n ≤ 140737488355328) :
    Calls Tryf.prog 23 #[.pointer (some ⟨b, 0, none⟩), .slice (some a) n c] w fun e w' => e = .returned (.tuple #[.int .i64 n, .nilIface]) ∧ Lib.IsBuffer 48 5 B b (bs ++ cs) w' ∧ Below B w w' ∧ Lib.OthersKept 5 (some b) w w' := Any.Buffer_Write_any Tryf.laysM180 B b bs cs a n c w h hBw h1 hn hab hsrc h1c hlim
def Tryf.laysWr5_ren : Go.Shelf.Ren := ⟨fun | 5 => 16 | 7 => 26 | 8 => 27 | 9 => 28 | 10 => 29 | 11 => 32 | 12 => 33 | 13 => 34 | 14 => 35 | 15 => 36 | n => n, fun | 34 => 67 | 21 => 21 | 3 => 3 | 28 => 33 | 35 => 68 | 4 => 4 | 5 => 5 | 0 => 0 | 26 => 48 | 24 => 46 | 37 => 70 | 22 => 44 | 43 => 31 | 20 => 20 | 31 => 61 | 9 => 9 | n => n, fun | 0 => 2 | n => n⟩
theorem Tryf.laysWr5 : Go.Proofs.LaysWr.n5 Tryf.prog Tryf.laysWr5_ren := {
  mixed := by kernel_rfl
  f5 := Tryf.func16.trans (congrArg some (by kernel_rfl))
  f7 := Tryf.func26.trans (congrArg some (by kernel_rfl))
  f8 := Tryf.func27.trans (congrArg some (by kernel_rfl))
  f9 := Tryf.func28.trans (congrArg some (by kernel_rfl))
  f10 := Tryf.func29.trans (congrArg some (by kernel_rfl))
  f11 := Tryf.func32.trans (congrArg some (by kernel_rfl))
  f12 := Tryf.func33.trans (congrArg some (by kernel_rfl))
  f13 := Tryf.func34.trans (congrArg some (by kernel_rfl))
  f14 := Tryf.func35.trans (congrArg some (by kernel_rfl))
  f15 := Tryf.func36.trans (congrArg some (by kernel_rfl))
  t0 := Tryf.underlying0
  a0 := Tryf.isAgg0
  z0 := Tryf.sizeOf0
  v0 := Tryf.zeroValue0
  i0 := by kernel_rfl
  t3 := Tryf.underlying3
  a3 := Tryf.isAgg3
  z3 := Tryf.sizeOf3
  v3 := Tryf.zeroValue3
  i3 := by kernel_rfl
  t4 := Tryf.underlying4
  a4 := Tryf.isAgg4
  z4 := Tryf.sizeOf4
  v4 := Tryf.zeroValue4
  i4 := by kernel_rfl
  t5 := Tryf.underlying5
  a5 := Tryf.isAgg5
  z5 := Tryf.sizeOf5
  v5 := Tryf.zeroValue5
  i5 := by kernel_rfl
  t9 := Tryf.underlying9
  a9 := Tryf.isAgg9
  z9 := Tryf.sizeOf9
  v9 := Tryf.zeroValue9
  i9 := by kernel_rfl
  t20 := Tryf.underlying20
  a20 := Tryf.isAgg20
  z20 := Tryf.sizeOf20
  v20 := Tryf.zeroValue20
  i20 := by kernel_rfl
  t21 := Tryf.underlying21
  a21 := Tryf.isAgg21
  z21 := Tryf.sizeOf21
  v21 := Tryf.zeroValue21
  i21 := by kernel_rfl
  t22 := Tryf.underlying44
  a22 := Tryf.isAgg44
  z22 := Tryf.sizeOf44
  v22 := Tryf.zeroValue44
  i22 := by kernel_rfl
  t24 := Tryf.underlying46
  a24 := Tryf.isAgg46
  z24 := Tryf.sizeOf46
  v24 := Tryf.zeroValue46
  i24 := by kernel_rfl
  t26 := Tryf.underlying48
  a26 := Tryf.isAgg48
  z26 := Tryf.sizeOf48
  v26 := Tryf.zeroValue48
  i26 := by kernel_rfl
  t28 := Tryf.underlying33
  a28 := Tryf.isAgg33
  z28 := Tryf.sizeOf33
  v28 := Tryf.zeroValue33
  i28 := by kernel_rfl
  t31 := Tryf.underlying61
  a31 := Tryf.isAgg61
  z31 := Tryf.sizeOf61
  v31 := Tryf.zeroValue61
  i31 := by kernel_rfl
  t34 := Tryf.underlying67
  a34 := Tryf.isAgg67
  z34 := Tryf.sizeOf67
  v34 := Tryf.zeroValue67
  i34 := by kernel_rfl
  t35 := Tryf.underlying68
  a35 := Tryf.isAgg68
  z35 := Tryf.sizeOf68
  v35 := Tryf.zeroValue68
  i35 := by kernel_rfl
  t37 := Tryf.underlying70
  a37 := Tryf.isAgg70
  z37 := Tryf.sizeOf70
  v37 := Tryf.zeroValue70
  i37 := by kernel_rfl
  t43 := Tryf.underlying31
  a43 := Tryf.isAgg31
  z43 := Tryf.sizeOf31
  v43 := Tryf.zeroValue31
  i43 := by kernel_rfl
  g0 := by kernel_rfl
  m0 := by kernel_rfl }
open Go.RowKit in
theorem Tryf.Buffer_WriteRune_k (B b : Nat) (bs : List Value) (r : Int) (hr0 : -2147483648 ≤ r) (hr1 : r ≤ 2147483647) (w : World) (h : Lib.IsBuffer 48 5 B b bs w) (hBw : B ≤ w.heap.size) (h1 : ∀ v ∈ bs, v.oneCell' = true) (hlim : bs.length + 4 ≤ 140737488355328) :
    Calls Tryf.prog 16 #[.pointer (some ⟨b, 0, none⟩), .int .i32 r] w fun e w' => e = .returned (.tuple #[.int .i64 (Lib.runeCells r).length, .nilIface]) ∧ Lib.IsBuffer 48 5 B b (bs ++ Lib.runeCells r) w' ∧ Below B w w' ∧ Lib.OthersKept 5 (some b) w w' := Any.Buffer_WriteRune_k Tryf.laysWr5 B b bs r hr0 hr1 w h hBw h1 hlim
def Tryf.lays197_ren : Go.Shelf.Ren := ⟨fun | 197 => 14 | 260 => 25 | n => n, fun | 9 => 9 | 21 => 21 | 3 => 3 | 4 => 4 | 5 => 5 | 105 => 49 | 119 => 75 | 0 => 0 | 46 => 31 | 139 => 78 | 138 => 77 | n => n, fun | 3 => 0 | 4 => 1 | n => n⟩
theorem Tryf.lays197 : Go.Proofs.Lays.n197 Tryf.prog Tryf.lays197_ren := {
  mixed := by kernel_rfl
  f197 := Tryf.func14.trans (congrArg some (by kernel_rfl))
  f260 := Tryf.func25.trans (congrArg some (by kernel_rfl))
  t0 := Tryf.underlying0
  a0 := Tryf.isAgg0
  z0 := Tryf.sizeOf0
  v0 := Tryf.zeroValue0
  t3 := Tryf.underlying3
  a3 := Tryf.isAgg3
  z3 := Tryf.sizeOf3
  v3 := Tryf.zeroValue3
  t4 := Tryf.underlying4
  a4 := Tryf.isAgg4
  z4 := Tryf.sizeOf4
  v4 := Tryf.zeroValue4
  t5 := Tryf.underlying5
  a5 := Tryf.isAgg5
  z5 := Tryf.sizeOf5
  v5 := Tryf.zeroValue5
  t9 := Tryf.underlying9
  a9 := Tryf.isAgg9
  z9 := Tryf.sizeOf9
  v9 := Tryf.zeroValue9
  t21 := Tryf.underlying21
  a21 := Tryf.isAgg21
  z21 := Tryf.sizeOf21
  v21 := Tryf.zeroValue21
  t46 := Tryf.underlying31
  a46 := Tryf.isAgg31
  z46 := Tryf.sizeOf31
  v46 := Tryf.zeroValue31
  t105 := Tryf.underlying49
  a105 := Tryf.isAgg49
  z105 := Tryf.sizeOf49
  v105 := Tryf.zeroValue49
  t119 := Tryf.underlying75
  a119 := Tryf.isAgg75
  z119 := Tryf.sizeOf75
  t138 := Tryf.underlying77
  a138 := Tryf.isAgg77
  z138 := Tryf.sizeOf77
  v138 := Tryf.zeroValue77
  t139 := Tryf.underlying78
  a139 := Tryf.isAgg78
  z139 := Tryf.sizeOf78
  v139 := Tryf.zeroValue78
  g3 := by kernel_rfl
  g4 := by kernel_rfl }
open Go.RowKit Go.Lib in
theorem Tryf.utf8_DecodeRuneInString (s : ByteArray) (w : World) (hT : Lib.Utf8Tabs 0 1 w) :
    Calls Tryf.prog 14 #[.string s] w fun e w' => e = .returned (.tuple #[.int .i32 (Lib.decodeGo s).1, .int .i64 (Lib.decodeGo s).2]) ∧ Below w.heap.size w w' := Any.utf8_DecodeRuneInString Tryf.lays197 s w hT
def Tryf.laysPah43_ren : Go.Shelf.Ren := ⟨fun | 43 => 17 | 42 => 30 | 44 => 31 | n => n, fun | 9 => 9 | 30 => 44 | 35 => 33 | 3 => 3 | 38 => 54 | 4 => 4 | 0 => 0 | 5 => 5 | 47 => 81 | 46 => 31 | 45 => 61 | n => n, fun | 0 => 3 | n => n⟩
theorem Tryf.laysPah43 : Go.Proofs.Lays.ph43 Tryf.prog Tryf.laysPah43_ren := {
  mixed := by kernel_rfl
  f42 := Tryf.func30.trans (congrArg some (by kernel_rfl))
  f43 := Tryf.func17.trans (congrArg some (by kernel_rfl))
  f44 := Tryf.func31.trans (congrArg some (by kernel_rfl))
  t0 := Tryf.underlying0
  a0 := Tryf.isAgg0
  z0 := Tryf.sizeOf0
  v0 := Tryf.zeroValue0
  t3 := Tryf.underlying3
  a3 := Tryf.isAgg3
  z3 := Tryf.sizeOf3
  v3 := Tryf.zeroValue3
  t4 := Tryf.underlying4
  a4 := Tryf.isAgg4
  z4 := Tryf.sizeOf4
  v4 := Tryf.zeroValue4
  t5 := Tryf.underlying5
  a5 := Tryf.isAgg5
  z5 := Tryf.sizeOf5
  v5 := Tryf.zeroValue5
  t9 := Tryf.underlying9
  a9 := Tryf.isAgg9
  z9 := Tryf.sizeOf9
  v9 := Tryf.zeroValue9
  t30 := Tryf.underlying44
  a30 := Tryf.isAgg44
  z30 := Tryf.sizeOf44
  v30 := Tryf.zeroValue44
  t35 := Tryf.underlying33
  a35 := Tryf.isAgg33
  z35 := Tryf.sizeOf33
  v35 := Tryf.zeroValue33
  t38 := Tryf.underlying54
  a38 := Tryf.isAgg54
  z38 := Tryf.sizeOf54
  v38 := Tryf.zeroValue54
  t45 := Tryf.underlying61
  a45 := Tryf.isAgg61
  z45 := Tryf.sizeOf61
  v45 := Tryf.zeroValue61
  t46 := Tryf.underlying31
  a46 := Tryf.isAgg31
  z46 := Tryf.sizeOf31
  v46 := Tryf.zeroValue31
  t47 := Tryf.underlying81
  a47 := Tryf.isAgg81
  z47 := Tryf.sizeOf81
  v47 := Tryf.zeroValue81
  g0 := by kernel_rfl
  info5 := by kernel_rfl }
open Go.RowKit Go.Lib in
theorem Tryf.hex_DecodeString (s : ByteArray) (w : World) (ev : Value) (hE : w.cell? ⟨3, 0, none⟩ = some ev) (hbig : s.size ≤ 281474976710656) :
    Calls Tryf.prog 17 #[.string s] w fun e w' =>
      e = .returned (.tuple #[.slice (some ⟨w.heap.size, 0, none⟩) (Hx.decode s.data.toList).1.length (s.size / 2), Hx.errVal 81 ev (Hx.decode s.data.toList).2]) ∧
      w'.rowIs w.heap.size 5 (s.size / 2) (Hx.rowP (fun _ => .int .u8 0) 0 (Hx.decode s.data.toList).1) ∧ Below w.heap.size w w' := Any.hex_DecodeString Tryf.laysPah43 s w ev hE hbig
end Go.Proofs
